import PyProof.Rows.All
import Wide.All
import OpenK.AllK
import Wide.FinOn
import Lean
import PySem.Challenge.RW_ik0196_01
open PySem PySem.W PySem.W.X PySem.W.XRun PyProof.Rows PySem.Calls PySem.Spec
set_option Elab.async false
set_option maxRecDepth 100000
set_option compiler.extract_closed false
set_option bootstrap.genMatcherCode false

namespace Mine
noncomputable def keepAt : List Bool → List Stmt → List Stmt
  | true :: b, s :: r => s :: keepAt b r
  | false :: b, _ :: r => keepAt b r
  | _, _ => []
noncomputable def vw : Program := { PySem.Challenge.pw_ik0196_01 with main := { PySem.Challenge.pw_ik0196_01.main with body := keepAt [true, false, true, true, false, true, true, true, true, false, true, false, true, false, true, true, false, true, false, true, false, true, true, true, true, true, false, true, true, true, true, true] PySem.Challenge.pw_ik0196_01.main.body } }
theorem left_of {p q : Program} {loose : List Str} {Xt : Shared → Bool} {α : Type} {Yf : Shared → α} {Ya : World → α} {N : Nat} {g0 : Bool} {H₀ : Params → Heap} {gs₀ : Array GenState} {d₀ : Drawn} {k₀ : Nat}
    (ho : ∀ w : World, Option.map (fun s => (s.heap, s.gens, s.drawn, s.toks)) (fencedOpening treeTable p w N) = some (H₀ w.params, gs₀, d₀, k₀))
    (hr : ∀ (w : World) (os : OsState), (topFrom treeTable p w N { heap := H₀ w.params, gens := gs₀, drawn := d₀, toks := k₀, os := os }).map (fun s => (openSeen q loose (importedModules p.main.body) Xt g0 s, Yf s)) = some (openGood q loose, Ya w)) : LeftO p q loose Xt Yf Ya N g0 := by
  intro w
  obtain ⟨⟨h, g, d, t, os⟩, h1, h2⟩ := Option.map_eq_some_iff.mp (ho w)
  cases h2
  unfold openEnds
  rw [h1]
  exact hr w os
noncomputable def topF (p : Program) (w : World) (N : Nat) (s₀ : Shared) : Option Shared :=
  match s₀.heap.isNs mainGlobals && s₀.gens.size == 0 with
  | true => (PySem.W.Fast.tw14082659384304107361 PySem.W.Fast.tw14364793385576792824 p w s₀.heap.objs.size (s₀.heap.nsMap mainGlobals (Str.ofString "__annotations__")) N s₀ (topStub p)).bind fun s₁ =>
      match staticsOk (importedModules p.main.body) s₀.heap s₁.heap && namesBound p s₁.heap && gensDone s₁ && laidKept s₀.heap s₁.heap with
      | true => some s₁
      | false => none
  | false => none
theorem topF_eq (p : Program) (w : World) (N : Nat) (s₀ : Shared) : topFrom treeTable p w N s₀ = topF p w N s₀ := by
  unfold topF
  rw [← PySem.W.Fast.te14082659384304107361, ← PySem.W.Fast.te14364793385576792824]
  rfl
theorem left_by {p q : Program} {loose : List Str} {Xt : Shared → Bool} {α : Type} {Yf : Shared → α} {Ya : World → α} {N : Nat}
    (e : opening p = plainProg p.main.scope.names) (hN : Nat.ble 600 N = true) (hf : ∀ s, fenceModules? p s = some s)
    (hr : ∀ (w : World) (os : OsState), (topF p w N { heap := boot_heap w.params, gens := #[], drawn := boot_drawn, toks := boot_toks, os := os }).map (fun s => (PySem.W.Fast.tw4187177175401517315 q loose (importedModules p.main.body) Xt true s, Yf s)) = some (openGood q loose, Ya w)) : LeftO p q loose Xt Yf Ya N := by
  refine left_of (boot_open e hN hf) fun w os => ?_
  rw [topF_eq, PySem.W.Fast.te4187177175401517315]
  exact hr w os
theorem ws' : PySem.W.Fast.tw9446332074065402090 PySem.Challenge.rw_ik0196_01 = true := by kernel_rfl
theorem ws : OpenLaw.wellSaid PySem.Challenge.rw_ik0196_01 = true := (congrFun PySem.W.Fast.te9446332074065402090 _).trans ws'
local macro_rules | `(tactic| o_law) => `(tactic| refine holds_law ws fun said => ?_)
/-- the head of this law: what is left are the run of the top and the walk -/
theorem head_of {K : Params → Frag} {as : List Addr} (e : ∀ P, as = (K P).map (·.1)) {d : DefRec} {kwd : List (Str × Expr)}
    (hdef : defOf vw (OpenLaw.row PySem.Challenge.rw_ik0196_01).toRowW.name = some (d, kwd)) (hp : (OpenLaw.row PySem.Challenge.rw_ik0196_01).toRowW.prog.theDef (OpenLaw.row PySem.Challenge.rw_ik0196_01).toRowW.name = some (d.params, d.body, d.scope)) (hk : kwWritten? d.params.kwonlyargs d.params.kw_defaults = some kwd)
    (hr : ∀ (w : World) (os : OsState), (topF (OpenLaw.row PySem.Challenge.rw_ik0196_01).toRowW.prog w 3496 { heap := boot_heap w.params, gens := #[], drawn := boot_drawn, toks := boot_toks, os := os }).map (fun s => (PySem.W.Fast.tw4187177175401517315 vw [Str.ofString "_Accumulator"] (importedModules (OpenLaw.row PySem.Challenge.rw_ik0196_01).toRowW.prog.main.body) (fun s => xlAt vw [] s && recOk (RowW.records (OpenRow.toRowW (OpenLaw.row PySem.Challenge.rw_ik0196_01))) s) true s, (kmHook K as e [63, 70]).obs s)) = some (openGood vw [Str.ofString "_Accumulator"], (kmHook K as e [63, 70]).val w))
    (k1 : (OpenLaw.row PySem.Challenge.rw_ik0196_01).wellSaid = true) (hw : (OpenLaw.row PySem.Challenge.rw_ik0196_01).toRowW.promised)
    (hc : WalkO vw [Str.ofString "_Accumulator"] (XL vw []) (kmHook K as e [63, 70]).says (OpenLaw.row PySem.Challenge.rw_ik0196_01).toRowW d kwd fun f vs => PySem.call f vs) : (OpenLaw.row PySem.Challenge.rw_ik0196_01).Holds :=
  holds_open (left_by (by kernel_rfl) (by kernel_rfl) (fun s => by kernel_rfl) hr) (Hook.of (kmHook K as e [63, 70])) (Hook.keeps (kmHook K as e [63, 70])) (fun s e => xl_of s (Bool.and_eq_true_iff.mp e).1) XL.keeps hdef hp hk (fun s e => recFacts_of (Bool.and_eq_true_iff.mp e).2) rfl k1 (by decide +kernel) ⟨rfl, rfl, rfl, rfl, rfl, by decide +kernel⟩ hw hc
local macro_rules
  | `(tactic| o_head ($_f:ident $K $as $e)) => do
    let hw := Lean.mkIdent `hw
    `(tactic| refine head_of (K := $K) (as := $as) $e (by rfl) (by rfl) (by rfl) (fun w os => by kernel_rfl) (by assumption) ?$hw ?_)
set_option maxHeartbeats 8000000 in
open_top hd for PySem.Challenge.rw_ik0196_01

theorem Ar_room (d : Nat) (h : d < recursionLimit) : d < recursionLimit := h
local macro_rules | `(tactic| x_close) => `(tactic| (with_reducible apply_assumption))

theorem glue_size (g : Array Nat) : ∀ (l : List Str) (a : Array Nat), (l.foldl (fun acc p => acc ++ g ++ p.cps) a).size = a.size + (l.map (·.length)).sum + l.length * g.size
  | [], a => by simp
  | p :: r, a => by
    rw [List.foldl_cons, glue_size g r, List.map_cons, List.sum_cons, List.length_cons, Nat.add_mul, Nat.one_mul, Array.size_append, Array.size_append]
    have : p.length = p.cps.size := rfl
    omega
theorem join_len (sep : Str) (ys : List Str) : (Txt.join sep ys).length ≤ (ys.map (·.length)).sum + ys.length * sep.length := by
  show ((ys.drop 1).foldl (fun acc p => acc ++ sep.cps ++ p.cps) (ys.headD Str.empty).cps).size ≤ _
  rw [glue_size]
  cases ys with
  | nil => simp [Str.empty]
  | cons y r =>
    rw [List.map_cons, List.sum_cons, List.length_cons, Nat.add_mul, Nat.one_mul]
    have e1 : (List.headD (y :: r) Str.empty).cps.size = y.length := rfl
    have e2 : sep.cps.size = sep.length := rfl
    rw [e1, e2]
    simp only [List.drop_succ_cons, List.drop_zero]
    omega
theorem ex0_2 {P Q G : Prop} (h : P ∧ Q) (k : P → Q → G) : G := let ⟨h0, h1⟩ := h; k h0 h1
theorem ex0_3 {P Q R G : Prop} (h : P ∧ Q ∧ R) (k : P → Q → R → G) : G := let ⟨h0, h1, h2⟩ := h; k h0 h1 h2
theorem ex1_1 {α : Type} {P : α → Prop} {G : Prop} (h : ∃ a, P a) (k : ∀ a, P a → G) : G := let ⟨a, h0⟩ := h; k a h0
theorem ex1_2 {α : Type} {P Q : α → Prop} {G : Prop} (h : ∃ a, P a ∧ Q a) (k : ∀ a, P a → Q a → G) : G := let ⟨a, h0, h1⟩ := h; k a h0 h1
theorem ex1_3 {α : Type} {P Q R : α → Prop} {G : Prop} (h : ∃ a, P a ∧ Q a ∧ R a) (k : ∀ a, P a → Q a → R a → G) : G := let ⟨a, h0, h1, h2⟩ := h; k a h0 h1 h2
theorem ex2_1 {α : Type} {β : Type} {P : α → β → Prop} {G : Prop} (h : ∃ a b, P a b) (k : ∀ a b, P a b → G) : G := let ⟨a, b, h0⟩ := h; k a b h0
theorem ex2_2 {α : Type} {β : Type} {P Q : α → β → Prop} {G : Prop} (h : ∃ a b, P a b ∧ Q a b) (k : ∀ a b, P a b → Q a b → G) : G := let ⟨a, b, h0, h1⟩ := h; k a b h0 h1
theorem ex3_1 {α : Type} {β : Type} {γ : Type} {P : α → β → γ → Prop} {G : Prop} (h : ∃ a b c, P a b c) (k : ∀ a b c, P a b c → G) : G := let ⟨a, b, c, h0⟩ := h; k a b c h0
theorem ex4_1 {α : Type} {β : Type} {γ : Type} {δ : Type} {P : α → β → γ → δ → Prop} {G : Prop} (h : ∃ a b c d, P a b c d) (k : ∀ a b c d, P a b c d → G) : G := let ⟨a, b, c, d, h0⟩ := h; k a b c d h0
theorem sub_sub_le {a z : Nat} : a - (a - z) ≤ a := Nat.sub_le _ _
theorem sub_sub_ne {a z : Nat} (h : 0 < a) (hz : 0 < z) : a - (a - z) ≠ 0 := by omega
theorem zero_step (j : Nat) : (0 : Int) + (j : Int) * 1 = (j : Int) := by rw [Int.mul_one, Int.zero_add]
theorem sub_succ {n k d : Nat} (h : n - k = d + 1) : n - (k + 1) = d := by omega
theorem sub_lt1 {n k d : Nat} (h : n - k = d + 1) : k < n := by omega
theorem sub_zero {n k : Nat} (h : n - k = 0) (h2 : k ≤ n) : k = n := by omega

noncomputable abbrev PG : Program := PySem.Challenge.rw_ik0196_01.row.prog
noncomputable abbrev VW : Program := vw
noncomputable abbrev LW : List Str := looseW vw [Str.ofString "_Accumulator"]
noncomputable abbrev Keeps (h h' : Heap) : Prop := ∀ b o, h.get? b = some o → h'.get? b = some o
/-- the calling activation, written out: a depth, a number of C units, the frames below -/
noncomputable abbrev Ar (d u : Nat) (outer : List Env) : Around := { handled := none, depth := d, frames := some outer, guards := none, units := u }
theorem Ar_depth (d u : Nat) (outer : List Env) : (Ar d u outer).depth = d := rfl
theorem Ar_units (d u : Nat) (outer : List Env) : (Ar d u outer).units = u := rfl

theorem in_le {Γ : PySem.Ctx} {A A' : Around} (h : Γ.In A) (hh : A.handled = A'.handled) (hd : A.depth ≤ A'.depth) (hf : ∀ l, A'.frames = some l → A.frames = some l) (hg : ∀ g, A'.guards = some g → A.guards = some g) (hu : A.units ≤ A'.units) : Γ.In A' :=
  ⟨h.1.trans hh, Nat.le_trans h.2.1 hd, fun l hl => h.2.2.1 l (hf l hl), fun g hg' => h.2.2.2.1 g (hg g hg'), Nat.le_trans h.2.2.2.2 hu⟩
theorem wpAny_le {α : Type} {M : Model} {A A' : Around} {t : Sem α} {Q : α → Shared → Prop} {E : Value → Shared → Prop} {s : Shared} (h : wpAny M A' t Q E s)
    (hh : A.handled = A'.handled) (hd : A.depth ≤ A'.depth) (hf : ∀ l, A'.frames = some l → A.frames = some l) (hg : ∀ g, A'.guards = some g → A.guards = some g) (hu : A.units ≤ A'.units) : wpAny M A t Q E s :=
  fun Γ p hΓ => h Γ p (in_le hΓ hh hd hf hg hu)
/-- the calling activation is within a depth and a number of C units -/
noncomputable def okA (A : Around) (d u : Nat) : Bool := A.handled.isNone && Nat.ble A.depth d && A.frames.isSome && Nat.ble A.units u
theorem okA_spec {A : Around} {d u : Nat} (h : okA A d u = true) : A.handled = none ∧ A.depth ≤ d ∧ A.frames.isSome = true ∧ A.units ≤ u := by
  unfold okA at h
  simp only [Bool.and_eq_true] at h
  exact ⟨Option.isNone_iff_eq_none.mp h.1.1.1, Nat.le_of_ble_eq_true h.1.1.2, h.1.2, Nat.le_of_ble_eq_true h.2⟩
theorem wpAny_Ar {α : Type} {M : Model} {A : Around} {d u : Nat} {t : Sem α} {Q : α → Shared → Prop} {E : Value → Shared → Prop} {s : Shared} (h : ∀ outer, wpAny M (Ar d u outer) t Q E s)
    (hA : okA A d u = true) : wpAny M A t Q E s := by
  obtain ⟨hh, hd, hf, hu⟩ := okA_spec hA
  obtain ⟨fr, hfr⟩ := Option.isSome_iff_exists.mp hf
  exact wpAny_le (h fr) hh hd (fun l hl => hfr.trans hl) (fun g hg => nomatch hg) hu

/-- a value that holds a text -/
noncomputable abbrev IsT (v : Value) (x : Str) : Prop := ∃ t, v = .str x t
/-- a contract of a def that changes no old object: what holds of the heap ahead, what of the answer -/
noncomputable def PureC (w : World) (f : Addr) (vs : List Value) (d u : Nat) (pre : Heap → Prop) (R : Heap → Value → Heap → Prop) : Prop :=
  ∀ (outer : List Env) (s : Shared) (mg mb : Str → Option Value) (Q E : Value → Shared → Prop),
    (hd.heap_1 w.params).In s.heap → TopRead VW LW mg mb s.heap → pre s.heap →
    (∀ r h' tk, R s.heap r h' → Keeps s.heap h' → Q r { s with heap := h', toks := tk }) →
    wpAny (model PG w) (Ar d u outer) (call (.ref f) vs) Q E s

section
variable {w : World} {A : Around} {s : Shared} {h₀ : Heap} {L f : Addr} {m mg mb : Str → Option Value} {news : List (Addr × Obj)} {vs : List Value} {d u : Nat} {pre : Heap → Prop} {R : Heap → Value → Heap → Prop} {Q E : Value → Shared → Prop}
theorem fr_keeps {h h' : Heap} (F : Fr h₀ L h m) (k : Keeps h h') : Fr h₀ L h' m := ⟨F.ns.keeps k, fun b o e => k b o (F.keep b o e), F.above⟩
theorem news_keeps {h h' : Heap} (N : News h₀ L h news) (k : Keeps h h') : News h₀ L h' news := fun p hp => ⟨k _ _ (N p hp).1, (N p hp).2⟩
theorem news_fresh {h h' : Heap} {D : Addr} {o : Obj} (F : Fr h₀ L h m) (N : News h₀ L h news) (k : Keeps h h') (hn : h.get? D = none) (ho : h'.get? D = some o) : News h₀ L h' ((D, o) :: news) ∧ GnNe D news := by
  refine ⟨fun p hp => ?_, gnNe_of fun p hp e => ?_⟩
  · rcases List.mem_cons.mp hp with rfl | hp
    · refine ⟨ho, fun e => ?_, ?_⟩
      · obtain ⟨oL, _, _, hL, _⟩ := F.ns
        have e' : D = L := e
        rw [e', hL] at hn; cases hn
      · cases q : h₀.get? D with
        | none => rfl
        | some o' => have := F.keep _ _ q; rw [hn] at this; cases this
    · exact news_keeps N k p hp
  · have := (N p hp).1
    rw [e, hn] at this; cases this
theorem use_pure {hp0 : Heap} {gs : Array GenState} {dr : Drawn} {tk0 : Nat} {os : OsState} (C : PureC w f vs d u pre R) (F : Fr h₀ L hp0 m) (N : News h₀ L hp0 news) (X : (hd.heap_1 w.params).In h₀) (T : TopRead VW LW mg mb h₀)
    (hA : okA A d u = true) (hp : pre hp0)
    (h : ∀ r h' tk, R hp0 r h' → Fr h₀ L h' m → News h₀ L h' news → (∀ D o, hp0.get? D = none → h'.get? D = some o → News h₀ L h' ((D, o) :: news) ∧ GnNe D news) → Q r ⟨h', gs, dr, tk, os⟩) : wpAny (model PG w) A (call (.ref f) vs) Q E ⟨hp0, gs, dr, tk0, os⟩ :=
  wpAny_Ar (fun outer => C outer ⟨hp0, gs, dr, tk0, os⟩ mg mb Q E (X.keeps F.keep) (T.keeps F.keep) hp fun r h' tk hr k => h r h' tk hr (fr_keeps F k) (news_keeps N k) fun _ _ hn ho => news_fresh F N k hn ho) hA
/-- as use_pure, of a def that gives a text -/
theorem use_pureT {hp0 : Heap} {gs : Array GenState} {dr : Drawn} {tk0 : Nat} {os : OsState} {x : Str} (C : PureC w f vs d u pre (fun _ r _ => IsT r x)) (F : Fr h₀ L hp0 m) (N : News h₀ L hp0 news) (X : (hd.heap_1 w.params).In h₀) (T : TopRead VW LW mg mb h₀)
    (hA : okA A d u = true) (hp : pre hp0)
    (h : ∀ t h' tk, Fr h₀ L h' m → News h₀ L h' news → Q (.str x t) ⟨h', gs, dr, tk, os⟩) : wpAny (model PG w) A (call (.ref f) vs) Q E ⟨hp0, gs, dr, tk0, os⟩ :=
  use_pure C F N X T hA hp fun r h' tk ⟨t, e⟩ F' N' _ => e ▸ h t h' tk F' N'
end
section
variable {M : Model} {A : Around} {E : Value → Shared → Prop} {env : Env} {Q : Value → Shared → Prop} {h : Heap} {g : Array GenState} {d : Drawn} {t : Nat} {o : OsState} {k : Nat} {pos : Pos}
theorem const_str {x : Str} (hq : Q (.str x t) ⟨h, g, d, t + 1, o⟩) : wpAny M A (eval (.Constant (.str x) k pos) env) Q E ⟨h, g, d, t, o⟩ := Calls.Constant_str hq
theorem const_int {i : Int} (hq : Q (.int i t) ⟨h, g, d, t + 1, o⟩) : wpAny M A (eval (.Constant (.int i) k pos) env) Q E ⟨h, g, d, t, o⟩ := wpAny_Constant_int hq
end
section
variable {w : World} {A : Around} {s : Shared} {K : Frag} {hid : List Addr} {R : Result → Shared → Prop} {name qual : Str} {params : Arguments} {body : List Stmt} {scope : Scope} {cl : List (Str × Addr)} {dV kV doc pm cdv ct oc : Value} {an od : Option Addr} {osl : Array (Option Value)} {f : Addr} {args : Args} {binds : List (Str × Value)}
/-- into a def's body: the base is all that stands -/
theorem enterP (X : K.In s.heap) (hlim : s.heap.NoLimit) (ho : K.lookup f = some ⟨oc, od, .func (fnX name qual params body scope cl dV kV doc pm an cdv ct), osl⟩) (hcd : codeIn K cdv qual = true) (hroom : A.depth < recursionLimit)
    (hbind : BindsTo s (fnX name qual params body scope cl dV kV doc pm an cdv ct) args binds) (hloc : ∀ y ∈ binds, scope.names.lookup y.1 = some .local)
    (h : ∀ L' h₁ tk, Fr s.heap L' h₁ (fun y => binds.reverse.lookup y) → News s.heap L' h₁ [] →
      wpAny (model PG w) (A.deeper (envX qual scope L' f cdv cl)) (execs body (envX qual scope L' f cdv cl))
        (fun fl s' => R (.ok (.ret (match fl with | .ret v => v | _ => .none))) s') (fun _ _ => False)
        { s with heap := h₁, toks := tk })
    (hco : scope.isCoroutine = false) (hgen : scope.isGenerator = false) (hk : scope.kind = .function)
    (hcell : ∀ x ∈ scope.names, x.2 ≠ .cell) : codeAny (model PG w) A (.call (.ref f) args) R s := by
  refine codeAny_call_def (fd := fnX name qual params body scope cl dV kV doc pm an cdv ct) (body := body) (binds := binds) hroom (X _ _ ho) rfl hlim (codeRec_of X hcd) rfl hbind hcell hloc (fun h₁ hns hk₁ => ?_) hco hgen hk
  exact wpAny_mono (h _ h₁ _ ⟨hns, hk₁, Nat.le_refl _⟩ News.nil) (fun _ _ x => x) fun _ _ x => x.elim
end

section
variable {w : World} {A : Around} {s : Shared} {K : Frag} {R : Result → Shared → Prop} {name qual : Str} {params : Arguments} {body : List Stmt} {scope : Scope} {cl : List (Str × Addr)} {dV kV doc pm cdv ct oc : Value} {an od : Option Addr} {osl : Array (Option Value)} {f : Addr} {args : Args} {binds : Addr → List (Str × Value)} {vs : List Value}
/-- into the body of a def with *rest: the tuple of the rest is made first -/
theorem enterV (X : K.In s.heap) (hlim : s.heap.NoLimit) (ho : K.lookup f = some ⟨oc, od, .func (fnX name qual params body scope cl dV kV doc pm an cdv ct), osl⟩) (hcd : codeIn K cdv qual = true) (hroom : A.depth < recursionLimit)
    (hbind : bindArgs (fnX name qual params body scope cl dV kV doc pm an cdv ct) args = Sem.alloc { cls := .type "tuple", data := .seq vs.toArray } fun a => Sem.pure (binds a)) (hloc : ∀ a, ∀ y ∈ binds a, scope.names.lookup y.1 = some .local)
    (h : ∀ C L' h₁ tk, Fr s.heap L' h₁ (fun y => (binds C).reverse.lookup y) → News s.heap L' h₁ [(C, { cls := .type "tuple", data := .seq vs.toArray })] →
      wpAny (model PG w) (A.deeper (envX qual scope L' f cdv cl)) (execs body (envX qual scope L' f cdv cl))
        (fun fl s' => R (.ok (.ret (match fl with | .ret v => v | _ => .none))) s') (fun _ _ => False)
        { s with heap := h₁, toks := tk })
    (hco : scope.isCoroutine = false) (hgen : scope.isGenerator = false) (hk : scope.kind = .function)
    (hcell : ∀ x ∈ scope.names, x.2 ≠ .cell) : codeAny (model PG w) A (.call (.ref f) args) R s := by
  refine codeAny_call_function (fd := fnX name qual params body scope cl dV kV doc pm an cdv ct) (body := body) hroom (X _ _ ho) rfl hco hgen rfl (codeRec_of X hcd) ?_
  rw [hbind]
  refine wpAny_bind (m := alloc _) (f := fun a => Sem.pure (binds a)) (wpAny_alloc (wpAny_pure ?_))
  refine wpAny_newFunctionEnv hcell (hloc _) (fun h₁ hns hsb => ⟨(hlim.keeps fun b o e => Heap.get?_push_of_some _ e).fresh _ hsb, codeAny_func ?_⟩) hk
  have hk₁ : Keeps (s.heap.push { cls := .type "tuple", data := .seq vs.toArray }) h₁ := fun b o e => hsb.extBut b o (Nat.ne_of_lt (Heap.lt_size e)) (Heap.get?_push_of_some _ e)
  refine wpAny_mono (h s.heap.objs.size _ h₁ _ ⟨hns, fun b o e => hk₁ b o (Heap.get?_push_of_some _ e), by rw [Heap.size_push]; exact Nat.le_succ _⟩ ?_) (fun _ _ x => x) fun _ _ x => x.elim
  intro p hp
  rw [List.mem_singleton.mp hp]
  refine ⟨hk₁ _ _ (Heap.get?_push_size _ rfl), ?_, ?_⟩
  · show s.heap.objs.size ≠ _
    rw [Heap.size_push]; omega
  · cases q : s.heap.get? s.heap.objs.size with
    | none => rfl
    | some o => exact absurd (Heap.lt_size q) (Nat.lt_irrefl _)
end

/-- a try whose body raises nothing -/
theorem try_calm {prog : Program} {w : World} {A : Around} {s : Shared} {env : Env} {body orelse : List Stmt} {h₀ : ExceptHandler} {hs : List ExceptHandler} {pos : Pos} {Q : Flow → Shared → Prop} {E : Value → Shared → Prop}
    (h : wpAny (model prog w) A (execs body env) (fun f s₁ => match f with | .next => wpAny (model prog w) A (execs orelse env) Q E s₁ | f => Q f s₁) (fun _ _ => False) s) :
    wpAny (model prog w) A (exec (.Try body (h₀ :: hs) orelse [] pos) env) Q E s :=
  wpAny_Try_except (wpAny_mono h (fun f s₁ x => x) fun _ _ x => x.elim)
local macro_rules | `(tactic| walk_at "eval Constant str") => `(tactic| with_reducible refine const_str ?_)
local macro_rules | `(tactic| walk_at "eval Constant int") => `(tactic| with_reducible refine const_int ?_)
local macro_rules | `(tactic| k_room) => `(tactic| ((try simp only [depth_under_make, depth_under_kw, depth_in1, depth_deeper, Ar_depth]); decide))
local macro_rules | `(tactic| k_enter) => `(tactic| (refine' enterP (by k_asm) (by exact TopRead.nolimit (by k_asm)) (by k_is) (by k_is) (by k_room) (by exact BindsTo.of_eq rfl) (by exact locs rfl) ?_ (by exact rfl) (by exact rfl) (by exact rfl) (by decide); k_whole; intro L' h' tk' F' N'; (try dsimp only)))
local macro_rules | `(tactic| walk_at "exec Try") => `(tactic| (k_here; with_reducible refine try_calm ?_))

section
variable {w : World} {A : Around} {s : Shared} {K : Frag} {h₀ : Heap} {hid : List (Addr × Obj)} {mg mb : Str → Option Value} {R : Result → Shared → Prop} {name qual : Str} {params : Arguments} {body : List Stmt} {scope : Scope} {cl : List (Str × Addr)} {dV kV doc pm cdv ct oc : Value} {an od : Option Addr} {osl : Array (Option Value)} {f : Addr} {args : Args} {binds : List (Str × Value)}
theorem hide_base (hsub : Keeps h₀ s.heap) (hh : ∀ p ∈ hid, h₀.get? p.1 = none) : Keeps h₀ (hideAll s.heap (hid.map (·.1))) := fun b o e => by
  refine hideAll_get _ (hsub b o e) fun q => ?_
  obtain ⟨p, hp, rfl⟩ := List.mem_map.mp q
  rw [hh p hp] at e; cases e
/-- into the body of a def that changes the objects hid: they are no part of its base -/
theorem enterH (X : K.In h₀) (T : TopRead VW LW mg mb h₀) (hsub : Keeps h₀ s.heap) (hh : ∀ p ∈ hid, h₀.get? p.1 = none) (hat : ∀ p ∈ hid, s.heap.get? p.1 = some p.2)
    (ho : K.lookup f = some ⟨oc, od, .func (fnX name qual params body scope cl dV kV doc pm an cdv ct), osl⟩) (hcd : codeIn K cdv qual = true) (hroom : A.depth < recursionLimit)
    (hbind : BindsTo s (fnX name qual params body scope cl dV kV doc pm an cdv ct) args binds) (hloc : ∀ y ∈ binds, scope.names.lookup y.1 = some .local)
    (h : ∀ g L' h₁ tk, (∀ b o, b ∉ hid.map (·.1) → s.heap.get? b = some o → g.get? b = some o) → Fr g L' h₁ (fun y => binds.reverse.lookup y) → News g L' h₁ hid → K.In g → TopRead VW LW mg mb g → (∀ p ∈ hid, p.1 < L') →
      wpAny (model PG w) (A.deeper (envX qual scope L' f cdv cl)) (execs body (envX qual scope L' f cdv cl))
        (fun fl s' => R (.ok (.ret (match fl with | .ret v => v | _ => .none))) s') (fun _ _ => False)
        { s with heap := h₁, toks := tk })
    (hco : scope.isCoroutine = false) (hgen : scope.isGenerator = false) (hk : scope.kind = .function)
    (hcell : ∀ x ∈ scope.names, x.2 ≠ .cell) : codeAny (model PG w) A (.call (.ref f) args) R s := by
  have kg := hide_base hsub hh
  refine codeAny_call_def (fd := fnX name qual params body scope cl dV kV doc pm an cdv ct) (body := body) (binds := binds) hroom (hsub _ _ (X _ _ ho)) rfl (T.nolimit.keeps hsub) (codeRec_of (X.keeps hsub) hcd) rfl hbind hcell hloc (fun h₁ hns hk₁ => ?_) hco hgen hk
  refine wpAny_mono (h _ s.heap.objs.size h₁ _ (fun b o hb e => hideAll_get _ e hb) ⟨hns, fun b o e => hk₁ b o (of_hideAll _ e), Nat.le_of_eq (hideAll_size _ _)⟩ (fun p hp => ⟨hk₁ _ _ (hat p hp), Nat.ne_of_lt (Heap.lt_size (hat p hp)), hideAll_none _ (List.mem_map_of_mem hp)⟩)
    (X.keeps kg) (T.keeps kg) fun p hp => Heap.lt_size (hat p hp)) (fun _ _ x => x) fun _ _ x => x.elim
end

/-- a contract of a def that changes the objects hid alone -/
noncomputable def MutC (w : World) (f : Addr) (vs : List Value) (d u : Nat) (hid : List (Addr × Obj)) (pre : Heap → Prop) (R : Heap → Value → Heap → List (Addr × Obj) → Prop) : Prop :=
  ∀ (outer : List Env) (s : Shared) (h₀ : Heap) (mg mb : Str → Option Value) (Q E : Value → Shared → Prop),
    (hd.heap_1 w.params).In h₀ → TopRead VW LW mg mb h₀ → Keeps h₀ s.heap → (∀ p ∈ hid, h₀.get? p.1 = none) → (∀ p ∈ hid, s.heap.get? p.1 = some p.2) → pre s.heap →
    (∀ r h' tk hid', R s.heap r h' hid' → (∀ p ∈ hid', h'.get? p.1 = some p.2) → (∀ b o, b ∉ hid.map (·.1) → s.heap.get? b = some o → h'.get? b = some o) → Q r { s with heap := h', toks := tk }) →
    wpAny (model PG w) (Ar d u outer) (call (.ref f) vs) Q E s
section
variable {w : World} {A : Around} {s : Shared} {h₀ : Heap} {L f : Addr} {m mg mb : Str → Option Value} {news rest hid hid' : List (Addr × Obj)} {vs : List Value} {d u : Nat} {pre : Heap → Prop} {R : Heap → Value → Heap → List (Addr × Obj) → Prop} {Q E : Value → Shared → Prop}
theorem fr_but {h h' : Heap} (F : Fr h₀ L h m) (N : News h₀ L h hid) (k : ∀ b o, b ∉ hid.map (·.1) → h.get? b = some o → h'.get? b = some o) : Fr h₀ L h' m := by
  refine ⟨F.ns.at' fun o e => k _ o (fun q => ?_) e, fun b o e => k b o (fun q => ?_) (F.keep b o e), F.above⟩
  · obtain ⟨p, hp, e'⟩ := List.mem_map.mp q
    exact (N p hp).2.1 e'
  · obtain ⟨p, hp, rfl⟩ := List.mem_map.mp q
    rw [(N p hp).2.2] at e; cases e
theorem news_but {h h' : Heap} (N : News h₀ L h (hid ++ rest)) (hs : ∀ p ∈ hid', p.1 ∈ hid.map (·.1)) (hr : ∀ p ∈ rest, p.1 ∉ hid.map (·.1)) (hat : ∀ p ∈ hid', h'.get? p.1 = some p.2) (k : ∀ b o, b ∉ hid.map (·.1) → h.get? b = some o → h'.get? b = some o) : News h₀ L h' (hid' ++ rest) := by
  intro p hp
  rcases List.mem_append.mp hp with q | q
  · obtain ⟨p', hp', e⟩ := List.mem_map.mp (hs p q)
    have z := N p' (List.mem_append_left _ hp')
    exact ⟨hat p q, e ▸ z.2.1, e ▸ z.2.2⟩
  · have z := N p (List.mem_append_right _ q)
    exact ⟨k _ _ (hr p q) z.1, z.2⟩
theorem use_mut {hp0 : Heap} {gs : Array GenState} {dr : Drawn} {tk0 : Nat} {os : OsState} (C : MutC w f vs d u hid pre R) (F : Fr h₀ L hp0 m) (N : News h₀ L hp0 (hid ++ rest)) (X : (hd.heap_1 w.params).In h₀) (T : TopRead VW LW mg mb h₀)
    (hA : okA A d u = true) (hp : pre hp0)
    (h : ∀ r h' tk hid', R hp0 r h' hid' → (∀ p ∈ hid', h'.get? p.1 = some p.2) → (∀ b o, b ∉ hid.map (·.1) → hp0.get? b = some o → h'.get? b = some o) → Fr h₀ L h' m → Q r ⟨h', gs, dr, tk, os⟩) : wpAny (model PG w) A (call (.ref f) vs) Q E ⟨hp0, gs, dr, tk0, os⟩ := by
  have Nh : News h₀ L hp0 hid := fun p hp => N p (List.mem_append_left _ hp)
  exact wpAny_Ar (fun outer => C outer ⟨hp0, gs, dr, tk0, os⟩ h₀ mg mb Q E X T F.keep (fun p hp => (Nh p hp).2.2) (fun p hp => (Nh p hp).1) hp fun r h' tk hid' hr hat k => h r h' tk hid' hr hat k (fr_but F Nh k)) hA
end

/-- a turn's end: what is tracked (nx) stood at the turn's start or is new; the loop's own things stand -/
inductive TurnEnd (h₀ : Heap) (L : Addr) (own news₁ : List (Addr × Obj)) (J' : (Str → Option Value) → List (Addr × Obj) → Prop) (s₁ s₂ : Shared) : Prop
  | mk (h' : Heap) (tk : Nat) (m' : Str → Option Value) (nx : List (Addr × Obj)) : s₂ = { s₁ with heap := h', toks := tk } → Fr h₀ L h' m' → News h₀ L h' (nx ++ own) → (∀ p ∈ nx, p.1 ∈ news₁.map (·.1) ∨ s₁.heap.get? p.1 = none) → J' m' nx → TurnEnd h₀ L own news₁ J' s₁ s₂
noncomputable def TurnPost (h₀ : Heap) (L : Addr) (own news₁ : List (Addr × Obj)) (J' : (Str → Option Value) → List (Addr × Obj) → Prop) (s₁ : Shared) (Q : Flow → Shared → Prop) (f : Flow) (s₂ : Shared) : Prop :=
  match f with
  | .ret v => Q (.ret v) s₂
  | .brk => Q .next s₂
  | _ => TurnEnd h₀ L own news₁ J' s₁ s₂
theorem TurnEnd.intro {h₀ : Heap} {L : Addr} {own news₁ nx : List (Addr × Obj)} {J' : (Str → Option Value) → List (Addr × Obj) → Prop} {s₁ : Shared} {h' : Heap} {tk : Nat} {m' : Str → Option Value}
    (F : Fr h₀ L h' m') (N : News h₀ L h' (nx ++ own)) (ha : nx.map (·.1) = news₁.map (·.1)) (hj : J' m' nx) : TurnEnd h₀ L own news₁ J' s₁ { s₁ with heap := h', toks := tk } :=
  ⟨h', tk, m', nx, rfl, F, N, fun p hp => .inl (ha ▸ List.mem_map_of_mem hp), hj⟩

section
variable {prog : Program} {w : World} {A : Around} {s : Shared} {env : Env} {h₀ : Heap} {x : Str} {px pos : Pos} {iter : Expr} {body : List Stmt} {Q : Flow → Shared → Prop}
/-- a for over a list that the loop does not change -/
theorem for_list {L l : Addr} {vs : List Value} {m₀ : Str → Option Value} {news : List (Addr × Obj)} (J : Nat → (Str → Option Value) → List (Addr × Obj) → Prop)
    (hh : A.handled = none) (hL : env.locals = L) (hiter : ∀ Q' : Value → Shared → Prop, Q' (.ref l) s → wpAny (model prog w) A (eval iter env) Q' (fun _ _ => False) s)
    (hl : s.heap.IsList l vs.toArray) (hlL : l ≠ L) (hln : ∀ p ∈ news, p.1 ≠ l) (hx : env.kindOf x = some .local)
    (hp : (env.scope.kind == .class || (env.scope.kind == .module && env.locals != env.globals)) = false)
    (F : Fr h₀ L s.heap m₀) (N : News h₀ L s.heap news) (hj : J 0 m₀ news)
    (turn : ∀ i v m₁ news₁ h tk own, vs[i]? = some v → J i m₁ news₁ → (∀ p ∈ own, ∀ q ∈ news₁, p.1 ≠ q.1) → Fr h₀ L h (fun y => if y = x then some v else m₁ y) → News h₀ L h (news₁ ++ own) →
      wpAny (model prog w) A (execs body env) (TurnPost h₀ L own news₁ (J (i + 1)) { s with heap := h, toks := tk } Q) (fun _ _ => False) { s with heap := h, toks := tk })
    (done : ∀ m₁ news₁ h tk, J vs.length m₁ news₁ → Fr h₀ L h m₁ → News h₀ L h news₁ → Q .next { s with heap := h, toks := tk })
    (hs : ∀ x, foldedSetIterable iter env x = pure x := by intro _; rfl) :
    wpAny (model prog w) A (exec (.For (.Name x px) iter body [] pos) env) Q (fun _ _ => False) s := by
  subst hL
  refine For_invV h₀ hx hp (hiter _ ?_) hs PassesOwn.never
  refine wpAny_pyIter_list hl ?_
  have hlv : ∃ ol, s.heap.get? l = some ol := let ⟨o, ho, _⟩ := hl; ⟨o, ho⟩
  obtain ⟨ol, hol⟩ := hlv
  have hlt : l < s.heap.objs.size := Heap.lt_size hol
  have hne : l ≠ s.heap.objs.size := Nat.ne_of_lt hlt
  have W := Walks.list (prog := prog) (w := w) hh s.heap.objs.size l hne vs.toArray
  have hlen : vs.toArray.size = vs.length := by simp
  rw [hlen] at W
  have up : Keeps s.heap (s.heap.push { cls := .type "list_iterator", data := .fields #[.ref l, .int 0 0] }) := fun b o e => Heap.get?_push_of_some _ e
  refine ⟨_, _, _, vs.length, _, _, m₀, news, fun i m n => J i m n ∧ ∀ p ∈ n, p.1 ≠ l, rfl, W, ?_, ?_, ?_, ⟨⟨_, Heap.get?_push_size _ rfl, rfl, rfl⟩, hl.at fun o e => up _ _ e⟩, F.push _, news_keeps N up, ⟨hj, hln⟩, ?_, ?_⟩
  · intro hm
    rcases List.mem_cons.mp hm with e | hm
    · exact absurd F.ns.lt (e ▸ Nat.lt_irrefl _)
    · exact hlL (List.mem_singleton.mp hm).symm
  · intro b hb
    rw [List.mem_singleton.mp hb]
    exact next_is_new F
  · intro p hp hI
    exact absurd (Heap.lt_size (N p hp).1) ((List.mem_singleton.mp hI) ▸ Nat.lt_irrefl _)
  · rintro i v m₁ news₁ s₁ own ⟨hh', tk', rfl⟩ hin hP ⟨hJ, hnl⟩ hoff hown hownAt hall hst F₁ N₁
    have hP' : vs[i]? = some v := by simpa using hP
    obtain ⟨⟨oI, hoI, _⟩, ⟨ol', hol', _⟩⟩ := hst
    have sep : ∀ p ∈ own, ∀ q ∈ news₁, p.1 ≠ q.1 := by
      intro p hp q hq e
      rcases List.mem_cons.mp (hown p hp) with h1 | h1
      · exact hoff q hq (by rw [← e, h1]; exact .head _)
      · exact hnl q hq (by rw [← e]; exact List.mem_singleton.mp h1)
    have N₂ : News h₀ env.locals hh' (news₁ ++ own) := fun p hp => N₁ p ((List.mem_append.mp hp).elim (fun h => List.mem_append.mpr (.inr h)) fun h => List.mem_append.mpr (.inl h))
    refine wpAny_mono (turn i v m₁ news₁ hh' tk' own hP' hJ sep F₁ N₂) (fun f s₂ p => ?_) fun _ _ e => e
    have fin : TurnEnd h₀ env.locals own news₁ (J (i + 1)) { s with heap := hh', toks := tk' } s₂ → LoopStepU h₀ env.locals [s.heap.objs.size] own (fun m n => J (i + 1) m n ∧ ∀ p ∈ n, p.1 ≠ l) { s with heap := hh', toks := tk' } .next s₂ := by
      rintro ⟨h', tk, m', nx, e, F', N', ha, hm⟩
      refine ⟨rfl, h', tk, m', nx, e, F', fun p hp => N' p ((List.mem_append.mp hp).elim (fun h => List.mem_append.mpr (.inr h)) fun h => List.mem_append.mpr (.inl h)), fun p hp hq => ?_, hm, fun p hp hq => ?_⟩
      · rcases ha p hp with h1 | h1
        · obtain ⟨q, hq1, hq2⟩ := List.mem_map.mp h1
          exact hoff q hq1 (by rw [hq2]; exact hq)
        · rw [List.mem_singleton.mp hq] at h1
          have : hh'.get? s.heap.objs.size = none := h1
          rw [hoI] at this; cases this
      · rcases ha p hp with h1 | h1
        · obtain ⟨q, hq1, hq2⟩ := List.mem_map.mp h1
          exact hnl q hq1 (by rw [hq2]; exact hq)
        · rw [hq] at h1
          have : hh'.get? l = none := h1
          rw [hol'] at this; cases this
    cases f with
    | ret v => exact .ret p
    | brk => exact .brk p
    | next => exact .next (fin p)
    | cont => exact .cont (fin p)
  · rintro h' tk m' news' F' N' _ ⟨hJ, _⟩
    exact done m' news' h' tk hJ F' N'
end
/-- a goal that the walk leaves to be closed by hand -/
noncomputable def Hold (P : Prop) : Prop := P
theorem Hold.out {P : Prop} (h : Hold P) : P := h

/-- one object turns in the loop, and of the frame's names the loop's own alone -/
inductive ObjEnd (h₀ : Heap) (L : Addr) (x : Str) (m₀ : Str → Option Value) (d : Addr) (rest own : List (Addr × Obj)) (J' : Obj → Prop) (s₁ s₂ : Shared) : Prop
  | mk (h' : Heap) (tk : Nat) (m' : Str → Option Value) (o' : Obj) : s₂ = { s₁ with heap := h', toks := tk } → Fr h₀ L h' m' → (∀ y, y ≠ x → m' y = m₀ y) → News h₀ L h' ((d, o') :: (rest ++ own)) → J' o' → ObjEnd h₀ L x m₀ d rest own J' s₁ s₂
noncomputable def ObjPost (h₀ : Heap) (L : Addr) (x : Str) (m₀ : Str → Option Value) (d : Addr) (rest own : List (Addr × Obj)) (J' : Obj → Prop) (s₁ : Shared) (Q : Flow → Shared → Prop) (f : Flow) (s₂ : Shared) : Prop :=
  match f with
  | .ret v => Q (.ret v) s₂
  | .brk => Q .next s₂
  | _ => ObjEnd h₀ L x m₀ d rest own J' s₁ s₂
theorem ObjPost.go {h₀ : Heap} {L : Addr} {x : Str} {m₀ m' : Str → Option Value} {d : Addr} {rest own : List (Addr × Obj)} {J' : Obj → Prop} {s₁ : Shared} {Q : Flow → Shared → Prop} {h' : Heap} {tk : Nat} {o' : Obj}
    (F : Fr h₀ L h' m') (hm : ∀ y, y ≠ x → m' y = m₀ y) (N : News h₀ L h' ((d, o') :: (rest ++ own))) (hj : J' o') : ObjPost h₀ L x m₀ d rest own J' s₁ Q .next { s₁ with heap := h', toks := tk } ∧ ObjPost h₀ L x m₀ d rest own J' s₁ Q .cont { s₁ with heap := h', toks := tk } :=
  ⟨⟨h', tk, m', o', rfl, F, hm, N, hj⟩, ⟨h', tk, m', o', rfl, F, hm, N, hj⟩⟩
section
variable {prog : Program} {w : World} {A : Around} {s : Shared} {env : Env} {h₀ : Heap} {x : Str} {px pos : Pos} {iter : Expr} {body : List Stmt} {Q : Flow → Shared → Prop}
theorem for_obj {L l : Addr} {vs : List Value} {m₀ : Str → Option Value} {d : Addr} {o₀ : Obj} {rest : List (Addr × Obj)} (J : Nat → Obj → Prop)
    (hh : A.handled = none) (hL : env.locals = L) (F : Fr h₀ L s.heap m₀) (N : News h₀ L s.heap ((d, o₀) :: rest)) (hl : s.heap.IsList l vs.toArray) (hiter : ∀ Q' : Value → Shared → Prop, Q' (.ref l) s → wpAny (model prog w) A (eval iter env) Q' (fun _ _ => False) s)
    (hlL : l ≠ L) (hln : ∀ p ∈ (d, o₀) :: rest, p.1 ≠ l) (hx : env.kindOf x = some .local)
    (hp : (env.scope.kind == .class || (env.scope.kind == .module && env.locals != env.globals)) = false) (hj : J 0 o₀)
    (turn : ∀ i v o h tk own, vs[i]? = some v → J i o → (∀ p ∈ own, p.1 ≠ d) → Fr h₀ L h (fun y => if y = x then some v else m₀ y) → News h₀ L h ((d, o) :: (rest ++ own)) →
      wpAny (model prog w) A (execs body env) (ObjPost h₀ L x m₀ d rest own (J (i + 1)) { s with heap := h, toks := tk } Q) (fun _ _ => False) { s with heap := h, toks := tk })
    (done : ∀ u o h tk, J vs.length o → Fr h₀ L h (fun y => if y = x then u else m₀ y) → News h₀ L h ((d, o) :: rest) → Q .next { s with heap := h, toks := tk })
    (hs : ∀ x, foldedSetIterable iter env x = pure x := by intro _; rfl) :
    wpAny (model prog w) A (exec (.For (.Name x px) iter body [] pos) env) Q (fun _ _ => False) s := by
  subst hL
  refine for_list (fun i m n => (∀ y, y ≠ x → m y = m₀ y) ∧ ∃ o, n = (d, o) :: rest ∧ J i o) hh rfl hiter hl hlL hln hx hp F N ⟨fun _ _ => rfl, o₀, rfl, hj⟩ ?_ ?_ hs
  · rintro i v m₁ news₁ h tk own hv ⟨hm, o, rfl, hJ⟩ sep F₁ N₁
    have e : (fun y => if y = x then some v else m₁ y) = fun y => if y = x then some v else m₀ y := by
      funext y
      by_cases q : y = x
      · simp [q]
      · simp only [if_neg q]; exact hm y q
    rw [e] at F₁
    refine wpAny_mono (turn i v o h tk own hv hJ (fun p hp => sep p hp (d, o) (.head _)) F₁ N₁) (fun f s₂ p => ?_) fun _ _ e => e
    have fin : ObjEnd h₀ env.locals x m₀ d rest own (J (i + 1)) { s with heap := h, toks := tk } s₂ →
        TurnEnd h₀ env.locals own ((d, o) :: rest) (fun m n => (∀ y, y ≠ x → m y = m₀ y) ∧ ∃ o, n = (d, o) :: rest ∧ J (i + 1) o) { s with heap := h, toks := tk } s₂ := by
      rintro ⟨h', tk', m', o', rfl, F', hm', N', hJ'⟩
      exact TurnEnd.intro (nx := (d, o') :: rest) F' N' rfl ⟨hm', o', rfl, hJ'⟩
    cases f with
    | ret v => exact p
    | brk => exact p
    | next => exact fin p
    | cont => exact fin p
  · rintro m₁ news₁ h tk ⟨hm, o, rfl, hJ⟩ F₁ N₁
    refine done (m₁ x) o h tk hJ ?_ N₁
    have e : (fun y => if y = x then m₁ x else m₀ y) = m₁ := by
      funext y
      by_cases q : y = x
      · simp [q]
      · simp only [if_neg q]; exact (hm y q).symm
    rw [e]; exact F₁
end
theorem strValues_get {l : List (Str × Tok)} {i : Nat} {v : Value} (h : (strValues l)[i]? = some v) : ∃ c u, v = .str c u ∧ l[i]? = some (c, u) := by
  unfold strValues at h
  rw [List.getElem?_map] at h
  cases q : l[i]? with
  | none => rw [q] at h; cases h
  | some p => rw [q] at h; obtain ⟨c, u⟩ := p; exact ⟨c, u, (Option.some.inj h).symm, rfl⟩

section
variable {prog : Program} {w : World} {A : Around} {E : Value → Shared → Prop} {s : Shared} {h₀ : Heap} {L d : Addr} {m : Str → Option Value} {news news' : List (Addr × Obj)} {n : Nat} {vs : List Value} {v : Value} {o : Obj} {its : Array Value}
theorem news_list (N : News h₀ L s.heap news) (hm : (d, W.listOf its n) ∈ news) : s.heap.IsList d its := ⟨_, (N _ hm).1, rfl, n, rfl⟩
theorem truthy_snoc {Q : Bool → Shared → Prop} (N : News h₀ L s.heap news) (hm : (d, W.listOf (vs ++ [v]).toArray n) ∈ news) (hz : vs.length ≤ 2097152) (h : ∀ tk, Q true { s with toks := tk }) : wpAny (model prog w) A (truthy (.ref d)) Q E s := by
  refine wpAny_truthy_list (news_list N hm) (by simp; omega) ?_
  have e : (!(vs ++ [v]).toArray.isEmpty) = true := by simp
  rw [e]; exact h _
theorem truthy_nilN {Q : Bool → Shared → Prop} (N : News h₀ L s.heap news) (hm : (d, W.listOf [].toArray n) ∈ news) (h : ∀ tk, Q false { s with toks := tk }) : wpAny (model prog w) A (truthy (.ref d)) Q E s := by
  refine wpAny_truthy_list (news_list N hm) (by decide) ?_
  exact h _
theorem last_snoc {value slice : PySem.Expr} {t : Tok} {Q : Value → Shared → Prop} (N : News h₀ L s.heap news) (hm : (d, W.listOf (vs ++ [v]).toArray n) ∈ news) (h : Q v s)
    (hs : subscripted slice false (.ref d) (.int (-1) t) = operate [.ref d, .int (-1) t] (getItem (.ref d) (.int (-1) t)) := by with_unfolding_all rfl) :
    wpAny (model prog w) A (subscriptTail value slice (.ref d) (.int (-1) t)) Q E s :=
  tail_any (news_list N hm).typeIs slot_list_getitem.lookup (wpAny_getItem_list_neg (news_list N hm) (by decide) (by simp; omega) (by decide) (by
    have e : ((-1 : Int) + ((vs ++ [v]).toArray.size : Nat)).toNat = vs.length := by simp; omega
    rw [e]; simp) h) hs
theorem pop_snoc {Q : Value → Shared → Prop} (F : Fr h₀ L s.heap m) (N : News h₀ L s.heap news) (U : Upd d (W.listOf (vs ++ [v]).toArray n) (W.listOf vs.toArray (n + 1)) news news') (hz : vs.length ≤ 2097152)
    (h : ∀ h', Fr h₀ L h' m → News h₀ L h' news' → Q v { s with heap := h' }) : wpAny (model prog w) A (call (.builtin "list.pop") [.ref d]) Q E s :=
  kl_pop F N (kpa_last v vs) U (by simp; rw [sizeLine_eq]; omega) h
theorem append_snoc {Q : Value → Shared → Prop} (F : Fr h₀ L s.heap m) (N : News h₀ L s.heap news) (U : Upd d (W.listOf vs.toArray n) (W.listOf (vs ++ [v]).toArray (n + 1)) news news') (hz : vs.length ≤ 2097152)
    (h : ∀ h', Fr h₀ L h' m → News h₀ L h' news' → Q .none { s with heap := h' }) : wpAny (model prog w) A (call (.builtin "list.append") [.ref d, v]) Q E s :=
  append_K F N (its := vs.toArray) (by rw [List.push_toArray]; exact U) h (by simp; rw [sizeLine_eq]; omega)
end
local macro_rules | `(tactic| k_all) => `(tactic| assumption)
local macro_rules | `(tactic| walk_at "truthy ref") => `(tactic| (k_here; (with_reducible show wpAny _ _ (truthy (Value.ref _)) _ _ _); k_dflt (first
  | (refine' truthy_snoc (by k_asm) (by k_mem) (by assumption) ?_; intro tk'; k_whole)
  | (refine' truthy_nilN (by k_asm) (by k_mem) ?_; intro tk'; k_whole))))
local macro_rules | `(tactic| walk_at "subscriptTail") => `(tactic| (k_here; (with_reducible show wpAny _ _ (subscriptTail _ _ (Value.ref _) (Value.int (-1) _)) _ _ _); k_dflt (refine' last_snoc (by k_asm) (by k_mem) ?_; k_whole)))
local macro_rules | `(tactic| walk_at "call builtin:list.pop") => `(tactic| (k_here; (with_reducible show wpAny _ _ (call (Value.builtin _) [Value.ref _]) _ _ _); k_dflt (refine' pop_snoc (by k_asm) (by k_asm) (by k_upd) (by assumption) ?_; intro h' F' N'; k_whole)))
local macro_rules | `(tactic| walk_at "call builtin:list.append") => `(tactic| (k_here; (with_reducible show wpAny _ _ (call (Value.builtin _) [Value.ref _, _]) _ _ _); k_dflt (refine' append_snoc (by k_asm) (by k_asm) (by k_upd) (by assumption) ?_; intro h' F' N'; k_whole)))

/-- what a comprehension's turn gives: nothing, or a value and the objects made for it -/
noncomputable abbrev Out := Option (Value × List (Addr × Obj))
noncomputable def outY : List Out → List Value
  | [] => []
  | none :: r => outY r
  | some p :: r => p.1 :: outY r
noncomputable def outO : List Out → List (Addr × Obj)
  | [] => []
  | none :: r => outO r
  | some p :: r => p.2 ++ outO r
theorem outY_append : ∀ a b : List Out, outY (a ++ b) = outY a ++ outY b
  | [], _ => rfl
  | none :: r, b => outY_append r b
  | some p :: r, b => congrArg (p.1 :: ·) (outY_append r b)
theorem outO_append : ∀ a b : List Out, outO (a ++ b) = outO a ++ outO b
  | [], _ => rfl
  | none :: r, b => outO_append r b
  | some p :: r, b => by show p.2 ++ outO (r ++ b) = _; rw [outO_append r b]; exact (List.append_assoc ..).symm
theorem outY_length : ∀ a : List Out, (outY a).length ≤ a.length
  | [] => Nat.le_refl _
  | none :: r => Nat.le_succ_of_le (outY_length r)
  | some _ :: r => Nat.succ_le_succ (outY_length r)

/-- a turn's end within a comprehension whose names lie at C -/
inductive TurnOut (C : Addr) (s₃ : Shared) (R : Out → Prop) (out : Out) (s₄ : Shared) : Prop
  | mk (h' : Heap) (tk : Nat) (m' : Str → Option Value) : s₄ = { s₃ with heap := h', toks := tk } → h'.Ns C m' → (∀ b o, b ≠ C → s₃.heap.get? b = some o → h'.get? b = some o) → R out → (∀ p ∈ outO [out], s₃.heap.get? p.1 = none ∧ h'.get? p.1 = some p.2) → TurnOut C s₃ R out s₄

section
variable {prog : Program} {w : World} {A : Around} {env : Env}
noncomputable def CompTurn (prog : Program) (w : World) (A : Around) (env : Env) (scope : Scope) (cl : List (Str × Addr)) (target : Expr) (ifs : List Expr) (elt : Expr) (wr : List Addr) (P : Nat → Value → Prop) (R : Nat → Value → Out → Prop) (s₂ : Shared) : Prop :=
  ∀ C i v s₃ m₃, s₂.heap.objs.size ≤ C → P i v → s₃.heap.Ns C m₃ → (∃ h tk, s₃ = { s₂ with heap := h, toks := tk }) → (∀ b o, b ∉ wr → s₂.heap.get? b = some o → s₃.heap.get? b = some o) →
    wpAny (model prog w) A (assign target (compEnvC scope cl C env) v) (fun _ s₄ =>
      wpAny (model prog w) A (forIn ifs true fun c r => if r = true then do let ok ← isTrue c (compEnvC scope cl C env) (eval c (compEnvC scope cl C env)); pure (ForInStep.yield ok) else pure (ForInStep.yield r)) (fun ok s₅ =>
        if ok = true then wpAny (model prog w) A (eval elt (compEnvC scope cl C env)) (fun y s₆ => ∃ os, TurnOut C s₃ (R i v) (some (y, os)) s₆) (fun _ _ => False) s₅
        else TurnOut C s₃ (R i v) none s₅) (fun _ _ => False) s₄) (fun _ _ => False) s₃

/-- between the turns of a comprehension -/
inductive CompInv (P : Nat → Value → Prop) (R : Nat → Value → Out → Prop) (St : Nat → Heap → Prop) (C D : Addr) (wr : List Addr) (n : Nat) (s₂ : Shared) (k : Nat) (s' : Shared) : Prop
  | mk (h' : Heap) (tk : Nat) (m' : Str → Option Value) (outs : List Out) : s' = { s₂ with heap := h', toks := tk } → St outs.length h' → h'.PlainList D (outY outs).toArray → h'.Ns C m' → (∀ j o, outs[j]? = some o → ∃ v, P j v ∧ R j v o) →
      (∀ p ∈ outO outs, h'.get? p.1 = some p.2 ∧ s₂.heap.get? p.1 = none ∧ p.1 ≠ C ∧ p.1 ≠ D) → outs.length ≤ n → k = n + 1 - outs.length → (∀ b o, b ∉ wr → s₂.heap.get? b = some o → h'.get? b = some o) → CompInv P R St C D wr n s₂ k s'
theorem step_lt {n i : Nat} (h : i < n) : n + 1 - (i + 1) < n + 1 - i := by omega
theorem small_size {n : Nat} (h : n ≤ 2097152) : n ≤ sizeLine := by rw [sizeLine_eq]; omega
theorem comp_block {elt target iter : Expr} {ifs : List Expr} {scope : Scope} {cl : List (Str × Addr)} {pos : Pos} {s₂ : Shared} {I : Addr} {fp wr : List Addr} {n : Nat} {P : Nat → Value → Prop} {E : Value → Shared → Prop}
    {St : Nat → Heap → Prop} (W : Walks prog w A I fp wr n P St) (hsz : n ≤ sizeLine) (R : Nat → Value → Out → Prop) {RR : Value → Addr → Result → Shared → Prop}
    (hcell : ∀ y ∈ scope.names, y.2 ≠ .cell) (hkind : scope.kind = .function) (hst : St 0 s₂.heap) (hfp : ∀ b ∈ fp, b < s₂.heap.objs.size) (hal : ∀ i h, St i h → ∀ b ∈ wr, ∃ o, h.get? b = some o)
    (hq : CompTurn prog w A env scope cl target ifs elt wr P R s₂) (ht : ∀ v, letOwnedTupleGo target (.ref I) v = pure ())
    (hRR : ∀ D C h' tk m' (outs : List Out), s₂.heap.get? D = none → s₂.heap.get? C = none → D ≠ C → h'.Ns C m' → h'.PlainList D (outY outs).toArray → outs.length = n → (∀ j o, outs[j]? = some o → ∃ v, P j v ∧ R j v o) →
      (∀ p ∈ outO outs, h'.get? p.1 = some p.2 ∧ s₂.heap.get? p.1 = none ∧ p.1 ≠ C ∧ p.1 ≠ D) →
      (∀ b o, b ∉ wr → s₂.heap.get? b = some o → h'.get? b = some o) → RR (.ref D) C (.ok .next) { s₂ with heap := h', toks := tk }) :
    wpAny (model prog w) A (newList []) (fun acc s₃ => wpAny (model prog w) A (newFunctionEnv scope env.globals cl [] env.qual none .none (some env)) (fun cenv s₄ =>
      codeAny (model prog w) A (.compStart (.ListComp elt [⟨target, iter, ifs, 0⟩] scope pos) 0 (.ref I) acc { cenv with scope := relabel scope env }) (RR acc cenv.locals) s₄) E s₃) E s₂ := by
  refine wpAny_newObj_type (wpAny_newFunctionEnv hcell (by intro y hy; simp at hy) (fun h₁ hns₁ hsb₁ => ?_) hkind)
  dsimp only at hns₁ hsb₁ ⊢
  generalize hH2 : s₂.heap.push { cls := .type "list", dict := none, data := .seq ([] : List Value).toArray } = H2 at hns₁ hsb₁ ⊢
  have hC : H2.objs.size = s₂.heap.objs.size + 1 := by rw [← hH2, Heap.size_push]
  obtain ⟨D, hDe⟩ : ∃ D, s₂.heap.objs.size = D := ⟨_, rfl⟩
  obtain ⟨C, hCe⟩ : ∃ C, H2.objs.size = C := ⟨_, rfl⟩
  rw [hDe, hCe] at hC
  rw [hCe] at hns₁ hsb₁ ⊢
  rw [hDe] at hfp ⊢
  have hDC : D ≠ C := by rw [hC]; exact Nat.ne_of_lt (Nat.lt_succ_self _)
  have below : ∀ b, b < D → b ≠ C ∧ b ≠ D := fun b hb => ⟨Nat.ne_of_lt (by rw [hC]; exact Nat.lt_succ_of_lt hb), Nat.ne_of_lt hb⟩
  have ltD : ∀ {b o}, s₂.heap.get? b = some o → b < D := fun e => hDe ▸ Heap.lt_size e
  have hDf : D ∉ fp := fun hm => Nat.lt_irrefl _ (hfp _ hm)
  have hCf : C ∉ fp := fun hm => absurd (hfp _ hm) (by rw [hC]; exact Nat.not_lt.mpr (Nat.le_succ _))
  have old : ∀ b o, s₂.heap.get? b = some o → h₁.get? b = some o := fun b o e => hsb₁.extBut b o (below b (ltD e)).1 (Heap.get?_push_of_some _ (hH2 ▸ Heap.get?_push_of_some _ e))
  have hacc : h₁.PlainList D #[] := ⟨_, hsb₁.extBut _ _ hDC (Heap.get?_push_of_some _ (hH2 ▸ hDe ▸ Heap.get?_push_size _ rfl))⟩
  have hst₁ : St 0 h₁ := W.frame _ _ _ hst fun b _ o e => old b o e
  have fresh : ∀ a, D ≤ a → s₂.heap.get? a = none := fun a ha => by
    cases e : s₂.heap.get? a with
    | none => rfl
    | some o' => exact absurd (ltD e) (Nat.not_lt.mpr ha)
  have loop : ∀ s₃ : Shared, s₃ = { s₂ with heap := h₁, toks := s₂.toks + ([] : List (Str × Value)).length } →
      codeAny (model prog w) A (.compLoop (.ListComp elt [⟨target, iter, ifs, 0⟩] scope pos) 0 (.ref I) (.ref D) (compEnvC scope cl C env)) (RR (.ref D) C) s₃ := by
    rintro s₃ rfl
    refine codeAny_compLoop_tests
      (CompInv P R St C D wr n s₂) ?_ (n + 1)
      ⟨h₁, _, _, [], rfl, hst₁, hacc, hns₁, (fun j o e => by simp at e), (fun p hp => nomatch hp), Nat.zero_le _, rfl, fun b o _ e => old b o e⟩ ht
    rintro k s' ⟨H, tk, m', outs, rfl, hst', hacc', hn', hP, hO, hi, rfl, hk⟩
    have hCw : C ∉ wr := fun h => hCf (W.sub _ h)
    have hDw : D ∉ wr := fun h => hDf (W.sub _ h)
    have offw : ∀ a, s₂.heap.get? a = none → a ∉ wr := fun a ha hb => by obtain ⟨o, e⟩ := hal 0 _ hst a hb; rw [ha] at e; cases e
    by_cases hlt : outs.length < n
    · refine W.item outs.length _ _ _ hlt hst' fun v h₂ tk₂ hPv hst₂ hk₂ => ?_
      have hn₂ : h₂.Ns C m' := hn'.at' fun o e => hk₂ _ o hCw e
      refine wpAny_mono (hq C outs.length v { s₂ with heap := h₂, toks := tk₂ } m' (by omega) hPv hn₂ ⟨_, _, rfl⟩ fun b o hbf e => hk₂ b o hbf (hk b o hbf e)) (fun _ s₄ h₄ => ?_) fun _ _ x => x.elim
      refine wpAny_mono h₄ (fun ok s₅ h₅ => ?_) fun _ _ x => x.elim
      have hO₂ : ∀ p ∈ outO outs, h₂.get? p.1 = some p.2 ∧ s₂.heap.get? p.1 = none ∧ p.1 ≠ C ∧ p.1 ≠ D := fun p hp => ⟨hk₂ _ _ (offw _ (hO p hp).2.1) (hO p hp).1, (hO p hp).2⟩
      have accE : h₂.PlainList D (outY outs).toArray := hacc'.at fun o e => hk₂ _ o hDw e
      have hP' : ∀ out, R outs.length v out → ∀ j o, (outs ++ [out])[j]? = some o → ∃ v, P j v ∧ R j v o := fun out hR j o hj => by
        rcases Nat.lt_trichotomy j outs.length with h | h | h
        · exact hP j o (by rwa [List.getElem?_append_left h] at hj)
        · subst h; simp at hj; subst hj; exact ⟨v, hPv, hR⟩
        · rw [List.getElem?_eq_none (by rw [List.length_append, List.length_singleton]; omega)] at hj; cases hj
      cases ok with
      | false =>
        simp only [Bool.false_eq_true, if_false] at h₅ ⊢
        obtain ⟨h', tk', m'', rfl, hn₃, hk₃, hR, _⟩ := h₅
        refine ⟨n + 1 - (outs.length + 1), step_lt hlt, h', tk', m'', outs ++ [none], rfl, ?_, ?_, hn₃, hP' _ hR, ?_, (by rw [List.length_append, List.length_singleton]; exact hlt), (by rw [List.length_append, List.length_singleton]), (fun b o hbf e => hk₃ b o (below b (ltD e)).1 (hk₂ b o hbf (hk b o hbf e)))⟩
        · rw [List.length_append, List.length_singleton]
          exact W.frame _ _ _ hst₂ fun b hb o e => hk₃ b o (fun h => hCf (h ▸ hb)) e
        · rw [outY_append]
          show h'.PlainList D (outY outs ++ []).toArray
          rw [List.append_nil]
          exact accE.at fun o e => hk₃ _ o hDC e
        · intro p hp
          rw [outO_append] at hp
          have hp' : p ∈ outO outs := by simpa [outO] using hp
          exact ⟨hk₃ _ _ (hO₂ p hp').2.2.1 (hO₂ p hp').1, (hO₂ p hp').2⟩
      | true =>
        simp only [if_true] at h₅ ⊢
        refine wpAny_mono h₅ (fun y s₆ h₆ => ?_) fun _ _ x => x.elim
        obtain ⟨os, h', tk', m'', rfl, hn₃, hk₃, hR, hos⟩ := h₆
        have acc₃ : h'.PlainList D (outY outs).toArray := accE.at fun o e => hk₃ _ o hDC e
        refine wpAny_list_append_plain (hsz := by
          have := outY_length outs
          simp; omega) acc₃ fun h₇ hl₇ hs₇ => ?_
        refine ⟨n + 1 - (outs.length + 1), step_lt hlt, h₇, tk', m'', outs ++ [some (y, os)], rfl, ?_, ?_, hn₃.sameBut hs₇ (Ne.symm hDC), hP' _ hR, ?_, (by rw [List.length_append, List.length_singleton]; exact hlt), (by rw [List.length_append, List.length_singleton]),
          (fun b o hbf e => hs₇.extBut b o (below b (ltD e)).2 (hk₃ b o (below b (ltD e)).1 (hk₂ b o hbf (hk b o hbf e))))⟩
        · rw [List.length_append, List.length_singleton]
          exact W.frame _ _ _ hst₂ fun b hb o e => hs₇.extBut b o (fun h => hDf (h ▸ hb)) (hk₃ b o (fun h => hCf (h ▸ hb)) e)
        · rw [outY_append]
          show h₇.PlainList D (outY outs ++ [y]).toArray
          rw [← List.push_toArray]
          exact hl₇
        · intro p hp
          rw [outO_append] at hp
          rcases List.mem_append.mp hp with hp' | hp'
          · exact ⟨hs₇.extBut _ _ (hO₂ p hp').2.2.2 (hk₃ _ _ (hO₂ p hp').2.2.1 (hO₂ p hp').1), (hO₂ p hp').2⟩
          · obtain ⟨e1, e2⟩ := hos p hp'
            have nC : p.1 ≠ C := fun q => by
              obtain ⟨oC, _, _, hoC, _⟩ := hn₂
              have : h₂.get? C = none := q ▸ e1
              rw [hoC] at this; cases this
            have nD : p.1 ≠ D := fun q => by
              obtain ⟨k, hoD⟩ := accE
              have : h₂.get? D = none := q ▸ e1
              rw [hoD] at this; cases this
            refine ⟨hs₇.extBut _ _ nD e2, ?_, nC, nD⟩
            cases q : s₂.heap.get? p.1 with
            | none => rfl
            | some o =>
              exfalso
              by_cases hb : p.1 ∈ wr
              · obtain ⟨o', e'⟩ := hal _ _ hst₂ _ hb
                have : h₂.get? p.1 = none := e1
                rw [e'] at this; cases this
              · have : h₂.get? p.1 = none := e1
                rw [hk₂ _ _ hb (hk _ _ hb q)] at this; cases this
    · have hin : outs.length = n := Nat.le_antisymm hi (Nat.not_lt.mp hlt)
      refine W.done _ _ _ (hin ▸ hst') fun h₂ tk₂ hk₂ => ?_
      exact hRR D C h₂ tk₂ m' outs (fresh _ (Nat.le_refl _)) (fresh _ (by omega)) hDC (hn'.at' fun o e => hk₂ _ o hCw e) (hacc'.at fun o e => hk₂ _ o hDw e) hin hP (fun p hp => ⟨hk₂ _ _ (offw _ (hO p hp).2.1) (hO p hp).1, (hO p hp).2⟩) fun b o hbf e => hk₂ b o hbf (hk b o hbf e)
  exact codeAny_compStart_list (loop _ rfl) (W.self 0 _ _ _ hst₁ (loop _ rfl))

/-- what a comprehension asks of its iterator -/
inductive GenAt (prog : Program) (w : World) (A : Around) (env : Env) (scope : Scope) (cl : List (Str × Addr)) (target : Expr) (ifs : List Expr) (elt : Expr) (Q : Value → Shared → Prop) (it : Value) (s₂ : Shared) : Prop
  | mk (I : Addr) (fp wr : List Addr) (n : Nat) (P : Nat → Value → Prop) (St : Nat → Heap → Prop) (R : Nat → Value → Out → Prop) : it = .ref I → Walks prog w A I fp wr n P St → n ≤ sizeLine → St 0 s₂.heap → (∀ b ∈ fp, b < s₂.heap.objs.size) →
      (∀ i h, St i h → ∀ b ∈ wr, ∃ o, h.get? b = some o) → CompTurn prog w A env scope cl target ifs elt wr P R s₂ → (∀ v, letOwnedTupleGo target (.ref I) v = pure ()) →
      (∀ D h' tk (outs : List Out), s₂.heap.get? D = none → h'.PlainList D (outY outs).toArray → outs.length = n → (∀ j o, outs[j]? = some o → ∃ v, P j v ∧ R j v o) →
        (∀ p ∈ outO outs, h'.get? p.1 = some p.2 ∧ s₂.heap.get? p.1 = none ∧ p.1 ≠ D) →
        (∀ b o, b ∉ wr → s₂.heap.get? b = some o → h'.get? b = some o) → Q (.ref D) { s₂ with heap := h', toks := tk }) → GenAt prog w A env scope cl target ifs elt Q it s₂
theorem comp_gen {elt target iter : Expr} {ifs : List Expr} {scope : Scope} {cl : List (Str × Addr)} {pos : Pos} {s : Shared} {Q : Value → Shared → Prop}
    (hclos : closureFor scope env = pure cl) (hcell : ∀ y ∈ scope.names, y.2 ≠ .cell) (hkind : scope.kind = .function)
    (hnames : ∀ y ∈ scope.names, y.2 = .local → scope.names.lookup y.1 = some .local)
    (h : wpAny (model prog w) A (eval iter env) (fun xv s₁ => wpAny (model prog w) A (pyIter xv) (GenAt prog w A env scope cl target ifs elt Q) (fun _ _ => False) s₁) (fun _ _ => False) s)
    (hs : ∀ x, foldedSetIterable iter env x = pure x := by intro _; rfl) :
    wpAny (model prog w) A (eval (.ListComp elt [⟨target, iter, ifs, 0⟩] scope pos) env) Q (fun _ _ => False) s := by
  rw [eval_ListComp]
  refine wpAny_comprehension_free (use := none) rfl hs hclos hkind hnames (wpAny_mono h (fun xv s₁ h₁ => wpAny_mono h₁ (fun it s₂ h₂ => ?_) fun _ _ e => e) fun _ _ e => e)
  obtain ⟨I, fp, wr, n, P, St, R, rfl, W, hsz, hst, hfp, hal, hq, ht, hQ⟩ := h₂
  refine comp_block (RR := fun acc C => compPost (model prog w) A (fun _ _ => False) none Q acc C) W hsz R hcell hkind hst hfp hal hq ht ?_
  intro D C h' tk m' outs hD hC hDC hn hpl hlen hP hO hk
  exact ⟨m', hn, fun h'' hs'' => hQ D h'' tk outs hD (hpl.extBut hs''.extBut hDC) hlen hP (fun p hp => ⟨hs''.extBut _ _ (hO p hp).2.2.1 (hO p hp).1, (hO p hp).2.1, (hO p hp).2.2.2⟩) fun b o hbf e => hs''.extBut b o (by rintro rfl; rw [hC] at e; cases e) (hk b o hbf e)⟩

/-- item by item: what a comprehension's test and element give -/
noncomputable def OutIs (p : Value → Bool) (R : Value → Value → List (Addr × Obj) → Prop) (v : Value) (o : Out) : Prop := (p v = true ∧ ∃ y os, o = some (y, os) ∧ R v y os) ∨ (p v = false ∧ o = none)
theorem paired_of {α β : Type} {F : α → β → Prop} : ∀ {l : List α} {l' : List β}, l'.length = l.length → (∀ (j : Nat) (o : β), l'[j]? = some o → ∃ v, l[j]? = some v ∧ F v o) → Paired F l l'
  | [], [], _, _ => .nil
  | [], _ :: _, h, _ => by simp at h
  | _ :: _, [], h, _ => by simp at h
  | a :: l, b :: l', h, hj => by
    obtain ⟨v, e, hF⟩ := hj 0 b rfl
    cases e
    exact .cons hF (paired_of (by simpa using h) fun j o e => hj (j + 1) o e)

/-- what a comprehension leaves: the new list, item by item, and the objects made for the items; all that stood stands -/
noncomputable def CompDone (s : Shared) (p : Value → Bool) (R : Value → Value → List (Addr × Obj) → Prop) (vs : List Value) (Q : Value → Shared → Prop) : Prop :=
  ∀ D h' tk (outs : List Out), s.heap.get? D = none → h'.PlainList D (outY outs).toArray → Paired (OutIs p R) vs outs → (∀ q ∈ outO outs, h'.get? q.1 = some q.2 ∧ s.heap.get? q.1 = none ∧ q.1 ≠ D) → Keeps s.heap h' → Q (.ref D) { s with heap := h', toks := tk }

noncomputable def EltEnd (R : Value → Value → List (Addr × Obj) → Prop) (v : Value) (s₄ : Shared) (y : Value) (s₅ : Shared) : Prop := ∃ os, R v y os ∧ PySem.Keeps s₄ s₅ ∧ ∀ q ∈ os, s₄.heap.get? q.1 = none ∧ s₅.heap.get? q.1 = some q.2
noncomputable def TestEnd (p : Value → Bool) (v : Value) (s₄ : Shared) (ok : Bool) (s₅ : Shared) : Prop := ok = p v ∧ PySem.Keeps s₄ s₅
theorem EltEnd.plain {R : Value → Value → List (Addr × Obj) → Prop} {v y : Value} {s₄ : Shared} {h' : Heap} {tk : Nat} (hR : R v y []) (k : Keeps s₄.heap h') : EltEnd R v s₄ y { s₄ with heap := h', toks := tk } := ⟨[], hR, ⟨h', tk, rfl, k⟩, fun _ hq => nomatch hq⟩
theorem TestEnd.go {p : Value → Bool} {v : Value} {ok : Bool} {s₄ : Shared} {h' : Heap} {tk : Nat} (e : ok = p v) (k : Keeps s₄.heap h') : TestEnd p v s₄ ok { s₄ with heap := h', toks := tk } := ⟨e, h', tk, rfl, k⟩
/-- what the tests of a comprehension do, item by item -/
noncomputable def TestsOf (prog : Program) (w : World) (A : Around) (env : Env) (scope : Scope) (cl : List (Str × Addr)) (x : Str) (ifs : List Expr) (p : Value → Bool) (vs : List Value) (s : Shared) : Prop :=
  ∀ (C : Addr) (i : Nat) (v : Value) (s₄ : Shared) (m₄ : Str → Option Value), vs[i]? = some v → s.heap.objs.size < C → s₄.heap.Ns C m₄ → m₄ x = some v → PySem.Keeps s s₄ →
      wpAny (model prog w) A (forIn ifs true fun c r => if r = true then do let ok ← isTrue c (compEnvC scope cl C env) (eval c (compEnvC scope cl C env)); pure (ForInStep.yield ok) else pure (ForInStep.yield r)) (TestEnd p v s₄) (fun _ _ => False) s₄
/-- what its element does, item by item -/
noncomputable def EltsOf (prog : Program) (w : World) (A : Around) (env : Env) (scope : Scope) (cl : List (Str × Addr)) (x : Str) (elt : Expr) (p : Value → Bool) (R : Value → Value → List (Addr × Obj) → Prop) (vs : List Value) (s : Shared) : Prop :=
  ∀ (C : Addr) (i : Nat) (v : Value) (s₄ : Shared) (m₄ : Str → Option Value), vs[i]? = some v → s.heap.objs.size < C → s₄.heap.Ns C m₄ → m₄ x = some v → PySem.Keeps s s₄ → p v = true →
      wpAny (model prog w) A (eval elt (compEnvC scope cl C env)) (EltEnd R v s₄) (fun _ _ => False) s₄
/-- a list or a tuple -/
noncomputable def SeqAtL (h : Heap) (l : Addr) (vs : List Value) : Prop := h.IsList l vs.toArray ∨ h.IsTuple l vs.toArray
theorem SeqAtL.keeps {h h' : Heap} {l : Addr} {vs : List Value} (x : SeqAtL h l vs) (k : Keeps h h') : SeqAtL h' l vs := x.elim (fun y => .inl (y.at fun o e => k _ o e)) fun y => .inr (y.at fun o e => k _ o e)
theorem SeqAtL.ex {h : Heap} {l : Addr} {vs : List Value} (x : SeqAtL h l vs) : ∃ o, h.get? l = some o := x.elim (fun ⟨o, ho, _⟩ => ⟨o, ho⟩) fun ⟨o, ho, _⟩ => ⟨o, ho⟩
/-- what a walk over a list or a tuple begins with -/
structure SrcW (prog : Program) (w : World) (A : Around) (h : Heap) (l I : Addr) (vs : List Value) (h' : Heap) (St : Nat → Heap → Prop) : Prop where
  walk : Walks prog w A I [I, l] [I] vs.length (fun i v => vs[i]? = some v) St
  st : St 0 h'
  new : h.get? I = none
  up : Keeps h h'
  lt : I < h'.objs.size
  alive : ∀ i h, St i h → ∃ o, h.get? I = some o
  own : ∀ a, h.objs.size < a → h'.get? a = none
  ltl : l < h'.objs.size
theorem SrcW.old {h h' : Heap} {l I : Addr} {vs : List Value} {St : Nat → Heap → Prop} (Y : SrcW prog w A h l I vs h' St) {a : Addr} (e : h'.get? a = none) : h.get? a = none := by
  cases z : h.get? a with
  | none => rfl
  | some o => have := Y.up a o z; rw [e] at this; cases this
theorem SrcW.off {h h' : Heap} {l I : Addr} {vs : List Value} {St : Nat → Heap → Prop} (Y : SrcW prog w A h l I vs h' St) {b : Addr} {o : Obj} (e : h.get? b = some o) : b ∉ [I] := fun hm => by
  rw [List.mem_singleton.mp hm, Y.new] at e; cases e
theorem SrcW.fits {h h' : Heap} {l I : Addr} {vs : List Value} {St : Nat → Heap → Prop} (Y : SrcW prog w A h l I vs h' St) : ∀ b ∈ [I, l], b < h'.objs.size := fun b hb => by
  rcases List.mem_cons.mp hb with rfl | hb
  · exact Y.lt
  · rw [List.mem_singleton.mp hb]; exact Y.ltl
theorem SrcW.alive1 {h h' : Heap} {l I : Addr} {vs : List Value} {St : Nat → Heap → Prop} (Y : SrcW prog w A h l I vs h' St) : ∀ i h, St i h → ∀ b ∈ [I], ∃ o, h.get? b = some o := fun i h hst b hb => by
  rw [List.mem_singleton.mp hb]
  exact Y.alive i h hst
theorem src_iter {l : Addr} {vs : List Value} {s : Shared} {Q : Value → Shared → Prop} {E : Value → Shared → Prop} (hh : A.handled = none) (hl : SeqAtL s.heap l vs) (h : ∀ h' St, SrcW prog w A s.heap l s.heap.objs.size vs h' St → h'.objs.size = s.heap.objs.size + 1 → Q (.ref s.heap.objs.size) { s with heap := h' }) : wpAny (model prog w) A (pyIter (.ref l)) Q E s := by
  obtain ⟨ol, hol⟩ := hl.ex
  have hlt : l < s.heap.objs.size := Heap.lt_size hol
  have hn : ∀ a, s.heap.objs.size ≤ a → s.heap.get? a = none := fun a ha => by
    cases e : s.heap.get? a with
    | none => rfl
    | some o => exact absurd (Heap.lt_size e) (Nat.not_lt.mpr ha)
  have hlen : vs.toArray.size = vs.length := by simp
  have own : ∀ (o : Obj) a, s.heap.objs.size < a → (s.heap.push o).get? a = none := fun o a ha => by
    cases e : (s.heap.push o).get? a with
    | none => rfl
    | some o' =>
      have := Heap.lt_size e
      rw [Heap.size_push] at this
      exact absurd this (Nat.not_lt.mpr ha)
  rcases hl with hl | hl
  · refine wpAny_pyIter_list hl ?_
    have W := Walks.list (prog := prog) (w := w) hh s.heap.objs.size l (Nat.ne_of_lt hlt) vs.toArray
    rw [hlen] at W
    have e : (fun (i : Nat) (v : Value) => vs.toArray[i]? = some v) = fun i v => vs[i]? = some v := by funext i v; simp
    rw [e] at W
    refine h _ _ ⟨W, ⟨⟨_, Heap.get?_push_size _ rfl, rfl, rfl⟩, hl.at fun o e => Heap.get?_push_of_some _ e⟩, hn _ (Nat.le_refl _), fun b o e => Heap.get?_push_of_some _ e, by rw [Heap.size_push]; exact Nat.lt_succ_self _, fun i h ⟨⟨o, ho, _⟩, _⟩ => ⟨o, ho⟩, own _, by rw [Heap.size_push]; exact Nat.lt_succ_of_lt hlt⟩ (Heap.size_push ..)
  · refine wpAny_pyIter_tuple hl ?_
    have W := Walks.tuple (prog := prog) (w := w) hh s.heap.objs.size l (Nat.ne_of_lt hlt) vs.toArray
    rw [hlen] at W
    have e : (fun (i : Nat) (v : Value) => vs.toArray[i]? = some v) = fun i v => vs[i]? = some v := by funext i v; simp
    rw [e] at W
    refine h _ _ ⟨W, ⟨⟨_, Heap.get?_push_size _ rfl, rfl, rfl⟩, hl.at fun o e => Heap.get?_push_of_some _ e⟩, hn _ (Nat.le_refl _), fun b o e => Heap.get?_push_of_some _ e, by rw [Heap.size_push]; exact Nat.lt_succ_self _, fun i h ⟨⟨o, ho, _⟩, _⟩ => ⟨o, ho⟩, own _, by rw [Heap.size_push]; exact Nat.lt_succ_of_lt hlt⟩ (Heap.size_push ..)
/-- the turns of a comprehension over such a source, from its tests and its element -/
theorem src_turn {elt : Expr} {x : Str} {px : Pos} {ifs : List Expr} {scope : Scope} {cl : List (Str × Addr)} {s : Shared} {h' : Heap} {l I : Addr} {vs : List Value} {St : Nat → Heap → Prop} (p : Value → Bool) (R : Value → Value → List (Addr × Obj) → Prop)
    (Y : SrcW prog w A s.heap l I vs h' St) (hI : I = s.heap.objs.size) (hsz' : h'.objs.size = s.heap.objs.size + 1) (hkind : scope.kind = .function) (hx : scope.names.lookup x = some .local)
    (tests : TestsOf prog w A env scope cl x ifs p vs s) (helt : EltsOf prog w A env scope cl x elt p R vs s) :
    CompTurn prog w A env scope cl (.Name x px) ifs elt [I] (fun i v => vs[i]? = some v) (fun _ v o => OutIs p R v o) { s with heap := h' } := by
  rintro C i v s₃ m₃ hC hv hn₃ ⟨h₃, tk₃, rfl⟩ hk₃
  have hC1 : h'.objs.size ≤ C := hC
  rw [hsz'] at hC1
  have hC' : s.heap.objs.size < C := hC1
  have offI : ∀ b o, s.heap.get? b = some o → b ∉ [I] := fun b o e hm => by
    have := Heap.lt_size e
    rw [List.mem_singleton.mp hm, hI] at this
    exact Nat.lt_irrefl _ this
  refine wpAny_assign_Name (wpAny_storeName_local (lookup_relabel_local hx) hn₃ (fun h₄ hn₄ hs₄ => ?_) (by simp [compEnvC, relabel, hkind]))
  have hk₄ : ∀ b o, b ≠ C → h₃.get? b = some o → h₄.get? b = some o := fun b o hb e => (hs₄.2 b hb).trans e
  have kp : PySem.Keeps s { s with heap := h₄, toks := tk₃ + 1 } := ⟨h₄, _, rfl, fun b o e => hk₄ b o (Nat.ne_of_lt (Nat.lt_trans (Heap.lt_size e) hC')) (hk₃ b o (offI b o e) (Y.up b o e))⟩
  refine wpAny_mono (tests C i v { s with heap := h₄, toks := tk₃ + 1 } _ hv hC' hn₄ (by simp) kp) (fun ok s₅ h₅ => ?_) fun _ _ x => x
  obtain ⟨hok, k5⟩ := h₅
  obtain ⟨h5, tk5, rfl, k5⟩ := k5
  have hn5 := hn₄.keeps k5
  cases hp : p v with
  | false =>
    rw [hok, hp]
    simp only [Bool.false_eq_true, if_false]
    exact ⟨h5, tk5, _, rfl, hn5, fun b o hb e => k5 b o (hk₄ b o hb e), .inr ⟨hp, rfl⟩, fun q hq => nomatch hq⟩
  | true =>
    rw [hok, hp]
    simp only [if_true]
    refine wpAny_mono (helt C i v { s with heap := h5, toks := tk5 } _ hv hC' hn5 (by simp) ⟨h5, tk5, rfl, fun b o e => k5 b o (let ⟨_, _, e', k⟩ := kp; by cases e'; exact k b o e)⟩ hp) (fun y s₆ h₆ => ?_) fun _ _ x => x
    obtain ⟨os, hR, k6, hos⟩ := h₆
    obtain ⟨h6, tk6, rfl, k6⟩ := k6
    refine ⟨os, h6, tk6, _, rfl, hn5.keeps k6, fun b o hb e => k6 b o (k5 b o (hk₄ b o hb e)), .inl ⟨hp, y, os, rfl, hR⟩, fun q hq => ?_⟩
    have hq' : q ∈ os := by simpa [outO] using hq
    obtain ⟨e1, e2⟩ := hos q hq'
    refine ⟨?_, e2⟩
    cases z : h₃.get? q.1 with
    | none => rfl
    | some o =>
      exfalso
      have e1' : h5.get? q.1 = none := e1
      by_cases hb : q.1 = C
      · obtain ⟨oC, _, _, hoC, _⟩ := hn5
        have : h5.get? C = some oC := hoC
        rw [← hb, e1'] at this; cases this
      · rw [k5 _ _ (hk₄ _ _ hb z)] at e1'; cases e1'
/-- what a comprehension over a list asks of its source -/
inductive ListAt (prog : Program) (w : World) (A : Around) (env : Env) (scope : Scope) (cl : List (Str × Addr)) (x : Str) (ifs : List Expr) (elt : Expr) (p : Value → Bool) (R : Value → Value → List (Addr × Obj) → Prop) (vs : List Value) (Q : Value → Shared → Prop) (xv : Value) (s : Shared) : Prop
  | mk (l : Addr) : xv = .ref l → s.heap.IsList l vs.toArray → TestsOf prog w A env scope cl x ifs p vs s → EltsOf prog w A env scope cl x elt p R vs s → CompDone s p R vs Q → ListAt prog w A env scope cl x ifs elt p R vs Q xv s
/-- what such a walk leaves -/
theorem src_done {p : Value → Bool} {R : Value → Value → List (Addr × Obj) → Prop} {vs : List Value} {h h1 h' : Heap} {l I : Addr} {St : Nat → Heap → Prop} {outs : List Out} {D : Addr} (Y : SrcW prog w A h l I vs h1 St) (hl : outs.length = vs.length) (hP : ∀ (j : Nat) (o : Out), outs[j]? = some o → ∃ v, vs[j]? = some v ∧ OutIs p R v o)
    (hO : ∀ q ∈ outO outs, h'.get? q.1 = some q.2 ∧ h1.get? q.1 = none ∧ q.1 ≠ D) : Paired (OutIs p R) vs outs ∧ ∀ q ∈ outO outs, h'.get? q.1 = some q.2 ∧ h.get? q.1 = none ∧ q.1 ≠ D :=
  ⟨paired_of hl hP, fun q hq => ⟨(hO q hq).1, Y.old (hO q hq).2.1, (hO q hq).2.2⟩⟩
theorem comp_listG {elt iter : Expr} {x : Str} {px : Pos} {ifs : List Expr} {scope : Scope} {cl : List (Str × Addr)} {pos : Pos} {s₀ : Shared} {Q : Value → Shared → Prop} {vs : List Value} (p : Value → Bool) (R : Value → Value → List (Addr × Obj) → Prop)
    (hh : A.handled = none) (hclos : closureFor scope env = pure cl) (hcell : ∀ y ∈ scope.names, y.2 ≠ .cell) (hkind : scope.kind = .function)
    (hnames : ∀ y ∈ scope.names, y.2 = .local → scope.names.lookup y.1 = some .local) (hx : scope.names.lookup x = some .local)
    (hsz : vs.length ≤ 2097152)
    (hiter : wpAny (model prog w) A (eval iter env) (ListAt prog w A env scope cl x ifs elt p R vs Q) (fun _ _ => False) s₀)
    (hs : ∀ x, foldedSetIterable iter env x = pure x := by intro _; rfl) :
    wpAny (model prog w) A (eval (.ListComp elt [⟨.Name x px, iter, ifs, 0⟩] scope pos) env) Q (fun _ _ => False) s₀ := by
  refine comp_gen hclos hcell hkind hnames (wpAny_mono hiter (fun xv s hh4 => ?_) fun _ _ e => e) hs
  obtain ⟨l, rfl, hl, tests, helt, done⟩ := hh4
  refine src_iter hh (.inl hl) fun h' St Y hsz' => ?_
  refine ⟨_, _, _, vs.length, _, St, _, rfl, Y.walk, small_size hsz, Y.st, Y.fits, Y.alive1, src_turn p R Y rfl hsz' hkind hx tests helt, fun _ => rfl, ?_⟩
  intro D h2 tk outs hD hpl hlen' hP hO hk
  obtain ⟨q1, q2⟩ := src_done Y hlen' hP hO
  exact done D h2 tk outs (Y.old hD) hpl q1 q2 fun b o e => hk b o (Y.off e) (Y.up b o e)
theorem comp_list {elt iter : Expr} {x : Str} {px : Pos} {ifs : List Expr} {scope : Scope} {cl : List (Str × Addr)} {pos : Pos} {s : Shared} {Q : Value → Shared → Prop} {l : Addr} {vs : List Value} (p : Value → Bool) (R : Value → Value → List (Addr × Obj) → Prop)
    (hh : A.handled = none) (hclos : closureFor scope env = pure cl) (hcell : ∀ y ∈ scope.names, y.2 ≠ .cell) (hkind : scope.kind = .function)
    (hnames : ∀ y ∈ scope.names, y.2 = .local → scope.names.lookup y.1 = some .local) (hx : scope.names.lookup x = some .local)
    (hiter : ∀ Q' : Value → Shared → Prop, Q' (.ref l) s → wpAny (model prog w) A (eval iter env) Q' (fun _ _ => False) s) (hl : s.heap.IsList l vs.toArray) (hsz : vs.length ≤ 2097152)
    (tests : TestsOf prog w A env scope cl x ifs p vs s) (helt : EltsOf prog w A env scope cl x elt p R vs s) (done : CompDone s p R vs Q)
    (hs : ∀ x, foldedSetIterable iter env x = pure x := by intro _; rfl) :
    wpAny (model prog w) A (eval (.ListComp elt [⟨.Name x px, iter, ifs, 0⟩] scope pos) env) Q (fun _ _ => False) s :=
  comp_listG p R hh hclos hcell hkind hnames hx hsz (hiter _ ⟨l, rfl, hl, tests, helt, done⟩) hs
end


theorem issub_tup {w : World} {outer : List Env} {s : Shared} {D : Addr} {n : Nat} {Q E : Value → Shared → Prop}
   (ho : s.heap.get? D = some { cls := .type "tuple", data := .seq #[.type "str", .type "bytes"] n })
   (h : ∀ tk, Q (.bool true) { s with toks := tk }) : wpAny (model PG w) (Ar 950 8000 outer) (call (.builtin "issubclass") [.type "str", .ref D]) Q E s := by
  x_run
theorem issub_K {w : World} {A : Around} {s : Shared} {D L : Addr} {n : Nat} {h₀ : Heap} {news : List (Addr × Obj)} {Q E : Value → Shared → Prop} (N : News h₀ L s.heap news)
   (hm : (D, ({ cls := .type "tuple", data := .seq #[.type "str", .type "bytes"] n } : Obj)) ∈ news)
   (h : ∀ tk, Q (.bool true) { s with toks := tk })
   (hA : okA A 950 8000 = true) : wpAny (model PG w) A (call (.builtin "issubclass") [.type "str", .ref D]) Q E s :=
  wpAny_Ar (fun _ => issub_tup (N _ hm).1 h) hA
local macro_rules | `(tactic| walk_at "call builtin:issubclass") => `(tactic| (k_here; k_dflt (refine' issub_K (by k_asm) (by k_mem) ?_ (by rfl); intro tk'; k_whole)))

noncomputable def WPost (J : Nat → Shared → Prop) (k : Nat) (Q : Flow → Shared → Prop) (f : Flow) (s : Shared) : Prop := match f with
  | .ret v => Q (.ret v) s
  | .brk => Q .next s
  | _ => ∃ m, m < k ∧ J m s
section
variable {prog : Program} {w : World} {A : Around} {s : Shared} {env : Env}
theorem while_rule {test : Expr} {body : List Stmt} {pos : Pos} {Q : Flow → Shared → Prop} (J : Nat → Shared → Prop)
    (turn : ∀ k s, J k s → wpAny (model prog w) A (isTrue test env (eval test env)) (fun b s₂ => if b = true then wpAny (model prog w) A (execs body env) (WPost J k Q) (fun _ _ => False) s₂ else Q .next s₂) (fun _ _ => False) s)
    (k : Nat) (h : J k s) : wpAny (model prog w) A (exec (.While test body [] pos) env) Q (fun _ _ => False) s := by
  refine wpAny_While (codeAny_whileLoop J (fun n s hJ => ?_) k h)
  refine wpAny_mono (turn n s hJ) (fun b s₂ h₂ => ?_) fun _ _ x => x.elim
  cases b with
  | false =>
    simp only [Bool.false_eq_true, if_false] at h₂ ⊢
    exact wpAny_execs_nil h₂
  | true =>
    simp only [if_true] at h₂ ⊢
    refine wpAny_mono h₂ (fun f s₃ h₃ => ?_) fun _ _ x => x.elim
    cases f <;> exact h₃
end
section
variable {prog : Program} {w : World} {A : Around} {E : Value → Shared → Prop} {s : Shared} {h₀ : Heap} {L d : Addr} {m : Str → Option Value} {news news' : List (Addr × Obj)} {n k : Nat} {vs : List Value} {v : Value} {t : Tok}
/-- an item of a list at a place that is a number of its own -/
theorem item_at {value slice : PySem.Expr} {Q : Value → Shared → Prop} (N : News h₀ L s.heap news) (hm : (d, W.listOf vs.toArray n) ∈ news) (hv : vs[k]? = some v) (hz : vs.length ≤ 2097152) (h : Q v s)
    (hs : subscripted slice false (.ref d) (.int (k : Int) t) = operate [.ref d, .int (k : Int) t] (getItem (.ref d) (.int (k : Int) t)) := by with_unfolding_all rfl) :
    wpAny (model prog w) A (subscriptTail value slice (.ref d) (.int (k : Int) t)) Q E s :=
  tail_any (news_list N hm).typeIs slot_list_getitem.lookup (wpAny_getItem_list (news_list N hm) (Int.natCast_nonneg _) (by have := (List.getElem?_eq_some_iff.mp hv).1; omega) (by simpa using hv) h) hs
theorem set_at {Q : Unit → Shared → Prop} (F : Fr h₀ L s.heap m) (N : News h₀ L s.heap news) (U : Upd d (W.listOf vs.toArray n) (W.listOf (vs.set k v).toArray n) news news') (hk : k < vs.length) (hz : vs.length ≤ 2097152)
    (h : ∀ h', Fr h₀ L h' m → News h₀ L h' news' → Q () { s with heap := h' }) : wpAny (model prog w) A (setItem (.ref d) (.int (k : Int) t) v) Q E s := by
  obtain ⟨pre, post, rfl, rfl, a, b⟩ := U.split
  have z := N (d, W.listOf vs.toArray n) (List.mem_append.mpr (.inr (.head _)))
  refine ki_setAt z.1 (Int.natCast_nonneg _) (by omega) (by simp; omega) (h _ (F.change (Heap.SameBut.update ..) z.2.1 z.2.2) (ki_turn _ N a b ?_ ?_))
  · apply Array.toList_inj.mp
    simp
  · simp
end
theorem upd_self (m : Str → Option Value) (x : Str) : (fun y => if y = x then m x else m y) = m := by
  funext y
  by_cases h : y = x
  · rw [if_pos h, h]
  · rw [if_neg h]
/-- a while loop that stores three names -/
inductive While3 (h₀ : Heap) (L : Addr) (x₁ x₂ x₃ : Str) (m₀ : Str → Option Value) (J : Nat → Option Value → Option Value → Option Value → List (Addr × Obj) → Prop) (s₀ : Shared) (k : Nat) (s : Shared) : Prop
  | mk (h' : Heap) (tk : Nat) (m' : Str → Option Value) (nx : List (Addr × Obj)) : s = { s₀ with heap := h', toks := tk } → Fr h₀ L h' m' → (∀ y, y ≠ x₁ → y ≠ x₂ → y ≠ x₃ → m' y = m₀ y) → News h₀ L h' nx → J k (m' x₁) (m' x₂) (m' x₃) nx → While3 h₀ L x₁ x₂ x₃ m₀ J s₀ k s
theorem while_3 {prog : Program} {w : World} {A : Around} {s : Shared} {env : Env} {test : Expr} {body : List Stmt} {pos : Pos} {Q : Flow → Shared → Prop} {h₀ : Heap} {L : Addr} {m₀ : Str → Option Value} {news : List (Addr × Obj)} (x₁ x₂ x₃ : Str) (J : Nat → Option Value → Option Value → Option Value → List (Addr × Obj) → Prop)
    (F : Fr h₀ L s.heap m₀) (N : News h₀ L s.heap news) (k : Nat) (hj : J k (m₀ x₁) (m₀ x₂) (m₀ x₃) news)
    (turn : ∀ k a b c nx h tk, J k a b c nx → Fr h₀ L h (fun y => if y = x₁ then a else if y = x₂ then b else if y = x₃ then c else m₀ y) → News h₀ L h nx →
      wpAny (model prog w) A (isTrue test env (eval test env)) (fun r s₂ => if r = true then wpAny (model prog w) A (execs body env) (WPost (While3 h₀ L x₁ x₂ x₃ m₀ J s) k Q) (fun _ _ => False) s₂ else Q .next s₂) (fun _ _ => False) { s with heap := h, toks := tk }) :
    wpAny (model prog w) A (exec (.While test body [] pos) env) Q (fun _ _ => False) s := by
  refine while_rule (While3 h₀ L x₁ x₂ x₃ m₀ J s) ?_ k ⟨s.heap, s.toks, m₀, news, rfl, F, fun _ _ _ _ => rfl, N, hj⟩
  rintro k s' ⟨h', tk, m', nx, rfl, F', hm, N', hJ⟩
  have e : (fun y => if y = x₁ then m' x₁ else if y = x₂ then m' x₂ else if y = x₃ then m' x₃ else m₀ y) = m' := by
    funext y
    by_cases q1 : y = x₁
    · rw [if_pos q1, q1]
    · rw [if_neg q1]
      by_cases q2 : y = x₂
      · rw [if_pos q2, q2]
      · rw [if_neg q2]
        by_cases q3 : y = x₃
        · rw [if_pos q3, q3]
        · rw [if_neg q3, hm y q1 q2 q3]
  exact turn k (m' x₁) (m' x₂) (m' x₃) nx h' tk hJ (e.symm ▸ F') N'

set_option maxHeartbeats 4000000 in
theorem fspath_c (w : World) (x : Str) (t : Tok) : PureC w 206 [.str x t] 900 4000 (fun _ => True) (fun _ r _ => r = .str x t) := by
  unfold PureC PG LW VW
  k_fill
  intro outer s mg mb Q E X T _ hret
  refine wpAny_call ?_
  k_dflt k_enter
  k_steps
  all_goals (dsimp only; exact hret _ _ _ rfl (Fr.keep (by with_reducible assumption)))
set_option maxHeartbeats 4000000 in
theorem getsep_c (w : World) (x : Str) (t : Tok) : PureC w 220 [.str x t] 900 4000 (fun _ => True) (fun _ r _ => ∃ t', r = .str (Str.ofString "/") t') := by
  unfold PureC PG LW VW
  k_fill
  intro outer s mg mb Q E X T _ hret
  refine wpAny_call ?_
  k_dflt k_enter
  k_steps
  all_goals (dsimp only; exact hret _ _ _ ⟨_, rfl⟩ (Fr.keep (by with_reducible assumption)))
local macro_rules | `(tactic| walk_at "call ref") => `(tactic| (k_here; k_dflt (first
  | (refine' use_pure (fspath_c _ _ _) (by k_asm) (by k_asm) (by k_asm) (by k_asm) (by rfl) (by exact True.intro) ?_; intro r' h' tk' hr' F' N' fr'; clear fr'; subst hr'; k_whole)
  | (refine' use_pureT (getsep_c _ _ _) (by k_asm) (by k_asm) (by k_asm) (by k_asm) (by rfl) (by exact True.intro) ?_; intro t' h' tk' F' N'; k_whole))))

/-- an absolute road of one or three slashes -/
structure Rooted (x : Str) : Prop where
  one : (Txt.slice x none (some 1) != Str.ofString "/") = false
  two : (Txt.slice x (some 1) (some 2) != Str.ofString "/") = true ∨ (Txt.slice x (some 2) (some 3) == Str.ofString "/") = true
theorem rooted_no1 {x : Str} {P : Prop} (h : Rooted x) (e : (Txt.slice x none (some 1) != Str.ofString "/") = true) : P := by rw [h.one] at e; cases e
theorem rooted_no2 {x : Str} {P : Prop} (h : Rooted x) (e : (Txt.slice x (some 1) (some 2) != Str.ofString "/") = false) (e' : (Txt.slice x (some 2) (some 3) == Str.ofString "/") = false) : P := by
  rcases h.two with q | q
  · rw [e] at q; cases q
  · rw [e'] at q; cases q
inductive RootR (x : Str) (h : Heap) (r : Value) (h' : Heap) : Prop
  | mk (D : Addr) (n : Nat) (t1 t2 t3 : Tok) : r = .ref D → h.get? D = none → h'.get? D = some { cls := .type "tuple", data := .seq #[.str (Str.ofString "") t1, .str (Str.ofString "/") t2, .str (Txt.slice x (some 1) none) t3] n } → RootR x h r h'
set_option maxHeartbeats 4000000 in
theorem splitroot_c (w : World) (x : Str) (t : Tok) (hx : x.length ≤ 1048576) (hr : Rooted x) : PureC w 234 [.str x t] 890 3900 (fun _ => True)
    (RootR x) := by
  unfold PureC PG LW VW
  k_fill
  intro outer s mg mb Q E X T _ hret
  refine wpAny_call ?_
  k_dflt k_enter
  k_steps
  all_goals first
    | exact rooted_no1 hr (by assumption)
    | exact rooted_no2 hr (by assumption) (by assumption)
    | (refine hret _ _ _ ⟨_, _, _, _, _, rfl, News.fresh (by with_reducible assumption) (.head _), News.get (by with_reducible assumption) (.head _)⟩ (Fr.keep (by with_reducible assumption)))
local macro_rules | `(tactic| walk_at "call ref") => `(tactic| (k_here; k_dflt (
   (refine' use_pure (splitroot_c _ _ _ (by assumption) (by assumption)) (by k_asm) (by k_asm) (by k_asm) (by k_asm) (by rfl) (by exact True.intro) ?_; intro r' h' tk' hr' F' N0' fr'; obtain ⟨D', n', t1', t2', t3', hr', hn', hD'⟩ := hr'; subst hr'; obtain ⟨N', l1'⟩ := fr' _ _ hn' hD'; clear fr' N0' hn' hD'; (try simp only [GnNe, and_true] at l1'); k_whole))))

noncomputable def joinF (x y : Str) : Str := if Txt.startswith y (Str.ofString "/") = true then y else if (x.length : Int) = 0 then y else if Txt.endswith x (Str.ofString "/") = true then x ++ y else x ++ (Str.ofString "/" ++ y)
theorem joinF_1 {x y : Str} {t : Tok} (h : Txt.startswith y (Str.ofString "/") = true) : IsT (.str y t) (joinF x y) := ⟨t, by unfold joinF; rw [if_pos h]⟩
theorem joinF_2 {x y : Str} {t : Tok} (h : Txt.startswith y (Str.ofString "/") = false) (h2 : (x.length : Int) = 0) : IsT (.str y t) (joinF x y) := ⟨t, by unfold joinF; rw [if_neg (by rw [h]; exact Bool.false_ne_true), if_pos h2]⟩
theorem joinF_3 {x y : Str} {t : Tok} (h : Txt.startswith y (Str.ofString "/") = false) (h2 : ¬ (x.length : Int) = 0) (h3 : Txt.endswith x (Str.ofString "/") = true) : IsT (.str (x ++ y) t) (joinF x y) := ⟨t, by unfold joinF; rw [if_neg (by rw [h]; exact Bool.false_ne_true), if_neg h2, if_pos h3]⟩
theorem joinF_4 {x y : Str} {t : Tok} (h : Txt.startswith y (Str.ofString "/") = false) (h2 : ¬ (x.length : Int) = 0) (h3 : Txt.endswith x (Str.ofString "/") = false) : IsT (.str (x ++ (Str.ofString "/" ++ y)) t) (joinF x y) := ⟨t, by unfold joinF; rw [if_neg (by rw [h]; exact Bool.false_ne_true), if_neg h2, if_neg (by rw [h3]; exact Bool.false_ne_true)]⟩
set_option maxHeartbeats 4000000 in
theorem join_c (w : World) (x y : Str) (t u : Tok) (hx : x.length ≤ 1048576) (hy : y.length ≤ 1048576) : PureC w 227 [.str x t, .str y u] 890 3900 (fun _ => True)
    (fun _ r _ => IsT r (joinF x y)) := by
  unfold PureC PG LW VW
  k_fill
  intro outer s mg mb Q E X T _ hret
  refine wpAny_call ?_
  k_dflt (refine' enterV (vs := [.str y u]) (binds := fun C => [(Str.ofString "a", .str x t), (Str.ofString "p", .ref C)]) ?k3 ?kl ?k6 ?k7 ?k8 ?k9 ?kB ?_ ?c2 ?c3 ?c4 ?c5; (case k3 => k_asm); (case kl => exact TopRead.nolimit (by k_asm)); (case k6 => k_is); (case k7 => k_is); (case k8 => k_room); (case k9 => exact rfl); (case c5 => decide); (case kB => intro C; exact locs rfl); (case c2 => exact rfl); (case c3 => exact rfl); (case c4 => exact rfl); k_whole; intro C' L' h' tk' F' N'; (try dsimp only))
  k_steps
  all_goals (dsimp only; refine hret _ _ _ ?_ (Fr.keep (by with_reducible assumption)))
  all_goals first
    | exact joinF_1 (by with_reducible assumption)
    | exact joinF_2 (by with_reducible assumption) (by with_reducible assumption)
    | exact joinF_3 (by with_reducible assumption) (by with_reducible assumption) (by with_reducible assumption)
    | exact joinF_4 (by with_reducible assumption) (by with_reducible assumption) (by with_reducible assumption)

noncomputable def normStep (acc : List Str) (c : Str) : List Str := if (c.length : Int) = 0 then acc else if (c == Str.ofString ".") = true then acc else if (c != Str.ofString "..") = true then acc ++ [c] else acc.dropLast
noncomputable def normFold (cs : List Str) : List Str := cs.foldl normStep []
theorem normStep_no {acc : List Str} {c : Str} (h : ∀ a ∈ acc, (a != Str.ofString "..") = true) : ∀ a ∈ normStep acc c, (a != Str.ofString "..") = true := by
  unfold normStep
  intro a ha
  split at ha
  · exact h a ha
  · split at ha
    · exact h a ha
    · split at ha
      · rename_i q
        rcases List.mem_append.mp ha with h1 | h1
        · exact h a h1
        · rw [List.mem_singleton.mp h1]; exact q
      · exact h a (List.dropLast_subset _ ha)
theorem foldl_no : ∀ (cs acc : List Str), (∀ a ∈ acc, (a != Str.ofString "..") = true) → ∀ a ∈ cs.foldl normStep acc, (a != Str.ofString "..") = true
  | [], _, h => h
  | _ :: r, _, h => foldl_no r _ (normStep_no h)
theorem normFold_no (cs : List Str) : ∀ a ∈ normFold cs, (a != Str.ofString "..") = true := foldl_no cs [] fun _ h => nomatch h
theorem norm_next {l : List (Str × Tok)} {i : Nat} {c : Str} {u : Tok} (hc : l[i]? = some (c, u)) : normFold ((l.map (·.1)).take (i + 1)) = normStep (normFold ((l.map (·.1)).take i)) c := by
  unfold normFold
  rw [List.take_add_one, List.getElem?_map, hc, List.foldl_append]
  rfl
theorem strsAre_of : ∀ l : List (Str × Tok), StrsAre (strValues l) (l.map (·.1))
  | [] => .nil
  | (x, t) :: r => .cons x t (strsAre_of r)
theorem normStep_mem {acc : List Str} {c a : Str} (h : a ∈ normStep acc c) : a ∈ acc ∨ a = c := by
  unfold normStep at h
  split at h
  · exact .inl h
  · split at h
    · exact .inl h
    · split at h
      · rcases List.mem_append.mp h with h1 | h1
        · exact .inl h1
        · exact .inr (List.mem_singleton.mp h1)
      · exact .inl (List.dropLast_subset _ h)
theorem foldl_mem : ∀ (cs acc : List Str) {a : Str}, a ∈ cs.foldl normStep acc → a ∈ acc ∨ a ∈ cs
  | [], _, _, h => .inl h
  | c :: r, acc, a, h => by
    rcases foldl_mem r _ h with h1 | h1
    · rcases normStep_mem h1 with h2 | h2
      · exact .inl h2
      · exact .inr (h2 ▸ .head _)
    · exact .inr (.tail _ h1)
theorem normFold_mem {cs : List Str} {a : Str} (h : a ∈ normFold cs) : a ∈ cs := (foldl_mem cs [] h).resolve_left fun h => nomatch h
theorem sum_le_bound : ∀ (l : List Str) (b : Nat), (∀ a ∈ l, a.length ≤ b) → (l.map (·.length)).sum ≤ l.length * b
  | [], _, _ => Nat.zero_le _
  | a :: r, b, h => by
    have h1 := h a (.head _)
    have h2 := sum_le_bound r b fun x hx => h x (.tail _ hx)
    rw [List.map_cons, List.sum_cons, List.length_cons, Nat.add_mul, Nat.one_mul]
    omega
theorem small_join {acc : List Str} {sep : Str} (hl : acc.length ≤ 1002) (hb : ∀ a ∈ acc, a.length ≤ 1000) (hs : sep.length ≤ 1) : (acc.map (·.length)).sum + acc.length * sep.length ≤ 16777216 := by
  have h1 := sum_le_bound acc 1000 hb
  have h2 : acc.length * 1000 ≤ 1002 * 1000 := Nat.mul_le_mul_right _ hl
  have h3 : acc.length * sep.length ≤ 1002 * 1 := Nat.mul_le_mul hl hs
  omega
theorem small_join2 {acc : List Str} {sep : Str} (hl : acc.length ≤ 1002) (hb : ∀ a ∈ acc, a.length ≤ 1000) (hs : sep.length ≤ 1) : (acc.map (·.length)).sum + acc.length * sep.length ≤ 1048576 := by
  have h1 := sum_le_bound acc 1000 hb
  have h2 : acc.length * 1000 ≤ 1002 * 1000 := Nat.mul_le_mul_right _ hl
  have h3 : acc.length * sep.length ≤ 1002 * 1 := Nat.mul_le_mul hl hs
  omega
theorem norm_skip1 {acc : List Str} {c : Str} (h : (c.length : Int) = 0) : normStep acc c = acc := if_pos h
theorem norm_skip2 {acc : List Str} {c : Str} (h1 : (c.length : Int) ≠ 0) (h : (c == Str.ofString ".") = true) : normStep acc c = acc := (if_neg h1).trans (if_pos h)
theorem norm_push {acc : List Str} {c : Str} (h1 : (c.length : Int) ≠ 0) (h2 : (c == Str.ofString ".") = false) (h : (c != Str.ofString "..") = true) : normStep acc c = acc ++ [c] := (if_neg h1).trans ((if_neg (by rw [h2]; exact Bool.false_ne_true)).trans (if_pos h))
theorem norm_pop {acc : List Str} {c : Str} (h1 : (c.length : Int) ≠ 0) (h2 : (c == Str.ofString ".") = false) (h : (c != Str.ofString "..") = false) : normStep acc c = acc.dropLast := (if_neg h1).trans ((if_neg (by rw [h2]; exact Bool.false_ne_true)).trans (if_neg (by rw [h]; exact Bool.false_ne_true)))
noncomputable def normF (x : Str) : Str := Str.ofString "/" ++ Txt.join (Str.ofString "/") (normFold (Txt.split (Txt.slice x (some 1) none) (Str.ofString "/")))
theorem rooted_len {x : Str} (h : Rooted x) : (x.length : Int) ≠ 0 := fun e => by
  have h1 := h.one
  have h2 := PyProof.Txt.length_slice_le x none (some 1)
  have h3 : Txt.slice x none (some 1) = Str.ofString "/" := by simpa using h1
  rw [h3] at h2
  have h4 : (Str.ofString "/").length = 1 := by decide
  omega
/-- the new list after i turns -/
inductive NormAt (l : List (Str × Tok)) (i : Nat) (o : Obj) : Prop
  | mk (acc : List (Str × Tok)) (n : Nat) : o = W.listOf (strValues acc).toArray n → acc.map (·.1) = normFold ((l.map (·.1)).take i) → acc.length ≤ i → NormAt l i o
section
local macro_rules | `(tactic| walk_at "exec For Name Name cons nil") => `(tactic| (k_here; refine Hold.out ?_))
set_option maxHeartbeats 4000000 in
theorem normpath_c (w : World) (x : Str) (t : Tok) (hx : x.length ≤ 1000) (hr : Rooted x) : PureC w 241 [.str x t] 880 3800 (fun _ => True)
    (fun _ r _ => IsT r (normF x)) := by
  unfold PureC PG LW VW
  k_fill
  intro outer s mg mb Q E X T _ hret
  have hx1 : x.length ≤ 1048576 := by omega
  refine wpAny_call ?_
  k_dflt k_enter
  k_steps
  case' _ => (with_reducible show Hold _)
  · rename List (Str × Tok) => l
    rename (List.map _ _ = _) => hl1
    rename StrsAre _ _ => hl2
    rename (∀ _, _ ∈ List.map _ _ → _) => hbd
    replace hbd : ∀ a ∈ l.map (·.1), a.length ≤ 1000 := fun a ha => Nat.le_trans (hbd a ha) (Nat.le_trans (PyProof.Txt.length_slice_le _ _ _) hx)
    have hll : l.length ≤ 1002 := by
      have q := congrArg List.length hl1
      rw [List.length_map] at q
      rw [q]
      exact Nat.le_trans (PyProof.Rows.split_le _ _) (Nat.add_le_add_right (Nat.le_trans (PyProof.Txt.length_slice_le _ _ _) hx) 2)
    rename Fr _ _ _ _ => F
    rename News _ _ _ _ => N
    dsimp only at F
    refine for_obj (rest := []) (NormAt l) rfl rfl F (fun p hp => N p (List.mem_singleton.mp hp ▸ .head _)) ⟨_, (N _ (.tail _ (.head _))).1, rfl, _, rfl⟩ ?_ (N _ (.tail _ (.head _))).2.1 ?_ rfl rfl ⟨[], 0, rfl, rfl, Nat.le_refl _⟩ ?_ ?_
    · intro Q' hq
      k_steps
      exact hq
    · intro p hp
      rw [List.mem_singleton.mp hp]
      exact Nat.ne_of_gt (by assumption : _ ∧ _).1
    · rintro i v o h tk own hv ⟨acc, n, rfl, hacc, hal⟩ sep F₁ N₁
      simp only [List.nil_append] at N₁
      clear F N
      obtain ⟨c, u, rfl, hc⟩ := strValues_get hv
      have hcl : c.length ≤ 1048576 := Nat.le_trans (hbd c (List.mem_map_of_mem (List.mem_of_getElem? hc))) (by decide)
      have hil : i < l.length := (List.getElem?_eq_some_iff.mp hc).1
      rcases List.eq_nil_or_concat acc with rfl | ⟨init, ⟨y, yu⟩, rfl⟩
      · have hz : (strValues []).length ≤ 2097152 := Nat.zero_le _
        have hnx := norm_next hc
        rw [← hacc] at hnx
        k_steps
        · dsimp only
          exact (ObjPost.go (by assumption) (fun y hy => if_neg hy) (by assumption) ⟨[], _, rfl, by rw [hnx, norm_skip2 (by assumption) (by assumption)], Nat.zero_le _⟩).2
        · exact (ObjPost.go (by assumption) (fun y hy => if_neg hy) (by assumption) ⟨[(c, u)], _, rfl, by rw [hnx, norm_push (by assumption) (by assumption) (by assumption)]; rfl, by rw [List.length_singleton]; omega⟩).1
        · exact (ObjPost.go (by assumption) (fun y hy => if_neg hy) (by assumption) ⟨[], _, rfl, by rw [hnx, norm_pop (by assumption) (by assumption) (by assumption)]; rfl, Nat.zero_le _⟩).1
        · dsimp only
          exact (ObjPost.go (by assumption) (fun y hy => if_neg hy) (by assumption) ⟨[], _, rfl, by rw [hnx, norm_skip1 (by assumption)], Nat.zero_le _⟩).2
      · have e1 : strValues (init ++ [(y, yu)]) = strValues init ++ [.str y yu] := by simp [strValues]
        rw [List.concat_eq_append] at hacc hal N₁
        rw [e1] at N₁
        rw [List.length_append, List.length_singleton] at hal
        have hz : (strValues init).length ≤ 2097152 := by unfold strValues; rw [List.length_map]; omega
        have hz2 : (strValues init ++ [Value.str y yu]).length ≤ 2097152 := by unfold strValues; rw [List.length_append, List.length_map, List.length_singleton]; omega
        have hnx := norm_next hc
        rw [← hacc] at hnx
        have hno : (y != Str.ofString "..") = true := normFold_no _ y (by rw [← hacc]; simp)
        k_steps
        · dsimp only
          exact (ObjPost.go (by assumption) (fun y hy => if_neg hy) (by assumption) ⟨init ++ [(y, yu)], _, by rw [e1], by rw [hnx, norm_skip2 (by assumption) (by assumption)], by rw [List.length_append, List.length_singleton]; omega⟩).2
        · exact (ObjPost.go (by assumption) (fun y hy => if_neg hy) (by assumption) ⟨init ++ [(y, yu)] ++ [(c, u)], _, congrArg (fun z => W.listOf (List.toArray z) _) (by simp [strValues]), by rw [hnx, norm_push (by assumption) (by assumption) (by assumption)]; simp, by rw [List.length_append, List.length_append, List.length_singleton, List.length_singleton]; omega⟩).1
        · exfalso
          rename (y == Str.ofString "..") = true => q
          rw [bne, q] at hno
          cases hno
        · exact (ObjPost.go (by assumption) (fun y hy => if_neg hy) (by assumption) ⟨init, _, rfl, by rw [hnx, norm_pop (by assumption) (by assumption) (by assumption)]; simp, by omega⟩).1
        · dsimp only
          exact (ObjPost.go (by assumption) (fun y hy => if_neg hy) (by assumption) ⟨init ++ [(y, yu)], _, by rw [e1], by rw [hnx, norm_skip1 (by assumption)], by rw [List.length_append, List.length_singleton]; omega⟩).2
    · clear F N
      rintro ul o h tk ⟨acc, n, rfl, hacc, hal⟩ F₁ N₁
      rw [List.take_of_length_le (by unfold strValues; simp)] at hacc
      have hal' : acc.length ≤ 1002 := Nat.le_trans hal (by unfold strValues; rw [List.length_map]; exact hll)
      k_steps
      rename News _ _ _ _ => N
      have hsj := small_join (sep := Str.ofString "/") (by rw [List.length_map]; exact hal') (fun a ha => hbd a (normFold_mem (hacc ▸ ha))) (by decide)
      have hjl : (Txt.join (Str.ofString "/") (acc.map (·.1))).length ≤ 1048576 := Nat.le_trans (join_len _ _) (small_join2 (by rw [List.length_map]; exact hal') (fun a ha => hbd a (normFold_mem (hacc ▸ ha))) (by decide))
      refine join_list (news_list N (.head _)) (strsAre_of acc) hsj ?_
      intro t' k'
      k_steps
      dsimp only
      exact hret _ _ _ ⟨_, by rw [hacc, hl1]; rfl⟩ (Fr.keep (by with_reducible assumption))
  · exact absurd (by assumption) (rooted_len hr)
end
local macro_rules | `(tactic| walk_at "call ref") => `(tactic| (k_here; k_dflt (
   (refine' use_pureT (normpath_c _ _ _ (by assumption) (by assumption)) (by k_asm) (by k_asm) (by k_asm) (by k_asm) (by rfl) (by exact True.intro) ?_; intro t' h' tk' F' N'; k_whole))))

theorem slash_out {vs : List Value} {outs : List Out} (h : Paired (OutIs (fun _ => true) fun v y os => ∃ x t t', v = .str x t ∧ y = .str (Str.ofString "/" ++ x) t' ∧ os = []) vs outs) :
    ∀ l : List (Str × Tok), vs = strValues l → ∃ l' : List (Str × Tok), outY outs = strValues l' ∧ l'.map (·.1) = (l.map (·.1)).map fun x => Str.ofString "/" ++ x := by
  induction h with
  | nil =>
    intro l e
    cases l with
    | nil => exact ⟨[], rfl, rfl⟩
    | cons => cases e
  | cons h _ ih =>
    intro l e
    cases l with
    | nil => cases e
    | cons a r =>
      obtain ⟨b, bt⟩ := a
      have e' := List.cons.inj e
      obtain ⟨l', h1, h2⟩ := ih r e'.2
      rcases h with ⟨_, y, os, rfl, x, t, t', hx, rfl, rfl⟩ | ⟨hf, _⟩
      · rw [e'.1] at hx
        cases hx
        refine ⟨(Str.ofString "/" ++ b, t') :: l', ?_, ?_⟩
        · show _ :: outY _ = _; rw [h1]; rfl
        · rw [List.map_cons, h2]; rfl
      · cases hf
noncomputable def slashF (ns : List Str) : Str := Txt.join (Str.ofString "") (ns.map fun x => Str.ofString "/" ++ x)
section
local macro_rules | `(tactic| walk_at "call builtin:str.join") => `(tactic| (k_here; refine Hold.out ?_))
local macro_rules | `(tactic| walk_at "eval ListComp") => `(tactic| (k_here; refine Hold.out ?_))
set_option maxHeartbeats 4000000 in
theorem slashed_c (w : World) (a : Addr) (l : List (Str × Tok)) (hl : l.length ≤ 100) (hb : ∀ x ∈ l.map (·.1), x.length ≤ 100) : PureC w 258 [.ref a] 890 3900 (fun h => h.IsList a (strValues l).toArray)
    (fun _ r _ => IsT r (slashF (l.map (·.1)))) := by
  unfold PureC PG LW VW
  k_fill
  intro outer s mg mb Q E X T hl1 hret
  refine wpAny_call ?_
  k_dflt k_enter
  k_steps
  with_reducible show Hold _
  rename Fr _ _ _ _ => F
  rename News _ _ _ _ => N
  refine comp_list (fun _ => true) (fun v y os => ∃ x t t', v = .str x t ∧ y = .str (Str.ofString "/" ++ x) t' ∧ os = []) rfl rfl (by decide) rfl (by decide) rfl ?_ (hl1.at fun o e => F.keep _ o e) (by unfold strValues; rw [List.length_map]; omega) ?_ ?_ ?_
  · intro Q' hq
    k_steps
    exact hq
  · intro C i v s₄ m₄ hv hC hn hm kp
    exact wpAny_pure (TestEnd.go rfl fun _ _ e => e)
  · intro C i v s₄ m₄ hv hC hn hm kp _
    obtain ⟨c, u, rfl, hc⟩ := strValues_get hv
    have hcl : c.length ≤ 1048576 := Nat.le_trans (hb c (List.mem_map_of_mem (List.mem_of_getElem? hc))) (by decide)
    clear F N
    k_steps
    exact EltEnd.plain ⟨_, _, _, rfl, rfl, rfl⟩ fun _ _ e => e
  · intro D h' tk outs hD hpl hP hO hk
    obtain ⟨l', e1, e2⟩ := slash_out hP l rfl
    rw [e1] at hpl
    have F' := fr_keeps F hk
    have N' := news_keeps N hk
    clear F N
    k_steps
    with_reducible show Hold _
    have e3 : (l'.map (·.1)).length = l.length := by rw [e2, List.length_map, List.length_map]
    have hb' : ∀ x ∈ l'.map (·.1), x.length ≤ 1000 := by
      intro x hx
      rw [e2] at hx
      obtain ⟨y, hy, rfl⟩ := List.mem_map.mp hx
      have := hb y hy
      rw [Str.length_append]
      have q : (Str.ofString "/").length = 1 := by decide
      omega
    refine join_list hpl.isList (strsAre_of l') (small_join (by omega) hb' (by decide)) ?_
    intro t' k'
    k_steps
    dsimp only
    exact hret _ _ _ ⟨_, by rw [e2]; rfl⟩ (Fr.keep (by with_reducible assumption))
end

noncomputable abbrev tup3 (v1 v2 v3 : Value) (n : Nat) : Obj := { cls := .type "tuple", data := .seq #[v1, v2, v3] n }
section
variable {w : World} {outer : List Env} {s : Shared} {x y : Addr} {n k : Nat} {a b c d : Int} {t1 t2 t3 t4 : Tok} {v1 v2 : Value} {Q E : Value → Shared → Prop}
theorem tlt_1 (hx : s.heap.get? x = some { cls := .type "tuple", data := .seq #[.int a t1, .int b t2, v1] n }) (hy : s.heap.get? y = some { cls := .type "tuple", data := .seq #[.int c t3, .int d t4, v2] k }) (hac : a < c)
    (h : ∀ tk, Q (.bool true) { s with toks := tk }) : wpAny (model PG w) (Ar 950 8000 outer) (call (.builtin "tuple.__lt__") [.ref x, .ref y]) Q E s := by
  x_run
theorem tlt_2 (hx : s.heap.get? x = some { cls := .type "tuple", data := .seq #[.int a t1, .int b t2, v1] n }) (hy : s.heap.get? y = some { cls := .type "tuple", data := .seq #[.int c t3, .int d t4, v2] k }) (hac : c < a)
    (h : ∀ tk, Q (.bool false) { s with toks := tk }) : wpAny (model PG w) (Ar 950 8000 outer) (call (.builtin "tuple.__lt__") [.ref x, .ref y]) Q E s := by
  x_run
theorem tlt_3 (hx : s.heap.get? x = some { cls := .type "tuple", data := .seq #[.int a t1, .int b t2, v1] n }) (hy : s.heap.get? y = some { cls := .type "tuple", data := .seq #[.int c t3, .int d t4, v2] k }) (hac : a = c) (hbd : b < d)
    (h : ∀ tk, Q (.bool true) { s with toks := tk }) : wpAny (model PG w) (Ar 950 8000 outer) (call (.builtin "tuple.__lt__") [.ref x, .ref y]) Q E s := by
  x_run
theorem tlt_4 (hx : s.heap.get? x = some { cls := .type "tuple", data := .seq #[.int a t1, .int b t2, v1] n }) (hy : s.heap.get? y = some { cls := .type "tuple", data := .seq #[.int c t3, .int d t4, v2] k }) (hac : a = c) (hbd : d < b)
    (h : ∀ tk, Q (.bool false) { s with toks := tk }) : wpAny (model PG w) (Ar 950 8000 outer) (call (.builtin "tuple.__lt__") [.ref x, .ref y]) Q E s := by
  x_run
end
noncomputable def pltB (a b c d : Int) : Bool := decide (a < c ∨ (a = c ∧ b < d))
theorem tup_lt {w : World} {A : Around} {s : Shared} {x y : Addr} {n k : Nat} {a b c d : Int} {t1 t2 t3 t4 : Tok} {v1 v2 : Value} {Q E : Value → Shared → Prop}
    (hx : s.heap.get? x = some (tup3 (.int a t1) (.int b t2) v1 n)) (hy : s.heap.get? y = some (tup3 (.int c t3) (.int d t4) v2 k)) (hne : a ≠ c ∨ b ≠ d)
    (hA : okA A 950 8000 = true) (h : ∀ tk, Q (.bool (pltB a b c d)) { s with toks := tk }) :
    wpAny (model PG w) A (compareOp .Lt (.ref x) (.ref y)) Q E s := by
  refine wpAny_richCompare_same_room (op := .Lt) ⟨_, hx, rfl⟩ ⟨_, hy, rfl⟩ F.slot_tuple_lt ?_ (Nat.lt_of_le_of_lt (okA_spec hA).2.2.2 (by decide))
  refine wpAny_Ar (fun outer => ?_) hA
  have q1 : ∀ tk, (∀ e : pltB a b c d = true, (Value.bool true ≠ Value.notImplemented ∧ Q (.bool true) { s with toks := tk })) := fun tk e => ⟨(fun z => nomatch z), e ▸ h tk⟩
  have q2 : ∀ tk, (∀ e : pltB a b c d = false, (Value.bool false ≠ Value.notImplemented ∧ Q (.bool false) { s with toks := tk })) := fun tk e => ⟨(fun z => nomatch z), e ▸ h tk⟩
  rcases Int.lt_trichotomy a c with hac | hac | hac
  · exact tlt_1 hx hy hac fun tk => q1 tk (decide_eq_true (.inl hac))
  · rcases Int.lt_trichotomy b d with hbd | hbd | hbd
    · exact tlt_3 hx hy hac hbd fun tk => q1 tk (decide_eq_true (.inr ⟨hac, hbd⟩))
    · rcases hne with q | q
      · exact absurd hac q
      · exact absurd hbd q
    · exact tlt_4 hx hy hac hbd fun tk => q2 tk (decide_eq_false (by omega))
  · exact tlt_2 hx hy hac fun tk => q2 tk (decide_eq_false (by omega))

/-- an item of the heap: where it lies, its two ints -/
noncomputable abbrev It := Addr × Int × Int
noncomputable def itV (xs : List It) : List Value := xs.map fun x => Value.ref x.1
theorem len_at {prog : Program} {w : World} {A : Around} {E : Value → Shared → Prop} {s : Shared} {h₀ : Heap} {L d : Addr} {news : List (Addr × Obj)} {n k : Nat} {vs : List Value} {Q : Value → Shared → Prop} (N : News h₀ L s.heap news) (hm : (d, W.listOf vs.toArray n) ∈ news) (hv : vs.length = k) (hz : vs.length ≤ 2097152)
    (h : Q (.int (k : Nat) (s.toks + 1)) { s with toks := s.toks + 1 + 1 }) : wpAny (model prog w) A (call (.builtin "len") [.ref d]) Q E s :=
  KM.len_K N hm (by simpa using hv) (by omega) h
inductive TupAt (h : Heap) (x : It) : Prop
  | mk (t1 t2 : Tok) (v : Value) (k : Nat) : h.get? x.1 = some (tup3 (.int x.2.1 t1) (.int x.2.2 t2) v k) → TupAt h x
theorem with_some {α : Type} {o : Option α} {G : Prop} {v : α} (e : o = some v) (k : ∀ q, o = some q → G) : G := k v e
theorem half_lt {k : Nat} (h : 0 < k) : (k - 1) / 2 < k := by omega
theorem half_le {k p : Nat} (h : k ≤ p) : (k - 1) / 2 ≤ p := by omega
theorem half_fuel {k f : Nat} (h : k ≤ f + 1) : (k - 1) / 2 ≤ f := by omega
noncomputable def ltI (x y : It) : Bool := pltB x.2.1 x.2.2 y.2.1 y.2.2
noncomputable def sdF (ni : It) : Nat → List It → Nat → List It
  | 0, xs, p => xs.set p ni
  | f + 1, xs, p => if p = 0 then xs.set p ni else match xs[(p - 1) / 2]? with
    | some q => if ltI ni q = true then sdF ni f (xs.set p q) ((p - 1) / 2) else xs.set p ni
    | none => xs.set p ni
/-- the second ints are all different -/
noncomputable def Dist (xs : List It) : Prop := (xs.map fun x => x.2.2).Nodup
theorem Dist.at {xs : List It} (h : Dist xs) (i j : Nat) (x y : It) (hi : xs[i]? = some x) (hj : xs[j]? = some y) (hn : i ≠ j) : x.2.2 ≠ y.2.2 := by
  intro e
  obtain ⟨li, ei⟩ := List.getElem?_eq_some_iff.mp hi
  obtain ⟨lj, ej⟩ := List.getElem?_eq_some_iff.mp hj
  have := (List.nodup_iff_pairwise_ne.mp h)
  have q := List.pairwise_iff_getElem.mp this
  rcases Nat.lt_or_gt_of_ne hn with z | z
  · exact q i j (by rw [List.length_map]; exact li) (by rw [List.length_map]; exact lj) z (by simp only [List.getElem_map]; rw [ei, ej, e])
  · exact q j i (by rw [List.length_map]; exact lj) (by rw [List.length_map]; exact li) z (by simp only [List.getElem_map]; rw [ei, ej, e])
theorem itV_len (xs : List It) : (itV xs).length = xs.length := List.length_map ..
theorem itV_get {xs : List It} {i : Nat} {x : It} (h : xs[i]? = some x) : (itV xs)[i]? = some (.ref x.1) := by unfold itV; rw [List.getElem?_map, h]; rfl
theorem itV_set (xs : List It) (i : Nat) (x : It) : itV (xs.set i x) = (itV xs).set i (.ref x.1) := by unfold itV; rw [List.map_set]
theorem tup_ne {h : Heap} {x : It} {H : Addr} {its : Array Value} {n : Nat} (hx : TupAt h x) (hH : h.get? H = some (W.listOf its n)) : x.1 ≠ H := by
  rintro rfl
  obtain ⟨t1, t2, v, k, e⟩ := hx
  rw [hH] at e
  have q : Value.type "list" = Value.type "tuple" := congrArg Obj.cls (Option.some.inj e)
  injection q with q
  exact absurd q (by decide)
theorem shift_nat {hp0 : Heap} {gs : Array GenState} {dr : Drawn} {tk0 : Nat} {os : OsState} {prog : Program} {w : World} {A : Around} {E : Value → Shared → Prop} {k : Nat} {t u : Tok} {Q : Value → Shared → Prop} (hk : 0 < (k : Int)) (h : Q (.int (((k - 1) / 2 : Nat) : Int) tk0) ⟨hp0, gs, dr, tk0 + 1, os⟩) :
    wpAny (model prog w) A (binaryOp .RShift (.int ((k : Int) - 1) t) (.int 1 u)) Q E ⟨hp0, gs, dr, tk0, os⟩ := by
  refine rshift_int (by decide) ?_
  have e : ((k : Int) - 1).fdiv (2 ^ (1 : Int).toNat) = (((k - 1) / 2 : Nat) : Int) := by
    show ((k : Int) - 1).fdiv 2 = _
    rw [Int.fdiv_eq_ediv_of_nonneg _ (by decide)]
    omega
  rw [e]; exact h
theorem tup_keep {h h' : Heap} {x : It} (hx : TupAt h x) (k : ∀ o, h.get? x.1 = some o → h'.get? x.1 = some o) : TupAt h' x := by
  obtain ⟨t1, t2, v, n, e⟩ := hx
  exact ⟨t1, t2, v, n, k _ e⟩
theorem sdF_zero {ni : It} {f : Nat} {xs : List It} : sdF ni f xs 0 = xs.set 0 ni := by cases f <;> rfl
theorem sdF_succ {ni q : It} {f k : Nat} {xs : List It} (hk : 0 < k) (hq : xs[(k - 1) / 2]? = some q) : sdF ni (f + 1) xs k = if ltI ni q = true then sdF ni f (xs.set k q) ((k - 1) / 2) else xs.set k ni := by
  show (if k = 0 then xs.set k ni else match xs[(k - 1) / 2]? with | some q => _ | none => _) = _
  rw [if_neg (by omega), hq]
theorem hid_at {g h : Heap} {L : Addr} {hid : List (Addr × Obj)} (N : News g L h hid) : ∀ p ∈ hid, h.get? p.1 = some p.2 := fun p hp => (N p hp).1
theorem kbut {g h h' : Heap} {L : Addr} {m : Str → Option Value} {as : List Addr} (F : Fr g L h' m) (kg : ∀ b o, b ∉ as → h.get? b = some o → g.get? b = some o) : ∀ b o, b ∉ as → h.get? b = some o → h'.get? b = some o := fun b o hb e => F.keep b o (kg b o hb e)
/-- between the turns of _siftdown -/
inductive SdInv (ni : It) (xs : List It) (p : Nat) (H : Addr) (k : Nat) (a : Option Value) (nx : List (Addr × Obj)) : Prop
  | mk (t : Tok) (f : Nat) (xs' : List It) (n' : Nat) : k ≤ f → k ≤ p → a = some (.int (k : Int) t) → nx = [(H, W.listOf (itV xs').toArray n')] → xs'.length = xs.length → (∀ j, j < k → xs'[j]? = xs[j]?) → sdF ni f xs' k = sdF ni p xs p → SdInv ni xs p H k a nx
section
local macro_rules | `(tactic| k_enter) => `(tactic| (refine' enterH (by k_asm) (by k_asm) (by assumption) (by assumption) (by assumption) (by k_is) (by k_is) (by k_room) (by exact BindsTo.of_eq rfl) (by exact locs rfl) ?_ (by exact rfl) (by exact rfl) (by exact rfl) (by decide); k_whole; intro g L' h' tk' kg' F' N' X' T' l1'; (try dsimp only)))
local macro_rules | `(tactic| walk_at "binaryOp RShift int int") => `(tactic| (k_here; refine shift_nat (by omega) ?_))
local macro_rules | `(tactic| walk_at "exec While Compare cons nil") => `(tactic| (k_here; refine Hold.out ?_))
local macro_rules | `(tactic| walk_at "subscriptTail") => `(tactic| (k_here; (with_reducible show wpAny _ _ (subscriptTail _ _ (Value.ref _) (Value.int _ _)) _ _ _); k_dflt (refine' item_at (by k_asm) (by k_mem) (by assumption) (by assumption) ?_; k_whole)))
local macro_rules | `(tactic| walk_at "compareOp Lt ref ref") => `(tactic| (k_here; refine tup_lt (Fr.keep (by assumption) _ _ (by assumption)) (Fr.keep (by assumption) _ _ (by assumption)) (by assumption) rfl ?_; intro tk'))
local macro_rules | `(tactic| walk_at "setItem ref int") => `(tactic| (k_here; k_dflt (refine' set_at (by k_asm) (by k_asm) (by k_upd) (by assumption) (by assumption) ?_; intro h' F' N'; k_whole)))
/-- what a def leaves that gives nothing back and turns one list -/
inductive TurnR (H : Addr) (ys : List It) (r : Value) (hid : List (Addr × Obj)) : Prop
  | mk (e : r = .none) (n' : Nat) : hid = [(H, W.listOf (itV ys).toArray n')] → TurnR H ys r hid
set_option maxHeartbeats 4000000 in
theorem siftdown_c (w : World) (H n : Nat) (xs : List It) (p : Nat) (ni : It) (t1 t2 : Tok) (hp : xs[p]? = some ni) (hz : xs.length ≤ 1000) (hdi : Dist xs) :
    MutC w 126 [.ref H, .int 0 t1, .int (p : Int) t2] 880 3800 [(H, W.listOf (itV xs).toArray n)] (fun h => ∀ x ∈ xs, TupAt h x)
      (fun _ r _ hid => TurnR H (sdF ni p xs p) r hid) := by
  unfold MutC PG LW VW
  k_fill
  intro outer s h₀ mg mb Q E X T hsub hh hat hpre hret
  have hz' : (itV xs).length ≤ 2097152 := by rw [itV_len]; omega
  have hp' := itV_get hp
  refine wpAny_call ?_
  k_dflt k_enter
  rename ∀ b o, _ → s.heap.get? b = some o → _ => kg
  have htup : ∀ x ∈ xs, TupAt _ x := fun x hx => tup_keep (hpre x hx) fun o e => kg _ o (by
    rw [List.map_cons, List.map_nil, List.mem_singleton]
    exact tup_ne (hpre x hx) (hat _ (.head _))) e
  k_steps
  with_reducible show Hold _
  rename Fr _ _ _ _ => F
  rename News _ _ _ _ => N
  dsimp only at F
  have hpl := (List.getElem?_eq_some_iff.mp hp).1
  refine while_3 (Str.ofString "pos") (Str.ofString "parentpos") (Str.ofString "parent") (fun k a _ _ nx => SdInv ni xs p H k a nx) F N p ⟨_, p, xs, n, Nat.le_refl _, Nat.le_refl _, rfl, rfl, rfl, fun _ _ => rfl, rfl⟩ ?_
  clear F N
  rintro k a b c nx h tk ⟨t, f, xs', n', hkf, hkp, rfl, rfl, hlen, hpar, hres⟩ F N
  have hz2 : (itV xs').length ≤ 2097152 := by rw [itV_len]; omega
  have hkl : k < (itV xs').length := by rw [itV_len, hlen]; exact Nat.lt_of_le_of_lt hkp hpl
  obtain ⟨u1, u2, v1, k1, hni⟩ := htup ni (List.mem_of_getElem? hp)
  rcases Nat.eq_zero_or_pos k with rfl | hk0
  · k_steps
    exact hret _ _ _ _ ⟨rfl, n', by rw [← hres, sdF_zero, itV_set]⟩ (hid_at (by assumption)) (kbut (by assumption) (by assumption))
  · refine with_some (List.getElem?_eq_getElem (Nat.lt_of_le_of_lt (half_le hkp) hpl)) fun q hq => ?_
    have hq' : xs'[(k - 1) / 2]? = some q := (hpar _ (half_lt hk0)).trans hq
    have hq2 := itV_get hq'
    obtain ⟨u3, u4, v2, k2, hqi⟩ := htup q (List.mem_of_getElem? hq)
    have hne : ni.2.1 ≠ q.2.1 ∨ ni.2.2 ≠ q.2.2 := .inr (hdi.at _ _ _ _ hp hq (Nat.ne_of_gt (Nat.lt_of_lt_of_le (half_lt hk0) hkp)))
    obtain ⟨f', rfl⟩ : ∃ f', f = f' + 1 := ⟨f - 1, (Nat.sub_add_cancel (Nat.le_trans hk0 hkf)).symm⟩
    have hst := sdF_succ (ni := ni) (f := f') hk0 hq'
    k_steps
    · dsimp only
      refine ⟨(k - 1) / 2, half_lt hk0, _, _, _, _, rfl, by assumption, ?_, by assumption, ⟨_, f', xs'.set k q, n', half_fuel hkf, half_le hkp, rfl, by rw [itV_set], by rw [List.length_set]; exact hlen, ?_, ?_⟩⟩
      · intro y h1 h2 h3
        simp only [if_neg h1, if_neg h2, if_neg h3]
      · intro j hj
        rw [List.getElem?_set_ne (Nat.ne_of_gt (Nat.lt_trans hj (half_lt hk0)))]
        exact hpar j (Nat.lt_trans hj (half_lt hk0))
      · rw [← hres, hst, if_pos (by assumption)]
    · dsimp only [WPost]
      k_steps
      exact hret _ _ _ _ ⟨rfl, n', by rw [← hres, hst, if_neg (by unfold ltI; rename pltB _ _ _ _ = false => q; rw [q]; decide), itV_set]⟩ (hid_at (by assumption)) (kbut (by assumption) (by assumption))
end
local macro_rules | `(tactic| walk_at "call builtin:len") => `(tactic| (k_here; (with_reducible show wpAny _ _ (call (Value.builtin "len") [Value.ref _]) _ _ _); k_dflt (refine' len_at (by k_asm) (by k_mem) (by assumption) (by assumption) ?_; k_whole)))

noncomputable def suC (xs : List It) (p : Nat) : Nat := match xs[2 * p + 1]?, xs[2 * p + 2]? with
  | some x, some y => if ltI x y = true then 2 * p + 1 else 2 * p + 2
  | _, _ => 2 * p + 1
noncomputable def suF : Nat → List It → Nat → List It × Nat
  | 0, xs, p => (xs, p)
  | f + 1, xs, p => match xs[suC xs p]? with
    | some q => suF f (xs.set p q) (suC xs p)
    | none => (xs, p)
theorem suC_gt (xs : List It) (p : Nat) : p < suC xs p := by
  unfold suC
  split
  · split <;> omega
  · omega
theorem suF_succ {f p : Nat} {xs : List It} {q : It} (h : xs[suC xs p]? = some q) : suF (f + 1) xs p = suF f (xs.set p q) (suC xs p) := by
  show (match xs[suC xs p]? with | some q => suF f (xs.set p q) (suC xs p) | none => (xs, p)) = _
  rw [h]
theorem suF_none {f p : Nat} {xs : List It} (h : xs.length ≤ 2 * p + 1) : suF f xs p = (xs, p) := by
  cases f with
  | zero => rfl
  | succ f =>
    show (match xs[suC xs p]? with | some q => suF f (xs.set p q) (suC xs p) | none => (xs, p)) = _
    have : suC xs p = 2 * p + 1 := by
      unfold suC
      rw [List.getElem?_eq_none (by omega)]
    rw [this, List.getElem?_eq_none h]
theorem suC_lt {xs : List It} {p : Nat} (h : 2 * p + 1 < xs.length) : suC xs p < xs.length := by
  unfold suC
  split
  · rename_i h1 h2
    have := (List.getElem?_eq_some_iff.mp h2).1
    split <;> omega
  · omega
theorem suF_fuel : ∀ (f f' : Nat) (xs : List It) (p : Nat), xs.length ≤ f + p → xs.length ≤ f' + p → suF f xs p = suF f' xs p
  | 0, f', xs, p, h, _ => by rw [suF_none (by omega), suF_none (by omega)]
  | f + 1, 0, xs, p, _, h => by rw [suF_none (by omega), suF_none (by omega)]
  | f + 1, f' + 1, xs, p, h, h' => by
    have hg := suC_gt xs p
    cases hq : xs[suC xs p]? with
    | none =>
      show (match xs[suC xs p]? with | some q => suF f (xs.set p q) (suC xs p) | none => (xs, p)) = (match xs[suC xs p]? with | some q => suF f' (xs.set p q) (suC xs p) | none => (xs, p))
      rw [hq]
    | some q =>
      rw [suF_succ hq, suF_succ hq]
      exact suF_fuel f f' _ _ (by rw [List.length_set]; omega) (by rw [List.length_set]; omega)
theorem suF_step {k p c : Nat} {xs : List It} {q : It} (hk : k + p = xs.length) (hp : p < xs.length) (hc : suC xs p = c) (hq : xs[c]? = some q) : suF (xs.length - c) (xs.set p q) c = suF k xs p := by
  subst hc
  have hg := suC_gt xs p
  obtain ⟨k', rfl⟩ : ∃ k', k = k' + 1 := ⟨k - 1, by omega⟩
  rw [suF_succ hq]
  exact suF_fuel _ _ _ _ (by rw [List.length_set]; omega) (by rw [List.length_set]; omega)
theorem set_self {xs : List It} {i : Nat} {x : It} (h : xs[i]? = some x) : xs.set i x = xs := by
  obtain ⟨l, rfl⟩ := List.getElem?_eq_some_iff.mp h
  exact List.set_getElem_self l
theorem suF_perm {ni : It} : ∀ (f : Nat) (xs : List It) (p : Nat), p < xs.length → ((suF f xs p).1.set (suF f xs p).2 ni).Perm (xs.set p ni)
  | 0, xs, p, _ => List.Perm.refl _
  | f + 1, xs, p, h => by
    cases hq : xs[suC xs p]? with
    | none =>
      have : suF (f + 1) xs p = (xs, p) := by
        show (match xs[suC xs p]? with | some q => suF f (xs.set p q) (suC xs p) | none => (xs, p)) = _
        rw [hq]
      rw [this]
    | some q =>
      rw [suF_succ hq]
      have hc := (List.getElem?_eq_some_iff.mp hq).1
      have hg := suC_gt xs p
      refine (suF_perm f (xs.set p q) (suC xs p) (by rw [List.length_set]; exact hc)).trans ?_
      have h1 : p < (xs.set p ni).length := by rw [List.length_set]; exact h
      have h2 : suC xs p < (xs.set p ni).length := by rw [List.length_set]; exact hc
      have := List.set_set_perm h1 h2
      rw [List.getElem_set_self, List.getElem_set_ne (by omega), List.set_set] at this
      rw [(List.getElem?_eq_some_iff.mp hq).2] at this
      exact this
theorem Dist.perm {xs ys : List It} (h : Dist xs) (p : xs.Perm ys) : Dist ys := ((p.map _).nodup_iff).mp h
/-- all of it: the hole goes down from the root, then the item goes up from there -/
noncomputable def siftF (ni : It) (xs : List It) : List It := let r := suF xs.length xs 0; sdF ni r.2 (r.1.set r.2 ni) r.2
section
variable {prog : Program} {w : World} {A : Around} {E : Value → Shared → Prop} {s : Shared} {k : Nat} {t u : Tok} {Q : Value → Shared → Prop}
theorem add_nat1 {hp0 : Heap} {gs : Array GenState} {dr : Drawn} {tk0 : Nat} {os : OsState} (h : Q (.int ((k + 1 : Nat) : Int) tk0) ⟨hp0, gs, dr, tk0 + 1, os⟩) : wpAny (model prog w) A (binaryOp .Add (.int (k : Int) t) (.int 1 u)) Q E ⟨hp0, gs, dr, tk0, os⟩ := add_int h
theorem add_nat2 {hp0 : Heap} {gs : Array GenState} {dr : Drawn} {tk0 : Nat} {os : OsState} (h : Q (.int ((2 * k + 1 : Nat) : Int) tk0) ⟨hp0, gs, dr, tk0 + 1, os⟩) : wpAny (model prog w) A (binaryOp .Add (.int (2 * (k : Int)) t) (.int 1 u)) Q E ⟨hp0, gs, dr, tk0, os⟩ := add_int (by
  have e : 2 * (k : Int) + 1 = ((2 * k + 1 : Nat) : Int) := by omega
  rw [e]; exact h)
end
theorem dbl1 (p : Nat) : p < 2 * p + 1 := by omega
theorem dbl2 (p : Nat) : p < 2 * p + 2 := by omega
theorem fuel1 {k p n : Nat} (h : k + p = n) (hp : p < n) : n - (2 * p + 1) < k := by omega
theorem fuel2 {k p n : Nat} (h : k + p = n) (hp : p < n) : n - (2 * p + 2) < k := by omega
/-- between the turns of _siftup -/
inductive SuInv (xs : List It) (H : Addr) (k : Nat) (a b : Option Value) (nx : List (Addr × Obj)) : Prop
  | mk (t t' : Tok) (p : Nat) (xs' : List It) (n' : Nat) : a = some (.int (p : Int) t) → b = some (.int ((2 * p + 1 : Nat) : Int) t') → nx = [(H, W.listOf (itV xs').toArray n')] → k + p = xs.length → p < xs.length → xs'.length = xs.length → (∀ j, p < j → xs'[j]? = xs[j]?) → suF k xs' p = suF xs.length xs 0 → SuInv xs H k a b nx
section
local macro_rules | `(tactic| walk_at "binaryOp Add int int") => `(tactic| (k_here; first | refine add_nat2 ?_ | refine add_nat1 ?_))
local macro_rules | `(tactic| k_enter) => `(tactic| (refine' enterH (by k_asm) (by k_asm) (by assumption) (by assumption) (by assumption) (by k_is) (by k_is) (by k_room) (by exact BindsTo.of_eq rfl) (by exact locs rfl) ?_ (by exact rfl) (by exact rfl) (by exact rfl) (by decide); k_whole; intro g L' h' tk' kg' F' N' X' T' l1'; (try dsimp only)))
local macro_rules | `(tactic| walk_at "exec While Compare cons nil") => `(tactic| (k_here; refine Hold.out ?_))
local macro_rules | `(tactic| walk_at "call ref") => `(tactic| (k_here; refine Hold.out ?_))
local macro_rules | `(tactic| walk_at "subscriptTail") => `(tactic| (k_here; (with_reducible show wpAny _ _ (subscriptTail _ _ (Value.ref _) (Value.int _ _)) _ _ _); k_dflt (refine' item_at (by k_asm) (by k_mem) (by assumption) (by assumption) ?_; k_whole)))
local macro_rules | `(tactic| walk_at "compareOp Lt ref ref") => `(tactic| (k_here; refine tup_lt (Fr.keep (by assumption) _ _ (by assumption)) (Fr.keep (by assumption) _ _ (by assumption)) (by assumption) rfl ?_; intro tk'))
local macro_rules | `(tactic| walk_at "setItem ref int") => `(tactic| (k_here; k_dflt (refine' set_at (by k_asm) (by k_asm) (by k_upd) (by assumption) (by assumption) ?_; intro h' F' N'; k_whole)))
set_option maxHeartbeats 4000000 in
theorem siftup_c (w : World) (H n : Nat) (xs : List It) (ni : It) (t1 : Tok) (hp : xs[0]? = some ni) (hz : xs.length ≤ 1000) (hdi : Dist xs) :
    MutC w 133 [.ref H, .int 0 t1] 870 3700 [(H, W.listOf (itV xs).toArray n)] (fun h => ∀ x ∈ xs, TupAt h x)
      (fun _ r _ hid => TurnR H (siftF ni xs) r hid) := by
  unfold MutC PG LW VW
  k_fill
  intro outer s h₀ mg mb Q E X T hsub hh hat hpre hret
  have hz' : (itV xs).length ≤ 2097152 := by rw [itV_len]; omega
  have hp' := itV_get hp
  refine wpAny_call ?_
  k_dflt k_enter
  rename ∀ b o, _ → s.heap.get? b = some o → _ => kg
  have htup : ∀ x ∈ xs, TupAt _ x := fun x hx => tup_keep (hpre x hx) fun o e => kg _ o (by
    rw [List.map_cons, List.map_nil, List.mem_singleton]
    exact tup_ne (hpre x hx) (hat _ (.head _))) e
  have hlv := itV_len xs
  k_steps
  with_reducible show Hold _
  rename Fr _ _ _ _ => F
  rename News _ _ _ _ => N
  have hl0 : 0 < xs.length := (List.getElem?_eq_some_iff.mp hp).1
  dsimp only at F
  refine while_3 (Str.ofString "pos") (Str.ofString "childpos") (Str.ofString "rightpos")
    (fun k a b _ nx => SuInv xs H k a b nx) F N xs.length ⟨_, _, 0, xs, n, rfl, rfl, rfl, rfl, hl0, rfl, fun _ _ => rfl, rfl⟩ ?_
  clear F N
  rintro k a b c nx h tk ⟨t, t', p, xs', n', rfl, rfl, rfl, hkp, hpl, hlen, hpar, hres⟩ F N
  have hz2 : (itV xs').length ≤ 2097152 := by rw [itV_len]; omega
  have hkl : p < (itV xs').length := by rw [itV_len, hlen]; exact hpl
  obtain ⟨u1, u2, v1, k1, hni⟩ := htup ni (List.mem_of_getElem? hp)
  by_cases hc : 2 * p + 1 < xs.length
  · refine with_some (List.getElem?_eq_getElem hc) fun q hq => ?_
    have hq' : xs'[2 * p + 1]? = some q := (hpar _ (dbl1 p)).trans hq
    have hq2 := itV_get hq'
    obtain ⟨u3, u4, v2, k2, hqi⟩ := htup q (List.mem_of_getElem? hq)
    by_cases hr : 2 * p + 2 < xs.length
    · refine with_some (List.getElem?_eq_getElem hr) fun r hr' => ?_
      have hr1 : xs'[2 * p + 2]? = some r := (hpar _ (dbl2 p)).trans hr'
      have hr2 : (itV xs')[2 * p + 1 + 1]? = some (.ref r.1) := itV_get hr1
      obtain ⟨u5, u6, v3, k3, hri⟩ := htup r (List.mem_of_getElem? hr')
      have hne : q.2.1 ≠ r.2.1 ∨ q.2.2 ≠ r.2.2 := .inr (hdi.at _ _ _ _ hq hr' (Nat.ne_of_lt (Nat.lt_succ_self _)))
      have hsL : ltI q r = true → suC xs' p = 2 * p + 1 := fun e => by unfold suC; rw [hq', hr1]; exact if_pos e
      have hsR : ltI q r = false → suC xs' p = 2 * p + 2 := fun e => by unfold suC; rw [hq', hr1]; exact if_neg (by rw [e]; decide)
      k_steps
      · rename pltB _ _ _ _ = true => hlt
        refine ⟨xs.length - (2 * p + 1), fuel1 hkp hpl, _, _, _, _, rfl, by assumption, ?_, by assumption, ⟨_, _, 2 * p + 1, xs'.set p q, n', rfl, rfl, by rw [itV_set], Nat.sub_add_cancel (Nat.le_of_lt hc), hc, by rw [List.length_set]; exact hlen, ?_, ?_⟩⟩
        · intro y h1 h2 h3
          simp only [if_neg h1, if_neg h2, if_neg h3]
        · intro j hj
          rw [List.getElem?_set_ne (Nat.ne_of_lt (Nat.lt_trans (dbl1 p) hj))]
          exact hpar j (Nat.lt_trans (dbl1 p) hj)
        · rw [← hres, ← hlen]; exact suF_step (hkp.trans hlen.symm) (hlen ▸ hpl) (hsL hlt) hq'
      · rename pltB _ _ _ _ = false => hlt
        refine ⟨xs.length - (2 * p + 2), fuel2 hkp hpl, _, _, _, _, rfl, by assumption, ?_, by assumption, ⟨_, _, 2 * p + 2, xs'.set p r, n', rfl, rfl, by rw [itV_set], Nat.sub_add_cancel (Nat.le_of_lt hr), hr, by rw [List.length_set]; exact hlen, ?_, ?_⟩⟩
        · intro y h1 h2 h3
          simp only [if_neg h1, if_neg h2, if_neg h3]
        · intro j hj
          rw [List.getElem?_set_ne (Nat.ne_of_lt (Nat.lt_trans (dbl2 p) hj))]
          exact hpar j (Nat.lt_trans (dbl2 p) hj)
        · rw [← hres, ← hlen]; exact suF_step (hkp.trans hlen.symm) (hlen ▸ hpl) (hsR hlt) hr1
    · have hs1 : suC xs' p = 2 * p + 1 := by unfold suC; rw [hq', List.getElem?_eq_none (hlen ▸ Nat.not_lt.mp hr)]
      k_steps
      refine ⟨xs.length - (2 * p + 1), fuel1 hkp hpl, _, _, _, _, rfl, by assumption, ?_, by assumption, ⟨_, _, 2 * p + 1, xs'.set p q, n', rfl, rfl, by rw [itV_set], Nat.sub_add_cancel (Nat.le_of_lt hc), hc, by rw [List.length_set]; exact hlen, ?_, ?_⟩⟩
      · intro y h1 h2 h3
        simp only [if_neg h1, if_neg h2, if_neg h3]
      · intro j hj
        rw [List.getElem?_set_ne (Nat.ne_of_lt (Nat.lt_trans (dbl1 p) hj))]
        exact hpar j (Nat.lt_trans (dbl1 p) hj)
      · rw [← hres, ← hlen]; exact suF_step (hkp.trans hlen.symm) (hlen ▸ hpl) hs1 hq'
  · have hend : suF xs.length xs 0 = (xs', p) := by rw [← hres, suF_none (hlen ▸ Nat.not_lt.mp hc)]
    have hperm := suF_perm (ni := ni) xs.length xs 0 hl0
    rw [hend, set_self hp] at hperm
    clear hni
    k_steps
    with_reducible show Hold _
    rename Fr _ _ _ _ => F
    rename News _ _ _ _ => N
    refine use_mut (rest := []) (siftdown_c w H n' (xs'.set p ni) p ni _ _ (by rw [List.getElem?_set_self (hlen ▸ hpl)]) (by rw [List.length_set, hlen]; exact hz) (hdi.perm hperm.symm)) F (by rw [itV_set, List.append_nil]; exact N) (by assumption) (by assumption) rfl (fun x hx => tup_keep (htup x (hperm.mem_iff.mp hx)) fun o e => F.keep _ o e) ?_
    rintro r h' tk' hid' ⟨rfl, n2, rfl⟩ hat' hbut F'
    k_steps
    dsimp only
    refine hret _ _ _ _ ⟨rfl, n2, ?_⟩ hat' (kbut (by assumption) (by assumption))
    unfold siftF
    rw [hend]
end

theorem sub_nat1 {hp0 : Heap} {gs : Array GenState} {dr : Drawn} {tk0 : Nat} {os : OsState} {prog : Program} {w : World} {A : Around} {E : Value → Shared → Prop} {k : Nat} {t u : Tok} {Q : Value → Shared → Prop} (h : Q (.int (k : Int) tk0) ⟨hp0, gs, dr, tk0 + 1, os⟩) : wpAny (model prog w) A (binaryOp .Sub (.int ((k + 1 : Nat) : Int) t) (.int 1 u)) Q E ⟨hp0, gs, dr, tk0, os⟩ := sub_int (by
  have e : ((k + 1 : Nat) : Int) - 1 = (k : Int) := by omega
  rw [e]; exact h)
theorem truthy_consN {prog : Program} {w : World} {A : Around} {E : Value → Shared → Prop} {s : Shared} {h₀ : Heap} {L d : Addr} {news : List (Addr × Obj)} {n k : Nat} {vs : List Value} {Q : Bool → Shared → Prop} (N : News h₀ L s.heap news) (hm : (d, W.listOf vs.toArray n) ∈ news) (hk : vs.length = k) (hp : 0 < k) (hz : vs.length ≤ 2097152) (h : ∀ tk, Q true { s with toks := tk }) : wpAny (model prog w) A (truthy (.ref d)) Q E s := by
  refine wpAny_truthy_list (news_list N hm) (by simp; omega) ?_
  have e : (!vs.toArray.isEmpty) = true := by
    cases vs with
    | nil => simp at hk; omega
    | cons => simp
  rw [e]; exact h _
section
local macro_rules | `(tactic| k_enter) => `(tactic| (refine' enterH (by k_asm) (by k_asm) (by assumption) (by assumption) (by assumption) (by k_is) (by k_is) (by k_room) (by exact BindsTo.of_eq rfl) (by exact locs rfl) ?_ (by exact rfl) (by exact rfl) (by exact rfl) (by decide); k_whole; intro g L' h' tk' kg' F' N' X' T' l1'; (try dsimp only)))
local macro_rules | `(tactic| walk_at "call ref") => `(tactic| (k_here; refine Hold.out ?_))
local macro_rules | `(tactic| walk_at "binaryOp Sub int int") => `(tactic| (k_here; refine sub_nat1 ?_))
local macro_rules | `(tactic| walk_at "truthy ref") => `(tactic| (k_here; (with_reducible show wpAny _ _ (truthy (Value.ref _)) _ _ _); k_dflt (refine' truthy_consN (by k_asm) (by k_mem) (by assumption) (by exact Nat.succ_pos _) (by assumption) ?_; intro tk'; k_whole)))
local macro_rules | `(tactic| walk_at "subscriptTail") => `(tactic| (k_here; (with_reducible show wpAny _ _ (subscriptTail _ _ (Value.ref _) (Value.int _ _)) _ _ _); k_dflt (refine' item_at (k := 0) (by k_asm) (by k_mem) (by assumption) (by assumption) ?_; k_whole)))
local macro_rules | `(tactic| walk_at "setItem ref int") => `(tactic| (k_here; k_dflt (refine' set_at (k := 0) (by k_asm) (by k_asm) (by k_upd) (by assumption) (by assumption) ?_; intro h' F' N'; k_whole)))
set_option maxHeartbeats 4000000 in
theorem heappush_c (w : World) (H n : Nat) (xs : List It) (x : It) (hz : xs.length + 1 ≤ 1000) (hdi : Dist (xs ++ [x])) :
    MutC w 112 [.ref H, .ref x.1] 860 3600 [(H, W.listOf (itV xs).toArray n)] (fun h => ∀ y ∈ xs ++ [x], TupAt h y)
      (fun _ r _ hid => TurnR H (sdF x xs.length (xs ++ [x]) xs.length) r hid) := by
  unfold MutC PG LW VW
  k_fill
  intro outer s h₀ mg mb Q E X T hsub hh hat hpre hret
  have hz' : (itV xs).length ≤ 2097152 := by rw [itV_len]; omega
  have e1 : itV (xs ++ [x]) = itV xs ++ [.ref x.1] := by unfold itV; rw [List.map_append]; rfl
  have hl2 : (itV xs ++ [Value.ref x.1]).length = xs.length + 1 := by rw [List.length_append, itV_len]; rfl
  have hz2 : (itV xs ++ [Value.ref x.1]).length ≤ 2097152 := by rw [hl2]; omega
  refine wpAny_call ?_
  k_dflt k_enter
  rename ∀ b o, _ → s.heap.get? b = some o → _ => kg
  have htup : ∀ y ∈ xs ++ [x], TupAt _ y := fun y hy => tup_keep (hpre y hy) fun o e => kg _ o (by
    rw [List.map_cons, List.map_nil, List.mem_singleton]
    exact tup_ne (hpre y hy) (hat _ (.head _))) e
  k_steps
  with_reducible show Hold _
  rename Fr _ _ _ _ => F
  rename News _ _ _ _ => N
  refine use_mut (rest := []) (siftdown_c w H _ (xs ++ [x]) xs.length x _ _ (by simp) (by rw [List.length_append]; exact hz) hdi) F (by rw [e1, List.append_nil]; exact N) (by assumption) (by assumption) rfl (fun y hy => tup_keep (htup y hy) fun o e => F.keep _ o e) ?_
  rintro r h' tk' hid' ⟨rfl, n2, rfl⟩ hat' hbut F'
  k_steps
  dsimp only
  exact hret _ _ _ _ ⟨rfl, n2, rfl⟩ hat' (kbut (by assumption) (by assumption))
inductive HpopR (H : Addr) (ys : List It) (r : Value) (hid : List (Addr × Obj)) : Prop
  | mk (a : Addr) (n' : Nat) : r = .ref a → hid = [(H, W.listOf (itV ys).toArray n')] → HpopR H ys r hid
set_option maxHeartbeats 4000000 in
theorem heappop_c (w : World) (H n : Nat) (x0 : It) (mid : List It) (x : It) (hz : mid.length + 2 ≤ 1000) (hdi : Dist (x0 :: mid ++ [x])) :
    MutC w 119 [.ref H] 860 3600 [(H, W.listOf (itV (x0 :: mid ++ [x])).toArray n)] (fun h => ∀ y ∈ x0 :: mid ++ [x], TupAt h y)
      (fun _ r _ hid => HpopR H (siftF x (x :: mid)) r hid) := by
  have e1 : itV (x0 :: mid ++ [x]) = itV (x0 :: mid) ++ [.ref x.1] := by unfold itV; rw [List.map_append]; rfl
  rw [e1]
  unfold MutC PG LW VW
  k_fill
  intro outer s h₀ mg mb Q E X T hsub hh hat hpre hret
  have hz' : (itV (x0 :: mid)).length ≤ 2097152 := by rw [itV_len, List.length_cons]; omega
  have hlv : (itV (x0 :: mid)).length = mid.length + 1 := itV_len _
  have hk0 : 0 < (itV (x0 :: mid)).length := by rw [hlv]; exact Nat.succ_pos _
  have h0 : (itV (x0 :: mid))[0]? = some (.ref x0.1) := rfl
  refine wpAny_call ?_
  k_dflt k_enter
  rename ∀ b o, _ → s.heap.get? b = some o → _ => kg
  have htup : ∀ y ∈ x0 :: mid ++ [x], TupAt _ y := fun y hy => tup_keep (hpre y hy) fun o e => kg _ o (by
    rw [List.map_cons, List.map_nil, List.mem_singleton]
    exact tup_ne (hpre y hy) (hat _ (.head _))) e
  k_steps
  with_reducible show Hold _
  rename Fr _ _ _ _ => F
  rename News _ _ _ _ => N
  have hpm : (x :: mid).Perm (mid ++ [x]) := (List.perm_append_singleton x mid).symm
  have hdi' : Dist (x :: mid) := by
    have : Dist (mid ++ [x]) := (List.nodup_cons.mp hdi).2
    exact this.perm hpm.symm
  refine use_mut (rest := []) (siftup_c w H _ (x :: mid) x _ rfl (by rw [List.length_cons]; omega) hdi') F (by rw [List.append_nil]; exact N) (by assumption) (by assumption) rfl (fun y hy => tup_keep (htup y (List.mem_cons_of_mem _ (hpm.mem_iff.mp hy))) fun o e => F.keep _ o e) ?_
  rintro r h' tk' hid' ⟨rfl, n2, rfl⟩ hat' hbut F'
  k_steps
  dsimp only
  exact hret _ _ _ _ ⟨_, n2, rfl, rfl⟩ hat' (kbut (by assumption) (by assumption))
end

theorem new_of {g h h' : Heap} {L D : Addr} {o : Obj} {news hid : List (Addr × Obj)} (N : News g L h' news) (hm : (D, o) ∈ news) (kg : ∀ b o, b ∉ hid.map (·.1) → h.get? b = some o → g.get? b = some o) (hne : D ∉ hid.map (·.1)) : h.get? D = none := by
  cases e : h.get? D with
  | none => rfl
  | some o' => have := kg _ _ hne e; rw [(N _ hm).2.2] at this; cases this
noncomputable abbrev accO (ld : Addr) (vs : List Value) (n : Nat) : Obj := ⟨.ref 101, some ld, .seq vs.toArray n, #[]⟩
noncomputable abbrev tup2 (v1 v2 : Value) : Obj := { cls := .type "tuple", data := .seq #[v1, v2] }
noncomputable abbrev accD (hs : Int) (kt zt : Tok) (z : Int) : Obj := dictOf [⟨hs, .str (Str.ofString "_initial_size") kt, .int z zt⟩] 1
theorem acc_inst {h₀ h : Heap} {L S ld : Addr} {news : List (Addr × Obj)} {m : Str → Option Value} {vs : List Value} {n : Nat} {od : Obj} (F : Fr h₀ L h m) (N : News h₀ L h news) (hm : (S, accO ld vs n) ∈ news) (hd : h₀.get? ld = some od) : InstAt h S (accO ld vs n) 101 (some od) :=
  ⟨(N _ hm).1, rfl, rfl, F.keep _ _ hd⟩
section
variable {prog : Program} {w : World} {A : Around} {E : Value → Shared → Prop} {s : Shared} {K : Frag} {x C L : Addr} {h₀ : Heap} {m : Str → Option Value} {news news' : List (Addr × Obj)} {ox : Obj} {es : List DictEntry} {n : Nat} {name : Str} {S ld : Addr} {vs : List Value} {v : Value}
/-- a method of a list, asked of an object whose class lies under list -/
theorem method_bi {pl : Sem Bool} {Q : Value × List Value → Shared → Prop} {g id : String} (F : Fr h₀ L s.heap m) (X₀ : K.In h₀) (I : InstAt s.heap x ox C (some (dictOf es n))) (hga : findIn K (.ref C) "__getattribute__" = some (some (.builtin g)))
    (hk : findIn K (.ref C) "__getattr__" = some none) (hf : findIn K (.ref C) name = some (some (.builtin id))) (hl : getL name es = some none) (ht : typeOf (.builtin id) = pure (.type "method_descriptor")) (hcan : (Manifest.canonical g != "object.__getattribute__") = false)
    (h : Q (.builtin id, [.ref x]) s) : wpAny (model prog w) A (getMethod (.ref x) name pl) Q E s := by
  have X := X₀.keeps F.keep
  unfold getMethod specialOf
  refine wpAny_bind (wpAny_bind (I.type.here ((looks_findIn X hga).here ?_)))
  dsimp only
  rw [hcan, if_neg (by decide)]
  refine wpAny_bind (wpAny_bind (I.type.here ((looks_findIn X hk).here ?_)))
  refine wpAny_bind (wpAny_bind (I.type.here ((looks_findIn X hf).here (wpAny_bind (wpAny_of_eq ht ?_)))))
  rw [if_neg (by decide +kernel)]
  refine wpAny_bind (wpAny_loadPart I.at_ ?_)
  have hd := I.dict
  cases e : ox.dict with
  | none => rw [e] at hd; exact hd.elim
  | some dx =>
    rw [e] at hd
    refine wpAny_bind (wpAny_bind (wpAny_loadPart hd ?_))
    have hl' : lookIn name (dictOf es n) = some none := by rw [lookIn_dict]; exact hl
    rw [nsLook_of hl']
    exact wpAny_pure (wpAny_bind (wpAny_rule (wpAny_pure h)))
theorem method_df {pl : Sem Bool} {Q : Value × List Value → Shared → Prop} {g : String} {f : Addr} (F : Fr h₀ L s.heap m) (X₀ : K.In h₀) (I : InstAt s.heap x ox C (some (dictOf es n))) (hga : findIn K (.ref C) "__getattribute__" = some (some (.builtin g)))
    (hk : findIn K (.ref C) "__getattr__" = some none) (hf : findIn K (.ref C) name = some (some (.ref f))) (hl : getL name es = some none) (ht : isFn K (.ref f) = true) (hcan : (Manifest.canonical g != "object.__getattribute__") = false)
    (h : Q (.ref f, [.ref x]) s) : wpAny (model prog w) A (getMethod (.ref x) name pl) Q E s := by
  have X := X₀.keeps F.keep
  unfold getMethod specialOf
  refine wpAny_bind (wpAny_bind (I.type.here ((looks_findIn X hga).here ?_)))
  dsimp only
  rw [hcan, if_neg (by decide)]
  refine wpAny_bind (wpAny_bind (I.type.here ((looks_findIn X hk).here ?_)))
  refine wpAny_bind (wpAny_bind (I.type.here ((looks_findIn X hf).here (wpAny_bind ((looks_typeIn X (beq_iff_eq.mp ht)).here ?_)))))
  rw [if_neg (by decide +kernel)]
  refine wpAny_bind (wpAny_loadPart I.at_ ?_)
  have hd := I.dict
  cases e : ox.dict with
  | none => rw [e] at hd; exact hd.elim
  | some dx =>
    rw [e] at hd
    refine wpAny_bind (wpAny_bind (wpAny_loadPart hd ?_))
    have hl' : lookIn name (dictOf es n) = some none := by rw [lookIn_dict]; exact hl
    rw [nsLook_of hl']
    exact wpAny_pure (wpAny_bind (wpAny_rule (wpAny_pure h)))
/-- a builtin of list, called on such an object -/
theorem acc_call {id nm : String} {B : Builtin} {rest : List Value} {Q : Value → Shared → Prop} (X : K.In s.heap) (hx : s.heap.get? x = some ox) (hc : ox.cls = .ref C) (hm : mroIn K C (.type "list") = some true)
    (hk : builtinKind id = some .slot ∨ builtinKind id = some .method) (hsp : splitId id = some ("list", nm)) (hpl : plainId id = true) (entry : entryFor table id = some B) (ha : argsOk id ⟨.ref x :: rest, []⟩)
    (h : wpAny (model prog w) A.in1 (B ⟨.ref x :: rest, []⟩) (fun fin s' => match fin with | .done f => wants Q E (.ok f) s' | .again c' => c'.quiet = true ∧ codeAny (model prog w) A c' (wants Q E) s') (fun e s' => wants Q E (.error e) s') s) :
    wpAny (model prog w) A (call (.builtin id) (.ref x :: rest)) Q E s := by
  refine wpAny_call (codeAny_call_builtin hpl entry ?_)
  have ht : Looks (model prog w) s.heap (typeOf (.ref x)) (.ref C) := hc ▸ (Looks.ld hx).andThen .now
  rcases hk with hk | hk <;>
  · simp only [checkBuiltinCall, hk, hsp]
    unfold isInstance
    refine wpAny_bind (wpAny_bind (ht.here ((looks_mroIn X hm).here ?_)))
    simp only [Bool.not_true, Bool.false_eq_true, if_false]
    cases hsig : Manifest.signature? id with
    | none => exact wpAny_pure h
    | some sig =>
      simp only [argsOk, hsig] at ha
      have h2 : Bind.checkArgs id sig ⟨.ref x :: rest, []⟩ = pure () := ha
      show wpAny _ _ (Bind.checkArgs id sig ⟨.ref x :: rest, []⟩) _ _ _
      rw [h2]; exact wpAny_pure h
theorem acc_put {pre post : List (Addr × Obj)} {vs' : List Value} {n' : Nat} (f : Array Value → Array Value) (F : Fr h₀ L s.heap m) (N : News h₀ L s.heap (pre ++ (S, accO ld vs n) :: post)) (a : ∀ p ∈ pre, p.1 ≠ S) (b : ∀ p ∈ post, p.1 ≠ S) (hf : f vs.toArray = vs'.toArray) (hn : (if (vs'.toArray).size == (vs.toArray).size then n else n + 1) = n') :
    Fr h₀ L (s.heap.update S (Obj.mapSeq f)) m ∧ News h₀ L (s.heap.update S (Obj.mapSeq f)) (pre ++ (S, accO ld vs' n') :: post) := by
  have z := N (S, accO ld vs n) (List.mem_append.mpr (.inr (.head _)))
  refine ⟨F.change (Heap.SameBut.update ..) z.2.1 z.2.2, news_set N a b (Heap.SameBut.update ..) ?_⟩
  rw [Heap.get?_update_self _ z.1 rfl]
  simp only [Obj.mapSeq, hf, hn]
theorem acc_append {Q : Value → Shared → Prop} (F : Fr h₀ L s.heap m) (X₀ : K.In h₀) (N : News h₀ L s.heap news) (hm : mroIn K 101 (.type "list") = some true) (U : Upd S (accO ld vs n) (accO ld (vs ++ [v]) (n + 1)) news news') (hz : vs.length ≤ 1000)
    (h : ∀ h', Fr h₀ L h' m → News h₀ L h' news' → Q .none { s with heap := h' }) : wpAny (model prog w) A (call (.builtin "list.append") [.ref S, v]) Q E s := by
  obtain ⟨pre, post, rfl, rfl, a, b⟩ := U.split
  have z := N (S, accO ld vs n) (List.mem_append.mpr (.inr (.head _)))
  refine acc_call (X₀.keeps F.keep) z.1 rfl hm (nm := "append") (by first | exact .inl (by decide +kernel) | exact .inr (by decide +kernel)) (by decide +kernel) (by decide +kernel) PySem.F.entry_list_append (by unfold argsOk; kernel_rfl) ?_
  unfold Builtin.«list.append» selfAndOne noKeywords Builtin.List.listUpdate
  repeat (first | (refine wpAny_updateSeq z.1 rfl ?_ (by simp; rw [sizeLine_eq]; omega) (by simp; rw [sizeLine_eq]; omega)) | wp_step)
  obtain ⟨F', N'⟩ := acc_put (fun x => x.push v) F N a b (vs' := vs ++ [v]) (n' := n + 1) (by simp) (by simp)
  exact h _ F' N'
end
section
local macro_rules | `(tactic| k_enter) => `(tactic| (refine' enterH (by k_asm) (by k_asm) (by assumption) (by assumption) (by assumption) (by k_is) (by k_is) (by k_room) (by exact BindsTo.of_eq rfl) (by exact locs rfl) ?_ (by exact rfl) (by exact rfl) (by exact rfl) (by decide); k_whole; intro g L' h' tk' kg' F' N' X' T' l1'; (try dsimp only)))
local macro_rules | `(tactic| k_inst) => `(tactic| (refine' acc_inst (by k_asm) (by k_asm) (by k_mem) (by assumption)))
local macro_rules | `(tactic| walk_at "call builtin:list.append") => `(tactic| (k_here; k_dflt (refine' acc_append (by k_asm) (by k_asm) (by k_asm) (by k_is) (by k_upd) (by assumption) ?_; intro h' F' N'; k_whole)))
local macro_rules | `(tactic| walk_at "getMethod ref") => `(tactic| (k_here; k_dflt (refine' method_bi (by k_asm) (by k_asm) (by k_inst) (by k_is) (by k_is) (by k_is) (by k_get) PySem.F.type_list_append (by decide +kernel) ?_; k_whole)))
inductive PushR (S ld : Nat) (vs : List Value) (a b : Str) (t1 t2 : Tok) (h : Heap) (r : Value) (h' : Heap) (hid : List (Addr × Obj)) : Prop
  | mk (e : r = .none) (D : Addr) (n' : Nat) : hid = [(S, accO ld (vs ++ [.ref D]) n')] → h'.get? D = some (tup2 (.str a t1) (.str b t2)) → h.get? D = none → PushR S ld vs a b t1 t2 h r h' hid
set_option maxHeartbeats 4000000 in
theorem push_c (w : World) (S ld n : Nat) (vs : List Value) (a b : Str) (t1 t2 : Tok) (hs : Int) (kt zt : Tok) (z : Int) (hz : vs.length ≤ 1000) :
    MutC w 45 [.ref S, .str a t1, .str b t2] 880 3800 [(S, accO ld vs n)] (fun h => h.get? ld = some (accD hs kt zt z) ∧ ld ≠ S)
      (PushR S ld vs a b t1 t2) := by
  unfold MutC PG LW VW
  k_fill
  intro outer s h₀ mg mb Q E X T hsub hh hat hpre hret
  refine wpAny_call ?_
  k_dflt k_enter
  rename ∀ b o, _ → s.heap.get? b = some o → _ => kg
  have hld := kg _ _ (by rw [List.map_cons, List.map_nil, List.mem_singleton]; exact hpre.2) hpre.1
  k_steps
  rename News _ _ _ _ => N
  have hD := (N _ (.head _)).1
  have hS := (N _ (.tail _ (.head _))).1
  refine hret _ _ _ _ ⟨rfl, _, _, rfl, hD, new_of (hid := [(S, accO ld vs n)]) N (.head _) kg fun q => ?_⟩ (hid_at (fun p hp => N p (.tail _ hp))) (kbut (by assumption) (by assumption))
  have q' := List.mem_singleton.mp q
  dsimp only at q' hD hS
  rw [q', hS] at hD
  cases hD
end

noncomputable abbrev supO (S : Addr) : Obj := { cls := .type "super", dict := none, data := .fields #[.ref 101, .ref S, .ref 101], slots := #[] }
section
variable {prog : Program} {w : World} {A : Around} {E : Value → Shared → Prop} {s : Shared} {K : Frag} {x C L : Addr} {h₀ : Heap} {ox : Obj} {S S' : Addr} {l₀ l : List Value} {Q : Value → Shared → Prop}
theorem entry_wget : entryFor table "wrapper_descriptor.__get__" = some Builtin.«wrapper_descriptor.__get__» := entryFor_of_tree (by kernel_rfl)
theorem entry_mget : entryFor table "method_descriptor.__get__" = some Builtin.«method_descriptor.__get__» := entryFor_of_tree (by kernel_rfl)
theorem slot_wget : Slot "wrapper_descriptor" "__get__" "wrapper_descriptor.__get__" := .of (owner := "wrapper_descriptor") (n := "__get__") (by rw [typeLookup_type, builtinLookup_eq_fast]; kernel_rfl) (by decide +kernel) (by decide +kernel) (by decide +kernel) (by first | exact .inl (by decide +kernel) | exact .inr (by decide +kernel)) (by rw [isSubtype_type]; kernel_rfl)
theorem slot_mget : Slot "method_descriptor" "__get__" "method_descriptor.__get__" := .of (owner := "method_descriptor") (n := "__get__") (by rw [typeLookup_type, builtinLookup_eq_fast]; kernel_rfl) (by decide +kernel) (by decide +kernel) (by decide +kernel) (by first | exact .inl (by decide +kernel) | exact .inr (by decide +kernel)) (by rw [isSubtype_type]; kernel_rfl)
theorem args_wget (a b c : Value) : argsOk "wrapper_descriptor.__get__" ⟨[a, b, c], []⟩ := by unfold argsOk; kernel_rfl
theorem args_mget (a b c : Value) : argsOk "method_descriptor.__get__" ⟨[a, b, c], []⟩ := by unfold argsOk; kernel_rfl
theorem wget_acc {id : String} (he : ".".intercalate (id.cutAt '.').dropLast = "list") (hty : s.TypeIs (.builtin id) "wrapper_descriptor") (ht : Looks (model prog w) s.heap (typeOf (.ref S)) (.ref 101)) (hsub : Looks (model prog w) s.heap (isSubtype (.ref 101) (.type "list")) true)
    (h : Q (.ref s.heap.objs.size) { s with heap := s.heap.push { cls := .type "method-wrapper", data := .fields #[.builtin id, .ref S] } }) :
    wpAny (model prog w) A (call (.builtin "wrapper_descriptor.__get__") [.builtin id, .ref S, .ref 101]) Q E s := by
  refine wpAny_call_entry slot_wget hty entry_wget ?_ (args_wget _ _ _)
  obtain ⟨hp, g, d, tk, os⟩ := s
  unfold Builtin.«wrapper_descriptor.__get__»
  repeat (first | (with_reducible refine Looks.at ht ?_) | (rw [he]; with_reducible refine Looks.at hsub ?_) | (with_reducible refine wpAny_newObj_type ?_ (by size_fits)) | (with_reducible refine ⟨_, rfl, ?_⟩) | wp_step | dsimp only)
  exact h
theorem mget_acc {id : String} (he : ".".intercalate (id.cutAt '.').dropLast = "list") (hno : Manifest.toldItsClass.contains id = false) (hty : s.TypeIs (.builtin id) "method_descriptor") (ht : Looks (model prog w) s.heap (typeOf (.ref S)) (.ref 101)) (hsub : Looks (model prog w) s.heap (isSubtype (.ref 101) (.type "list")) true)
    (h : Q (.ref s.heap.objs.size) { s with heap := s.heap.push { cls := .type "builtin_function_or_method", data := .fields #[.builtin id, .ref S] } }) :
    wpAny (model prog w) A (call (.builtin "method_descriptor.__get__") [.builtin id, .ref S, .ref 101]) Q E s := by
  refine wpAny_call_entry slot_mget hty entry_mget ?_ (args_mget _ _ _)
  obtain ⟨hp, g, d, tk, os⟩ := s
  unfold Builtin.«method_descriptor.__get__»
  repeat (first | (with_reducible refine Looks.at ht ?_) | (rw [he]; with_reducible refine Looks.at hsub ?_) | (with_reducible refine wpAny_newObj_type ?_ (by size_fits)) | (with_reducible refine ⟨_, rfl, ?_⟩) | (simp only [hno, Bool.false_eq_true, if_false]) | wp_step | dsimp only)
  exact h
theorem sup_ga {id T gid bt : String} {name : Str} {tk : Tok} {Q : Fin → Shared → Prop} (hso : s.heap.get? S' = some (supO S)) (hno : Looks (model prog w) s.heap (opaqueClassAbove (.ref 101)) none)
    (hC : Looks (model prog w) s.heap (mroOf (.ref 101)) l₀) (hl : (l₀.dropWhile (· != .ref 101)).drop 1 = l) (X : K.In s.heap) (hf : alongIn K name l = some (some (.builtin id))) (hty : typeOf (.builtin id) = pure (.type T))
    (hlk : typeLookup (.type T) "__get__" = pure (some (.builtin gid))) (hS : S ≠ 101) (hn : (name == ("__class__" : Str)) = false)
    (hget : ∀ (A : Around) (Q : Value → Shared → Prop) (E : Value → Shared → Prop), Q (.ref s.heap.objs.size) { s with heap := s.heap.push { cls := .type bt, data := .fields #[.builtin id, .ref S] } } → wpAny (model prog w) A (call (.builtin gid) [.builtin id, .ref S, .ref 101]) Q E s)
    (hq : Q (.done (.ret (.ref s.heap.objs.size))) { s with heap := s.heap.push { cls := .type bt, data := .fields #[.builtin id, .ref S] } }) :
    wpAny (model prog w) A (Builtin.«super.__getattribute__» ⟨[.ref S', .str name tk], []⟩) Q E s := by
  have hne : (Value.ref S == Value.ref 101) = false := by simp [hS]
  obtain ⟨h, g, d, t, os⟩ := s
  have hdt : (supO S).data = .fields #[.ref 101, .ref S, .ref 101] := rfl
  have f0 : (#[.ref 101, .ref S, .ref 101] : Array Value)[0]? = some (.ref 101) := rfl
  have f1 : (#[.ref 101, .ref S, .ref 101] : Array Value)[1]? = some (.ref S) := rfl
  have f2 : (#[.ref 101, .ref S, .ref 101] : Array Value)[2]? = some (.ref 101) := rfl
  unfold Builtin.«super.__getattribute__»
  repeat (first
    | (with_reducible refine wpAny_field hso hdt f0 ?_) | (with_reducible refine wpAny_field hso hdt f1 ?_) | (with_reducible refine wpAny_field hso hdt f2 ?_)
    | (with_reducible refine ks_wpAny_notOpaque hno ?_)
    | (with_reducible refine Looks.at hC ?_; rw [hl])
    | (refine ks_forIn_along X (fun _ _ => rfl) rfl ?_ hf)
    | (with_reducible refine wpAny_of_eq hty ?_)
    | (with_reducible refine wpAny_of_eq hlk ?_)
    | (with_reducible refine hget _ _ _ ?_)
    | (simp only [hn, hne, Bool.or_false, Bool.false_eq_true, if_false])
    | wp_step
    | dsimp only)
  all_goals exact hq
theorem sup_method {id T gid bt : String} {name : Str} {pl : Sem Bool} {Q : Value × List Value → Shared → Prop} (hso : s.heap.get? S' = some (supO S)) (hno : Looks (model prog w) s.heap (opaqueClassAbove (.ref 101)) none)
    (hC : Looks (model prog w) s.heap (mroOf (.ref 101)) l₀) (hl : (l₀.dropWhile (· != .ref 101)).drop 1 = l) (X : K.In s.heap) (hf : alongIn K name l = some (some (.builtin id))) (hty : typeOf (.builtin id) = pure (.type T))
    (hlk : typeLookup (.type T) "__get__" = pure (some (.builtin gid))) (hS : S ≠ 101) (hn : (name == ("__class__" : Str)) = false)
    (hget : ∀ (A : Around) (Q : Value → Shared → Prop) (E : Value → Shared → Prop), Q (.ref s.heap.objs.size) { s with heap := s.heap.push { cls := .type bt, data := .fields #[.builtin id, .ref S] }, toks := s.toks + 1 } → wpAny (model prog w) A (call (.builtin gid) [.builtin id, .ref S, .ref 101]) Q E { s with toks := s.toks + 1 })
    (hq : Q (.ref s.heap.objs.size, []) { s with heap := s.heap.push { cls := .type bt, data := .fields #[.builtin id, .ref S] }, toks := s.toks + 1 }) :
    wpAny (model prog w) A (getMethod (.ref S') name pl) Q E s := by
  have hlk2 := F.ks_slot_super_ga.lookup
  have hcan := F.ks_canon_super_ga
  have hT : ∀ t', ({ s with toks := t' } : Shared).TypeIs (.ref S') "super" := fun _ => ⟨_, hso, rfl⟩
  obtain ⟨h, g, d, t, os⟩ := s
  unfold getMethod
  refine wpAny_bind (wpAny_specialOf (hT t) hlk2 ?_)
  show wpAny _ _ (if (Manifest.canonical "super.__getattribute__" != "object.__getattribute__") = true then _ else _) _ _ _
  rw [if_pos hcan]
  unfold getAttr getAttrBy
  refine wpAny_bind (wpAny_bind (wpAny_mkText (wpAny_holding (wpAny_bind (wpAny_typeOf (hT _) (wpAny_bind (wpAny_of_eq hlk2 ?_)))))))
  show wpAny _ _ (getAttrByItsOwn (.ref S') (.str name t) (.type "super") (.builtin "super.__getattribute__") true false) _ _ _
  unfold getAttrByItsOwn hookBefore callGetattribute boundAndCalled
  refine wpAny_bind (wpAny_of_eq (show (if onTheHeap (.type "super") then typeLookup (.type "super") "__getattr__" else pure none) = pure none from rfl) ?_)
  refine wpAny_bind (wpAny_attempt (wpAny_holding ?_))
  show wpAny _ _ (bindSpecial (.builtin "super.__getattribute__") (.ref S') >>= _) _ _ _
  refine wpAny_bind (wpAny_of_eq (F.ks_slot_super_ga.bind _) ?_)
  refine wpAny_mono (Q := fun v s' => v = .ref h.objs.size ∧ s' = ⟨h.push { cls := .type bt, data := .fields #[.builtin id, .ref S] }, g, d, t + 1, os⟩) (E := fun _ _ => False)
    (wpAny_call_entry F.ks_slot_super_ga (hT _) F.ks_entry_super_ga (sup_ga (s := ⟨h, g, d, t + 1, os⟩) (bt := bt) hso hno hC hl X hf hty hlk hS hn hget ⟨_, rfl, rfl, rfl⟩) (F.ks_gaArgs_super _ _)) (fun v s' hv => ?_) fun _ _ z => z.elim
  obtain ⟨rfl, rfl⟩ := hv
  exact wpAny_pure (wpAny_pure hq)
theorem call_bound {b : Addr} {id bt : String} {B : Builtin} (hb : s.heap.get? b = some { cls := .type bt, data := .fields #[.builtin id, .ref S] }) (hbt : bt = "method-wrapper" ∨ bt = "builtin_function_or_method") (hpl : plainId id = true) (entry : entryFor table id = some B)
    (hchk : wpAny (model prog w) A.in1 (checkBoundCall id ⟨[.ref S], []⟩) (fun _ s' => s' = s) (fun _ _ => False) s)
    (h : wpAny (model prog w) A.in1 (B ⟨[.ref S], []⟩) (fun fin s' => match fin with | .done f => wants Q E (.ok f) s' | .again c' => c'.quiet = true ∧ codeAny (model prog w) A c' (wants Q E) s') (fun e s' => wants Q E (.error e) s') s) :
    wpAny (model prog w) A (call (.ref b) []) Q E s := by
  refine wpAny_call (codeAny_of_tree ?_)
  show wpAny _ A.in1 (callAny (.ref b) _) _ _ _
  unfold callAny
  refine wpAny_bind (wpAny_load hb ?_)
  have hk : codeAny (model prog w) A (.builtin id ⟨[.ref S], []⟩) (wants Q E) s := by
    refine codeAny_builtin entry ?_
    rw [Around.under_plainId hpl _]
    exact h
  have q1 : (Value.type "method-wrapper" == Value.type "method") = false := by decide +kernel
  have q2 : (Value.type "builtin_function_or_method" == Value.type "method") = false := by decide +kernel
  have q3 : (Value.type "method-wrapper" == Value.type "builtin_function_or_method") = false := by decide +kernel
  have q4 : (Value.type "method-wrapper" != Value.type "method") = true := by decide +kernel
  have q5 : (Value.type "builtin_function_or_method" != Value.type "method") = true := by decide +kernel
  have q6 : (Value.type "method-wrapper" == Value.type "method-wrapper") = true := by decide +kernel
  have q7 : (Value.type "builtin_function_or_method" == Value.type "builtin_function_or_method") = true := by decide +kernel
  rcases hbt with rfl | rfl
  · simp only [q1, q3, q4, q6, Bool.false_or, Bool.or_true, if_true]
    refine wpAny_bind (wpAny_mono hchk (fun _ s' e => ?_) fun _ _ x => x.elim)
    subst e
    exact wpAny_pure ⟨plainId_quiet hpl _, hk⟩
  · simp only [q2, q5, q7, Bool.false_or, Bool.true_or, Bool.or_true, if_true]
    refine wpAny_bind (wpAny_mono hchk (fun _ s' e => ?_) fun _ _ x => x.elim)
    subst e
    exact wpAny_pure ⟨plainId_quiet hpl _, hk⟩
theorem chk_slot {id : String} (hk : builtinKind id = some .slot) (ha : argsOk id ⟨[.ref S], []⟩) : wpAny (model prog w) A (checkBoundCall id ⟨[.ref S], []⟩) (fun _ s' => s' = s) (fun _ _ => False) s := by
  unfold checkBoundCall
  cases hsig : Manifest.signature? id with
  | none => exact wpAny_pure rfl
  | some sig =>
    simp only [argsOk, hsig] at ha
    have h2 : Bind.checkArgs id sig ⟨[.ref S], []⟩ = pure () := ha
    simp only [hk]
    rw [if_pos (by decide +kernel), h2]
    exact wpAny_pure rfl
theorem pop_args (sig : Manifest.Signature) (h : Manifest.signature? "list.pop" = some sig) : Bind.checkArgs "list.pop" { sig with full := s!"{(Str.ofString "_Accumulator").toString}.{Bind.lastOf "list.pop"}" } ⟨[.ref S], []⟩ = pure () := by
  rw [signature?_of (id := "list.pop") (n := ['p', 'o', 'p']) (o := ['t', 's', 'i', 'l']) (by kernel_rfl) F.owner_list] at h
  cases h
  kernel_rfl
theorem chk_pop {cd : ClassData} {vs : List Value} {ld : Addr} {n : Nat} (hS : s.heap.get? S = some (accO ld vs n)) (ht : Looks (model prog w) s.heap (typeOf (.ref S)) (.ref 101)) (hsub : Looks (model prog w) s.heap (isSubtype (.ref 101) (.type "module")) false)
    (hcd : Looks (model prog w) s.heap (classData 101) cd) (hq : cd.qualname = Str.ofString "_Accumulator") (htt : Looks (model prog w) s.heap (typeOf (.ref 101)) (.type "type")) : wpAny (model prog w) A (checkBoundCall "list.pop" ⟨[.ref S], []⟩) (fun _ s' => s' = s) (fun _ _ => False) s := by
  unfold checkBoundCall
  cases hsig : Manifest.signature? "list.pop" with
  | none => exact wpAny_pure rfl
  | some sig =>
    have hk : builtinKind "list.pop" = some .method := by decide +kernel
    have hv : Manifest.varargsMethods.contains "list.pop" = false := by decide +kernel
    have hp := pop_args (S := S) sig hsig
    rw [← hq] at hp
    obtain ⟨h, g, d, tk, os⟩ := s
    simp only [hk]
    rw [if_neg (by decide +kernel)]
    unfold isInstance
    repeat (first | (with_reducible refine Looks.at ht ?_) | (with_reducible refine wpAny_of_eq hp ?_) | (with_reducible refine Looks.at hsub ?_) | (with_reducible refine Looks.at hcd ?_) | (with_reducible refine Looks.at htt ?_) | (with_reducible refine ks_wpAny_isType_inst hS (fun c e => by cases e) ?_) | (simp only [hv, Bool.or_false, Bool.false_eq_true, if_false]) | wp_step | dsimp only)
    all_goals rfl
theorem body_len {ld : Addr} {vs : List Value} {n : Nat} {Q : Fin → Shared → Prop} (hS : s.heap.get? S = some (accO ld vs n)) (h : Q (.done (.ret (.int (vs.length : Nat) s.toks))) { s with toks := s.toks + 1 }) :
    wpAny (model prog w) A (Builtin.«list.__len__» ⟨[.ref S], []⟩) Q E s := by
  unfold Builtin.«list.__len__» slotArgs seqSize
  obtain ⟨hp, g, d, tk, os⟩ := s
  repeat (first | (with_reducible refine wpAny_loadPart hS ?_) | wp_step | dsimp only)
  have e : (vs.toArray.size : Nat) = vs.length := by simp
  rw [e]
  exact h
theorem erase_last (vs : List Value) (v : Value) : (vs ++ [v]).toArray.eraseIdxIfInBounds vs.length = vs.toArray := by
  rw [List.eraseIdxIfInBounds_toArray, List.eraseIdx_append_of_length_le (Nat.le_refl _)]
  simp
theorem body_pop {ld : Addr} {vs : List Value} {v : Value} {n : Nat} {Q : Fin → Shared → Prop} (hS : s.heap.get? S = some (accO ld (vs ++ [v]) n)) (hz : vs.length ≤ 1000)
    (h : Q (.done (.ret v)) { s with heap := s.heap.update S (Obj.mapSeq (·.eraseIdxIfInBounds vs.length)) }) : wpAny (model prog w) A (Builtin.«list.pop» ⟨[.ref S], []⟩) Q E s := by
  have e1 : (vs ++ [v]).toArray.isEmpty = false := by simp
  have e2 : (vs ++ [v]).toArray.size = vs.length + 1 := by simp
  have e3 : seqIndex? (-1) ((vs ++ [v]).toArray.size) = some vs.length := by
    rw [e2]; unfold seqIndex?
    simp
    try omega
  have e4 : (vs ++ [v]).toArray[vs.length]? = some v := by simp
  have z1 : (vs ++ [v]).toArray.size ≤ sizeLine := by rw [e2, sizeLine_eq]; omega
  have z2 : ((vs ++ [v]).toArray.eraseIdxIfInBounds vs.length).size ≤ sizeLine + 1 := by
    rw [erase_last, List.size_toArray, sizeLine_eq]; omega
  unfold Builtin.«list.pop» selfAndSome noKeywords checkCount
  obtain ⟨hp, g, d, tk, os⟩ := s
  repeat (first | (with_reducible refine wpAny_listItems hS rfl ?_) | (simp only [e1, e3, e4, Option.bind_some, Option.map_some, Bool.false_eq_true, if_false]) | (refine wpAny_updateSeq hS rfl ?_ z1 z2) | wp_step | dsimp only)
  all_goals exact h
theorem body_init0 {ld : Addr} {n : Nat} {Q : Fin → Shared → Prop} (hS : s.heap.get? S = some (accO ld [] n))
    (h : Q (.done (.ret .none)) { s with heap := s.heap.update S (Obj.mapSeq fun _ => #[]) }) : wpAny (model prog w) A (Builtin.«list.__init__» ⟨[.ref S], []⟩) Q E s := by
  unfold Builtin.«list.__init__»
  obtain ⟨hp, g, d, tk, os⟩ := s
  repeat (first | (with_reducible refine wpAny_listItems hS rfl ?_) | (refine wpAny_updateSeq hS rfl ?_ (by simp) (by simp)) | wp_step | dsimp only)
  all_goals exact h
end

section
variable {prog : Program} {w : World} {A : Around} {E : Value → Shared → Prop} {s : Shared} {h₀ : Heap} {L : Addr} {m mg mb : Str → Option Value} {K : Frag} {p : Program} {loose : List Str} {x f cc cda : Addr} {ox : Obj}
/-- super() in a method of the class 101 -/
theorem sup_here {body : List Stmt} {q : Str} {scope : Scope} {p0 p1 : Pos} {attr : Str} {whole : Sem Value} {fd : FuncData} {ar : Arg} {vs : Array Value} {file : Str} {tf : Tok} {oc ccl cl : Value} {od cdd cld : Option Addr} {osl ccs csl : Array (Option Value)} {cdD : ClassData} {Q : Value → Shared → Prop}
    (F : Fr h₀ L s.heap m) (X₀ : K.In h₀) (T : TopRead p loose mg mb h₀) (hf : K.lookup f = some ⟨oc, od, .func fd, osl⟩) (hp : (fd.params.posonlyargs ++ fd.params.args).head? = some ar) (hv : m ar.arg = some (.ref x)) (hx : s.heap.get? x = some ox) (hxc : ox.cls = .ref 101) (hnc : ∀ c, ox.data ≠ .cls c)
    (hcode : K.lookup cda = some ⟨ccl, cdd, .fields vs, ccs⟩) (hvs : vs[2]? = some (.str file tf)) (hfile : ((prog.main.file : Str) == file) = true)
    (hcell : K.lookup cc = some ⟨cl, cld, .cell (some (.ref 101)), csl⟩) (hD : clsIn K 101 = some cdD) (hsub : mroIn K 101 (.ref 101) = some true) (hsuper : nsIn K mainGlobals "super" = some none)
    (hat : (attr == ("__class__" : Str)) = false) (hks : scope.names.lookup ("super" : Str) = some .globalImplicit) (hkc : scope.names.lookup ("__class__" : Str) = some .free) (hka : scope.names.lookup ar.arg = some .local) (hk : scope.kind = .function)
    (htop : (prog.main.scope.names.lookup ("super" : Str)).isSome = false) (hboot : bootBuiltins "super" = some (.type "super"))
    (h : ∀ so h', h'.get? so = some (supO x) → Keeps s.heap h' → s.heap.get? so = none → Q (.ref so) { s with heap := h' }) :
    _root_.PySem.wpAt (model prog w) A (.func body (envX q scope L f (.ref cda) [("__class__", cc)])) (attributeBase (.Call (.Name "super" p0) [] [] p1) attr (envX q scope L f (.ref cda) [("__class__", cc)]) whole) Q E s := by
  have X : K.In s.heap := X₀.keeps F.keep
  obtain ⟨hh, g, d, t, os⟩ := s
  have hD1 : ∃ oD, hh.get? 101 = some oD ∧ oD.data = .cls cdD := by
    unfold clsIn at hD
    split at hD
    · rename_i ho
      cases hD
      exact ⟨_, X _ _ ho, rfl⟩
    · cases hD
  obtain ⟨oD, hD1, hD2⟩ := hD1
  have hw : wpAny (model prog w) A (call (.type "super") [.ref 101, .ref x]) Q E ⟨hh, g, d, t, os⟩ :=
    ks_wpAny_call_super hD1 hD2 hx hxc hnc (looks_mroIn X hsub) fun h' e k => h _ h' e k (by
      cases z : hh.get? hh.objs.size with
      | none => rfl
      | some o => exact absurd (Heap.lt_size z) (Nat.lt_irrefl _))
  have hl1 := wpAny_loadName_local (M := model prog w) (A := A) (E := E) (env := envX q scope L f (.ref cda) [("__class__", cc)]) (s := ⟨hh, g, d, t, os⟩) (Q := fun self s₃ => wpAny (model prog w) A (isType (.ref 101)) (fun b s₄ => b = true ∧ wpAny (model prog w) A (call (.type "super") [.ref 101, self]) Q E s₄) E s₃) hk hka F.ns hv (ks_wpAny_isType_cls hD1 hD2 ⟨rfl, hw⟩)
  exact ks_wpAt_super_base (env := envX q scope L f (.ref cda) [("__class__", cc)]) hks hkc hat rfl (X _ _ hf) rfl hp rfl (X _ _ hcode) rfl hvs hfile htop
    (ks_loadName_global hk hks (loadGlobal_builtin (env := envX q scope L f (.ref cda) [("__class__", cc)]) (T.g.keeps F.keep) (mg_none_of X₀ T.g hsuper) (T.b.keeps F.keep) ((T.builtins _ (by decide +kernel)).trans hboot) ⟨rfl, wpAny_loadName_free hk hkc rfl ⟨_, X _ _ hcell, rfl⟩ hl1⟩))
/-- a slot or a method of list, asked of super() -/
theorem sup_w {so S : Addr} {id : String} {name : Str} {pl : Sem Bool} {Q : Value × List Value → Shared → Prop} (X : K.In s.heap) (hso : s.heap.get? so = some (supO S)) (hS : s.heap.get? S = some ox) (hSc : ox.cls = .ref 101) (hnc : S ≠ 101) (hn : (name == ("__class__" : Str)) = false)
    (ho : nsIn K cStatics "thirdparty.any" = some none) (hm : ks_superIn K 101 101 name = some (some (.builtin id))) (hsub : mroIn K 101 (.type "list") = some true) (he : ".".intercalate (id.cutAt '.').dropLast = "list") (hty : typeOf (.builtin id) = pure (.type "wrapper_descriptor"))
    (h : ∀ b h', h'.get? b = some { cls := .type "method-wrapper", data := .fields #[.builtin id, .ref S] } → Keeps s.heap h' → s.heap.get? b = none → Q (.ref b, []) { s with heap := h', toks := s.toks + 1 }) : wpAny (model prog w) A (getMethod (.ref so) name pl) Q E s := by
  have ht : Looks (model prog w) s.heap (typeOf (.ref S)) (.ref 101) := hSc ▸ (Looks.ld hS).andThen .now
  cases hc : clsIn K 101 with
  | none => unfold ks_superIn at hm; rw [hc] at hm; cases hm
  | some cd =>
    unfold ks_superIn at hm
    rw [hc] at hm
    refine sup_method (bt := "method-wrapper") hso (looks_opaque X ho) (l₀ := cd.mro) (fun A Q E s k q => wpAny_bind ((looks_clsIn X hc) A _ E s k (wpAny_pure q))) rfl X hm hty slot_wget.lookup hnc hn (fun A Q E hq => wget_acc he hty ht (looks_mroIn X hsub) hq) ?_
    exact h _ _ (Heap.get?_push_at rfl rfl) (fun b o e => Heap.get?_push_of_some _ e) (by
      cases z : s.heap.get? s.heap.objs.size with
      | none => rfl
      | some o => exact absurd (Heap.lt_size z) (Nat.lt_irrefl _))
theorem sup_m {so S : Addr} {id : String} {name : Str} {pl : Sem Bool} {Q : Value × List Value → Shared → Prop} (X : K.In s.heap) (hso : s.heap.get? so = some (supO S)) (hS : s.heap.get? S = some ox) (hSc : ox.cls = .ref 101) (hnc : S ≠ 101) (hn : (name == ("__class__" : Str)) = false)
    (ho : nsIn K cStatics "thirdparty.any" = some none) (hm : ks_superIn K 101 101 name = some (some (.builtin id))) (hsub : mroIn K 101 (.type "list") = some true) (he : ".".intercalate (id.cutAt '.').dropLast = "list") (hno : Manifest.toldItsClass.contains id = false) (hty : typeOf (.builtin id) = pure (.type "method_descriptor"))
    (h : ∀ b h', h'.get? b = some { cls := .type "builtin_function_or_method", data := .fields #[.builtin id, .ref S] } → Keeps s.heap h' → s.heap.get? b = none → Q (.ref b, []) { s with heap := h', toks := s.toks + 1 }) : wpAny (model prog w) A (getMethod (.ref so) name pl) Q E s := by
  have ht : Looks (model prog w) s.heap (typeOf (.ref S)) (.ref 101) := hSc ▸ (Looks.ld hS).andThen .now
  cases hc : clsIn K 101 with
  | none => unfold ks_superIn at hm; rw [hc] at hm; cases hm
  | some cd =>
    unfold ks_superIn at hm
    rw [hc] at hm
    refine sup_method (bt := "builtin_function_or_method") hso (looks_opaque X ho) (l₀ := cd.mro) (fun A Q E s k q => wpAny_bind ((looks_clsIn X hc) A _ E s k (wpAny_pure q))) rfl X hm hty slot_mget.lookup hnc hn (fun A Q E hq => mget_acc he hno hty ht (looks_mroIn X hsub) hq) ?_
    exact h _ _ (Heap.get?_push_at rfl rfl) (fun b o e => Heap.get?_push_of_some _ e) (by
      cases z : s.heap.get? s.heap.objs.size with
      | none => rfl
      | some o => exact absurd (Heap.lt_size z) (Nat.lt_irrefl _))
theorem callWith_b0 {M : Model} {A : Around} {env : Env} {pos : Pos} {b S : Addr} {id bt : String} {Q : Value → Shared → Prop} (hb : s.heap.get? b = some { cls := .type bt, data := .fields #[.builtin id, .ref S] }) (hbt : bt = "method-wrapper" ∨ bt = "builtin_function_or_method")
    (h : wpAny M A (call (.ref b) []) Q E s) : wpAny M A (callWith pos (.ref b) [] (backTo pos (starEach [] env)) []) Q E s :=
  callWith_of (P := fun h => h.get? b = some { cls := .type bt, data := .fields #[.builtin id, .ref S] }) rfl (fun h hh => ⟨.machine, .inr (.inl rfl), (Looks.ld (part := none) hh).andThen (by
    have q1 : (Value.type "method-wrapper" != Value.type "method") = true := by decide +kernel
    have q2 : (Value.type "builtin_function_or_method" != Value.type "method") = true := by decide +kernel
    have q3 : (Value.type "method-wrapper" == Value.type "builtin_function_or_method" || Value.type "method-wrapper" == Value.type "method-wrapper") = true := by decide +kernel
    have q4 : (Value.type "builtin_function_or_method" == Value.type "builtin_function_or_method" || Value.type "builtin_function_or_method" == Value.type "method-wrapper") = true := by decide +kernel
    rcases hbt with rfl | rfl
    · simp only [q1, q3, if_true]
      exact .now
    · simp only [q2, q4, if_true]
      exact .now)⟩) (evalArgs_nil3 ⟨hb, h⟩)
theorem acc_ne101 {cd : ClassData} {h : Heap} {S ld n : Nat} {vs : List Value} (X : K.In h) (hc : clsIn K 101 = some cd) (hS : h.get? S = some (accO ld vs n)) : S ≠ 101 := by
  rintro rfl
  unfold clsIn at hc
  split at hc
  · rename_i ho
    have e := X _ _ ho
    rw [hS] at e
    cases e
  · cases hc
end
section
variable {w : World} {A : Around} {s : Shared} {K : Frag} {h₀ : Heap} {hid : List (Addr × Obj)} {mg mb : Str → Option Value} {R : Result → Shared → Prop} {name qual : Str} {params : Arguments} {body : List Stmt} {scope : Scope} {cl : List (Str × Addr)} {dV kV doc pm cdv ct oc : Value} {an od : Option Addr} {osl : Array (Option Value)} {f : Addr} {args : Args} {binds : List (Str × Value)}
/-- as enterH, of a body that asks super() -/
theorem enterS (X : K.In h₀) (T : TopRead VW LW mg mb h₀) (hsub : Keeps h₀ s.heap) (hh : ∀ p ∈ hid, h₀.get? p.1 = none) (hat : ∀ p ∈ hid, s.heap.get? p.1 = some p.2)
    (ho : K.lookup f = some ⟨oc, od, .func (fnX name qual params body scope cl dV kV doc pm an cdv ct), osl⟩) (hcd : codeIn K cdv qual = true) (hroom : A.depth < recursionLimit)
    (hbind : BindsTo s (fnX name qual params body scope cl dV kV doc pm an cdv ct) args binds) (hloc : ∀ y ∈ binds, scope.names.lookup y.1 = some .local)
    (h : ∀ g L' h₁ tk, (∀ b o, b ∉ hid.map (·.1) → s.heap.get? b = some o → g.get? b = some o) → Fr g L' h₁ (fun y => binds.reverse.lookup y) → News g L' h₁ hid → K.In g → TopRead VW LW mg mb g → (∀ p ∈ hid, p.1 < L') →
      _root_.PySem.wpAt (model PG w) (A.deeper (envX qual scope L' f cdv cl)) (.func body (envX qual scope L' f cdv cl)) (execs body (envX qual scope L' f cdv cl))
        (fun fl s' => R (.ok (.ret (match fl with | .ret v => v | _ => .none))) s') (fun _ _ => False)
        { s with heap := h₁, toks := tk })
    (hco : scope.isCoroutine = false) (hgen : scope.isGenerator = false) (hk : scope.kind = .function)
    (hcell : ∀ x ∈ scope.names, x.2 ≠ .cell) : codeAny (model PG w) A (.call (.ref f) args) R s := by
  have kg := hide_base hsub hh
  refine ks_codeAny_call_defAt (fd := fnX name qual params body scope cl dV kV doc pm an cdv ct) (body := body) (binds := binds) hroom (hsub _ _ (X _ _ ho)) rfl (T.nolimit.keeps hsub) (codeRec_of (X.keeps hsub) hcd) rfl hbind hcell hloc (fun h₁ hns hk₁ => ?_) hco hgen hk
  refine ks_wpAt_mono (h _ s.heap.objs.size h₁ _ (fun b o hb e => hideAll_get _ e hb) ⟨hns, fun b o e => hk₁ b o (of_hideAll _ e), Nat.le_of_eq (hideAll_size _ _)⟩ (fun p hp => ⟨hk₁ _ _ (hat p hp), Nat.ne_of_lt (Heap.lt_size (hat p hp)), hideAll_none _ (List.mem_map_of_mem hp)⟩)
    (X.keeps kg) (T.keeps kg) fun p hp => Heap.lt_size (hat p hp)) (fun _ _ x => x) fun _ _ x => x.elim
end
section
local macro_rules | `(tactic| k_enter) => `(tactic| (refine' enterS (by k_asm) (by k_asm) (by assumption) (by assumption) (by assumption) (by k_is) (by k_is) (by k_room) (by exact BindsTo.of_eq rfl) (by exact locs rfl) ?_ (by exact rfl) (by exact rfl) (by exact rfl) (by decide); k_whole; intro g L' h' tk' kg' F' N' X' T' l1'; (try dsimp only)))
set_option maxHeartbeats 4000000 in
theorem part_count_c (w : World) (S ld n : Nat) (vs : List Value) (hs : Int) (kt zt : Tok) (z : Int) :
    MutC w 98 [.ref S] 850 3000 [(S, accO ld vs n)] (fun h => h.get? ld = some (accD hs kt zt z) ∧ ld ≠ S)
      (fun _ r _ hid => (∃ t, r = .int (vs.length : Nat) t) ∧ hid = [(S, accO ld vs n)]) := by
  unfold MutC PG LW VW
  k_fill
  intro outer s h₀ mg mb Q E X T hsub hh hat hpre hret
  refine wpAny_call ?_
  k_dflt k_enter
  rename ∀ b o, _ → s.heap.get? b = some o → _ => kg
  have hld := kg _ _ (by rw [List.map_cons, List.map_nil, List.mem_singleton]; exact hpre.2) hpre.1
  rename Fr _ _ _ _ => F
  rename News _ _ _ _ => N
  rename TopRead _ _ _ _ _ => T'
  refine ks_wpAt_execs_cons (ks_wpAt_Return_some (ks_wpAt_MethodCall ?_))
  refine sup_here F (by assumption) T' (by k_is) (by rfl) (by rfl) (N _ (.head _)).1 rfl (fun c e => by cases e) (by k_is) (by rfl) (by first | rfl | decide +kernel) (by k_is) (by k_is) (by k_is) (by k_is) (by decide) (by rfl) (by rfl) (by rfl) (by rfl) (by decide +kernel) (by first | boot_by_name | rfl | kernel_rfl) ?_
  intro so h1 hso kp hnew
  have F1 := fr_keeps F kp
  have N1 := news_keeps N kp
  clear F N
  have hX := Frag.In.keeps ‹(hd.heap_1 w.params).In _› F1.keep
  have hS1 := (N1 _ (.head _)).1
  refine sup_w hX hso hS1 rfl (acc_ne101 hX (by k_is) hS1) (by decide) (by k_is) (by ks_is) (by k_is) (by decide +kernel) (by show builtinType _ = _; rw [builtinType_eq_fast]; kernel_rfl) ?_
  intro b h2 hb kp2 hnew2
  have F2 := fr_keeps F1 kp2
  have N2 := news_keeps N1 kp2
  clear F1 N1
  dsimp only
  k_unmd
  refine callWith_b0 hb (.inl rfl) ?_
  refine call_bound hb (.inl rfl) (by decide +kernel) PySem.F.entry_list_len (chk_slot (by decide +kernel) (by unfold argsOk; kernel_rfl)) ?_
  have hS2 := (N2 _ (.head _)).1
  refine body_len hS2 ?_
  dsimp only [wants]
  exact hret _ _ _ _ ⟨⟨_, rfl⟩, rfl⟩ (hid_at N2) (kbut F2 kg)
local macro_rules | `(tactic| k_inst) => `(tactic| (refine' acc_inst (by k_asm) (by k_asm) (by k_mem) (by assumption)))
local macro_rules | `(tactic| walk_at "getMethod ref") => `(tactic| (k_here; k_dflt (refine' method_df (by k_asm) (by k_asm) (by k_inst) (by k_is) (by k_is) (by k_is) (by k_get) (by k_is) (by decide +kernel) ?_; k_whole)))
local macro_rules | `(tactic| walk_at "call ref") => `(tactic| (k_here; k_dflt (refine' use_mut (rest := []) (part_count_c _ _ _ _ _ _ _ _ _) (by k_asm) (by k_asm) (by k_asm) (by k_asm) (by rfl) (by exact ⟨Fr.keep (by assumption) _ _ (by assumption), by assumption⟩) ?_; intro r' h' tk' hid' hr' hat' hbut' F'; obtain ⟨⟨t', hr'⟩, hid''⟩ := hr'; subst hr'; subst hid''; (have N' := news_but (rest := []) (by assumption) (fun p hp => List.mem_map_of_mem hp) (fun _ hp => nomatch hp) hat' hbut'); clear hat' hbut'; k_whole)))
local macro_rules | `(tactic| walk_at "wpAt") => `(tactic| refine Hold.out ?_)
inductive PopR (S ld : Nat) (vs : List Value) (v r : Value) (hid : List (Addr × Obj)) : Prop
  | mk (e : r = v) (n' : Nat) : hid = [(S, accO ld vs n')] → PopR S ld vs v r hid
inductive Pop0R (S ld n : Nat) (h : Heap) (r : Value) (h' : Heap) (hid : List (Addr × Obj)) : Prop
  | mk (D : Addr) (t1 t2 : Tok) : r = .ref D → h'.get? D = some (tup2 (.str (Str.ofString "") t1) (.str (Str.ofString "") t2)) → h.get? D = none → hid = [(S, accO ld [] n)] → Pop0R S ld n h r h' hid
set_option maxHeartbeats 4000000 in
theorem pop_c (w : World) (S ld n : Nat) (vs : List Value) (v : Value) (hs : Int) (kt zt : Tok) (z : Int) (hz : vs.length ≤ 1000) :
    MutC w 61 [.ref S] 830 2900 [(S, accO ld (vs ++ [v]) n)] (fun h => h.get? ld = some (accD hs kt zt z) ∧ ld ≠ S)
      (fun _ r _ hid => PopR S ld vs v r hid) := by
  unfold MutC PG LW VW
  k_fill
  intro outer s h₀ mg mb Q E X T hsub hh hat hpre hret
  refine wpAny_call ?_
  k_dflt k_enter
  rename ∀ b o, _ → s.heap.get? b = some o → _ => kg
  have hld := kg _ _ (by rw [List.map_cons, List.map_nil, List.mem_singleton]; exact hpre.2) hpre.1
  have hldS := hpre.2
  refine ks_wpAt_execs_cons ?_
  refine ks_wpAt_If ?_
  refine wpAt_of_wpAny ?_
  k_steps
  · exfalso
    rename _ = (0 : Int) => q
    rw [List.length_append, List.length_singleton] at q
    omega
  · refine wpAt_of_wpAny (wpAny_execs_nil ?_)
    dsimp only
    rename Fr _ _ _ _ => F
    rename News _ _ _ _ => N
    rename TopRead _ _ _ _ _ => T'
    refine ks_wpAt_execs_cons (ks_wpAt_Return_some (ks_wpAt_MethodCall ?_))
    refine sup_here F (by assumption) T' (by k_is) (by rfl) (by rfl) (N _ (.head _)).1 rfl (fun c e => by cases e) (by k_is) (by rfl) (by first | rfl | decide +kernel) (by k_is) (by k_is) (by k_is) (by k_is) (by decide) (by rfl) (by rfl) (by rfl) (by rfl) (by decide +kernel) (by first | boot_by_name | rfl | kernel_rfl) ?_
    intro so h1 hso kp hnew
    have F1 := fr_keeps F kp
    have N1 := news_keeps N kp
    clear F N
    have hX := Frag.In.keeps ‹(hd.heap_1 w.params).In _› F1.keep
    have hS1 := (N1 _ (.head _)).1
    refine sup_m hX hso hS1 rfl (acc_ne101 hX (by k_is) hS1) (by decide) (by k_is) (by ks_is) (by k_is) (by decide +kernel) (by decide +kernel) (by show builtinType _ = _; rw [builtinType_eq_fast]; kernel_rfl) ?_
    intro b h2 hb kp2 hnew2
    have F2 := fr_keeps F1 kp2
    have N2 := news_keeps N1 kp2
    clear F1 N1
    dsimp only
    k_unmd
    refine callWith_b0 hb (.inr rfl) ?_
    have hX2 := Frag.In.keeps ‹(hd.heap_1 w.params).In _› F2.keep
    have hS2 := (N2 _ (.head _)).1
    refine call_bound hb (.inr rfl) (by decide +kernel) PySem.F.entry_list_pop (chk_pop hS2 ((Looks.ld hS2).andThen .now) (looks_mroIn hX2 (by k_is)) (looks_clsIn hX2 (by k_is)) (by rfl) (looks_typeIn hX2 (by k_is))) ?_
    refine body_pop hS2 hz ?_
    dsimp only [wants]
    obtain ⟨F3, N3⟩ := acc_put (s := { heap := h2, gens := s.gens, drawn := s.drawn, toks := 0, os := s.os }) (pre := []) (post := []) (vs' := vs) (n' := n + 1) (fun x => x.eraseIdxIfInBounds vs.length) F2 N2 (fun _ hp => nomatch hp) (fun _ hp => nomatch hp) (erase_last vs v) (by simp)
    exact hret _ _ _ _ ⟨rfl, n + 1, rfl⟩ (hid_at N3) (kbut F3 kg)
set_option maxHeartbeats 4000000 in
theorem pop0_c (w : World) (S ld n : Nat) (hs : Int) (kt zt : Tok) (z : Int) :
    MutC w 61 [.ref S] 830 2900 [(S, accO ld [] n)] (fun h => h.get? ld = some (accD hs kt zt z) ∧ ld ≠ S)
      (Pop0R S ld n) := by
  unfold MutC PG LW VW
  k_fill
  intro outer s h₀ mg mb Q E X T hsub hh hat hpre hret
  refine wpAny_call ?_
  k_dflt k_enter
  rename ∀ b o, _ → s.heap.get? b = some o → _ => kg
  have hld := kg _ _ (by rw [List.map_cons, List.map_nil, List.mem_singleton]; exact hpre.2) hpre.1
  have hldS := hpre.2
  refine ks_wpAt_execs_cons ?_
  refine ks_wpAt_If ?_
  refine wpAt_of_wpAny ?_
  k_steps
  with_reducible show Hold _
  refine wpAt_of_wpAny ?_
  k_steps
  rename News _ _ _ _ => N
  have hD := (N _ (.head _)).1
  have hS := (N _ (.tail _ (List.mem_append_left _ (.head _)))).1
  refine hret _ _ _ _ ⟨_, _, _, rfl, hD, new_of (hid := [(S, accO ld [] n)]) N (.head _) kg fun q => ?_, rfl⟩ (hid_at (fun p hp => N p (.tail _ (List.mem_append_left _ hp)))) (kbut (by assumption) (by assumption))
  have q' := List.mem_singleton.mp q
  dsimp only at q' hD hS
  rw [q', hS] at hD
  cases hD
end

section
variable {prog : Program} {w : World} {A : Around} {E : Value → Shared → Prop} {s : Shared} {K : Frag} {S sl ld n : Nat} {vs : List Value}
theorem acc_ty (X : K.In s.heap) (hS : s.heap.get? S = some (accO ld vs n)) : Looks (model prog w) s.heap (typeOf (.ref S)) (.ref 101) := (Looks.ld hS).andThen .now
theorem acc_seqkey {k : Value} {name : Str} {Q : Value → Shared → Prop} (X : K.In s.heap) (hS : s.heap.get? S = some (accO ld vs n)) (hm : mroIn K 101 (.type "collections.deque") = some false) (h : Q k s) : wpAny (model prog w) A (sequenceKey (.ref S) k name) Q E s := by
  have ht := acc_ty (prog := prog) (w := w) X hS
  have hm' := looks_mroIn (M := model prog w) X hm
  obtain ⟨hp, g, d, tk, os⟩ := s
  unfold sequenceKey
  refine wpAny_bind (Looks.at ht ?_)
  dsimp only
  refine wpAny_bind ?_
  unfold seqItemTypes
  simp only [List.anyM_cons, List.anyM_nil]
  refine wpAny_bind (Looks.at hm' ?_)
  exact wpAny_pure (wpAny_pure h)
theorem acc_special {name : Str} {id T nm : String} {args : List Value} {Q : Option Value → Shared → Prop} (X : K.In s.heap) (hS : s.heap.get? S = some (accO ld vs n)) (hf : findIn K (.ref 101) name = some (some (.builtin id))) (hb : Slot "list" name id)
    (h : wpAny (model prog w) A (call (.builtin id) (.ref S :: args)) (fun v => Q (some v)) E s) : wpAny (model prog w) A (callSpecial? (.ref S) name args) Q E s := by
  have ht := acc_ty (prog := prog) (w := w) X hS
  simp only [callSpecial?]
  unfold specialOf
  refine wpAny_bind (wpAny_bind (ht.here ((looks_findIn X hf).here ?_)))
  simp only [hb.bind]
  exact wpAny_holding (wpAny_bind (wpAny_pure (wpAny_bind (wpAny_mono h (fun v s' h' => wpAny_pure h') fun _ _ h' => h'))))
theorem acc_getslice {vl vu : Value} {lo hi : Option Int} {Q : Value → Shared → Prop} (X : K.In s.heap) (hS : s.heap.get? S = some (accO ld vs n)) (hm : mroIn K 101 (.type "collections.deque") = some false) (hm2 : mroIn K 101 (.type "list") = some true)
    (hf : findIn K (.ref 101) "__getitem__" = some (some (.builtin "list.__getitem__"))) (hs : s.heap.IsSliceOf sl vl vu .none) (pl : IsPart vl lo) (pu : IsPart vu hi) (hz : vs.length ≤ 1000)
    (h : Q (.ref s.heap.objs.size) { s with heap := s.heap.push { cls := .type "list", data := .seq (slicePick vs.toArray lo hi none) } }) : wpAny (model prog w) A (getItem (.ref S) (.ref sl)) Q E s := by
  have hs0 := hs
  obtain ⟨os, hos, hcs, hds⟩ := hs0
  have hTs : s.TypeIs (.ref sl) "slice" := ⟨os, hos, hcs⟩
  have hsz : (slicePick vs.toArray lo hi none).size ≤ sizeLine := Nat.le_trans (slicePick_size_le vs.toArray lo hi none) (by simp; rw [sizeLine_eq]; omega)
  unfold getItem
  refine wpAny_holding ?_
  refine wpAny_bind (acc_seqkey X hS hm ?_)
  refine wpAny_bind (acc_special (T := "") (nm := "") X hS hf PySem.F.slot_list_getitem ?_)
  refine acc_call (nm := "__getitem__") X hS rfl hm2 (by first | exact .inl (by decide +kernel) | exact .inr (by decide +kernel)) (by decide +kernel) (by decide +kernel) PySem.F.entry_list_getitem (PySem.F.args_list_getitem_2 _ _) ?_
  show wpAny _ _ (Builtin.List.listSubscript? (.ref sl) >>= _) _ _ s
  refine wpAny_bind ?_
  unfold Builtin.List.listSubscript?
  refine wpAny_bind (wpAny_specialOf hTs slice_no_index ?_)
  simp only [Option.isNone_none, if_true]
  refine wpAny_pure ?_
  show wpAny _ _ (typeOf (.ref sl) >>= _) _ _ s
  refine wpAny_bind (wpAny_typeOf hTs ?_)
  rw [if_neg (by decide)]
  rw [listSliceParts_eq]
  refine wpAny_bind (wpAny_bind (wpAny_field hos hds (x := .none) rfl (wpAny_bind (wpAny_listPart .none ?_))))
  rw [if_neg (by decide)]
  refine wpAny_bind (wpAny_field hos hds (x := vl) rfl (wpAny_bind (wpAny_listPart pl ?_)))
  refine wpAny_bind (wpAny_field hos hds (x := vu) rfl (wpAny_bind (wpAny_listPart pu (wpAny_pure ?_))))
  refine wpAny_bind (m := Builtin.List.listItems (.ref S)) (wpAny_listItems hS rfl ?_)
  refine wpAny_bind (wpAny_of_eq (sliceIndices_raw lo hi none vs.toArray.size (by simp)) ?_)
  exact wpAny_bind (wpAny_newObj_type (wpAny_pure (wpAny_pure h)) hsz)
theorem acc_tail {value slice : PySem.Expr} {k : Value} {ops : List Value} {Q : Value → Shared → Prop} (X : K.In s.heap) (hS : s.heap.get? S = some (accO ld vs n)) (hf : findIn K (.ref 101) "__getitem__" = some (some (.builtin "list.__getitem__")))
    (hg : wpAny (model prog w) A (getItem (.ref S) k) Q E s) (hs : subscripted slice false (.ref S) k = operate ops (getItem (.ref S) k)) (ht : ∀ r, letTemporaryGo value (.ref S) r = pure ()) : wpAny (model prog w) A (subscriptTail value slice (.ref S) k) Q E s := by
  have hty := acc_ty (prog := prog) (w := w) X hS
  unfold subscriptTail
  refine wpAny_bind ?_
  unfold getitemInPython specialOf
  refine wpAny_bind (wpAny_bind (hty.here ((looks_findIn X hf).here ?_)))
  refine wpAny_pure ?_
  rw [hs]
  refine wpAny_bind (wpAny_operating (wpAny_mono hg (fun r s₃ h₃ => ?_) fun _ _ x => x))
  rw [ht]
  exact wpAny_bind (wpAny_pure (wpAny_pure h₃))
theorem pick_from (vs : List Value) (k : Nat) (hk : k ≤ vs.length) : slicePick vs.toArray (some (k : Int)) none none = (vs.drop k).toArray := by
  have e : sliceBounds (some (k : Int)) none none vs.toArray.size = ((k : Int), ((vs.length : Nat) : Int), 1) := by
    have h1 : ¬ ((k : Int) < 0) := by omega
    simp only [sliceBounds, Option.getD_none, h1, if_false, show (1 : Int) > 0 by decide, if_true, List.size_toArray]
    congr 1
    omega
  rw [kmk_pick_nat vs.toArray e]
  congr 1
  rw [List.take_of_length_le (by simp)]
theorem acc_slice_K {h₀ : Heap} {L k : Nat} {m : Str → Option Value} {news : List (Addr × Obj)} {value slice : PySem.Expr} {t : Tok} {Q : Value → Shared → Prop} (F : Fr h₀ L s.heap m) (N : News h₀ L s.heap news) (X₀ : K.In h₀) (hm : (S, accO ld vs n) ∈ news) (hm1 : mroIn K 101 (.type "collections.deque") = some false) (hm2 : mroIn K 101 (.type "list") = some true)
    (hf : findIn K (.ref 101) "__getitem__" = some (some (.builtin "list.__getitem__"))) (hz : vs.length ≤ 1000) (hk : k ≤ vs.length)
    (h : ∀ D h', Fr h₀ L h' m → News h₀ L h' ((D, W.listOf (vs.drop k).toArray 0) :: news) → (∀ p ∈ news, p.1 < D) → Q (.ref D) { s with heap := h' })
    (hs : subscripted slice false (.ref S) (.ref s.heap.objs.size) = operate [.ref s.heap.objs.size, .ref S] (getItem (.ref S) (.ref s.heap.objs.size))) (ht : ∀ r, letTemporaryGo value (.ref S) r = pure ()) :
    wpAny (model prog w) A (subscriptTail value slice (.ref S) (.ref s.heap.objs.size)) Q E { s with heap := s.heap.push { cls := .type "slice", data := .fields #[.int (k : Int) t, .none, .none] } } := by
  have hS := (N _ hm).1
  have up : ∀ b o, s.heap.get? b = some o → (s.heap.push { cls := .type "slice", data := .fields #[.int (k : Int) t, .none, .none] }).get? b = some o := fun b o e => Heap.get?_push_of_some _ e
  refine acc_tail (K := K) (X₀.keeps fun b o e => up b o (F.keep b o e)) (up _ _ hS) hf (acc_getslice (X₀.keeps fun b o e => up b o (F.keep b o e)) (up _ _ hS) hm1 hm2 hf (Heap.IsSliceOf.new ..) (IsPart.int _ _) .none hz ?_) hs ht
  rw [pick_from vs k hk]
  have F1 := F.push { cls := .type "slice", data := .fields #[.int (k : Int) t, .none, .none] }
  have N1 : News h₀ L (s.heap.push { cls := .type "slice", data := .fields #[.int (k : Int) t, .none, .none] }) news := news_keeps N up
  exact h _ _ (F1.push _) (N1.push F1 _) fun p hp => by
    rw [Heap.size_push]
    exact Nat.lt_succ_of_lt (Heap.lt_size (N p hp).1)
theorem acc_setslice {h₀ : Heap} {L k D : Nat} {m : Str → Option Value} {news news' : List (Addr × Obj)} {t : Tok} {c : Nat} {Q : Unit → Shared → Prop} (F : Fr h₀ L s.heap m) (N : News h₀ L s.heap news) (X₀ : K.In h₀) (hm1 : mroIn K 101 (.type "collections.deque") = some false) (hm2 : mroIn K 101 (.type "list") = some true)
    (hf : findIn K (.ref 101) "__setitem__" = some (some (.builtin "list.__setitem__"))) (hz : vs.length ≤ 1000) (hk : k ≤ vs.length) (hD : (D, W.listOf #[] c) ∈ news) (hDS : D ≠ S)
    (U : Upd S (accO ld vs n) (accO ld (vs.take k) (if ((vs.take k).toArray).size == (vs.toArray).size then n else n + 1)) news news')
    (h : ∀ h', Fr h₀ L h' m → News h₀ L h' news' → Q () { s with heap := h' }) :
    wpAny (model prog w) A (setItem (.ref S) (.ref s.heap.objs.size) (.ref D)) Q E { s with heap := s.heap.push { cls := .type "slice", data := .fields #[.int (k : Int) t, .none, .none] } } := by
  obtain ⟨pre, post, rfl, rfl, a, b⟩ := U.split
  have up : ∀ b o, s.heap.get? b = some o → (s.heap.push { cls := .type "slice", data := .fields #[.int (k : Int) t, .none, .none] }).get? b = some o := fun b o e => Heap.get?_push_of_some _ e
  have hS := up _ _ (N (S, accO ld vs n) (List.mem_append.mpr (.inr (.head _)))).1
  have hD' := up _ _ (N _ hD).1
  have F1 := F.push { cls := .type "slice", data := .fields #[.int (k : Int) t, .none, .none] }
  have N1 : News h₀ L (s.heap.push { cls := .type "slice", data := .fields #[.int (k : Int) t, .none, .none] }) (pre ++ (S, accO ld vs n) :: post) := news_keeps N up
  have X : K.In (s.heap.push { cls := .type "slice", data := .fields #[.int (k : Int) t, .none, .none] }) := X₀.keeps fun b o e => up b o (F.keep b o e)
  have hs : (s.heap.push { cls := .type "slice", data := .fields #[.int (k : Int) t, .none, .none] }).IsSliceOf s.heap.objs.size (.int (k : Int) t) .none .none := Heap.IsSliceOf.new ..
  generalize s.heap.push { cls := .type "slice", data := .fields #[.int (k : Int) t, .none, .none] } = hp at *
  generalize s.heap.objs.size = sl at *
  obtain ⟨osl, hos, hcs, hds⟩ := hs
  have hTs : ({ s with heap := hp } : Shared).TypeIs (.ref sl) "slice" := ⟨osl, hos, hcs⟩
  have hTD : ({ s with heap := hp } : Shared).TypeIs (.ref D) "list" := ⟨_, hD', rfl⟩
  have hsame : Builtin.List.listSameRef (.ref S) (.ref D) = false := by
    show (S == D) = false
    simp [Ne.symm hDS]
  have hbd : sliceBounds (some (k : Int)) none none vs.toArray.size = ((k : Int), ((vs.length : Nat) : Int), 1) := by
    have h1 : ¬ ((k : Int) < 0) := by omega
    simp only [sliceBounds, Option.getD_none, h1, if_false, show (1 : Int) > 0 by decide, if_true, List.size_toArray]
    congr 1
    omega
  have hraw := sliceIndices_raw (some (k : Int)) none none vs.toArray.size (by simp)
  rw [hbd] at hraw
  have hmax : max (k : Int) ((vs.length : Nat) : Int) = ((vs.length : Nat) : Int) := by omega
  have hfin : vs.toArray.extract 0 k ++ #[] ++ vs.toArray.extract vs.length vs.toArray.size = (vs.take k).toArray := by
    simp
  have hlong : Builtin.List.listTooLong (vs.toArray.size + (#[] : Array Value).size) = false := by
    unfold Builtin.List.listTooLong
    rw [sizeLine_eq]
    simp
    omega
  unfold setItem
  refine wpAny_holding ?_
  refine wpAny_bind (acc_seqkey (s := { s with heap := hp }) X hS hm1 ?_)
  refine wpAny_bind (acc_special (s := { s with heap := hp }) (T := "") (nm := "") X hS hf PySem.F.slot_list_setitem ?_)
  refine acc_call (s := { s with heap := hp }) (nm := "__setitem__") X hS rfl hm2 (by first | exact .inl (by decide +kernel) | exact .inr (by decide +kernel)) (by decide +kernel) (by decide +kernel) PySem.F.entry_list_setitem (PySem.F.args_list_setitem_3 _ _ _) ?_
  show wpAny _ _ (Builtin.List.listSubscript? (.ref sl) >>= _) _ _ _
  refine wpAny_bind ?_
  unfold Builtin.List.listSubscript?
  refine wpAny_bind (wpAny_specialOf hTs slice_no_index ?_)
  simp only [Option.isNone_none, if_true]
  refine wpAny_pure ?_
  show wpAny _ _ (typeOf (.ref sl) >>= _) _ _ _
  refine wpAny_bind (wpAny_typeOf hTs ?_)
  rw [if_neg (by decide)]
  rw [listSliceParts_eq]
  refine wpAny_bind (wpAny_bind (wpAny_field hos hds (x := .none) rfl (wpAny_bind (wpAny_listPart .none ?_))))
  rw [if_neg (by decide)]
  refine wpAny_bind (wpAny_field hos hds (x := .int (k : Int) t) rfl (wpAny_bind (wpAny_listPart (IsPart.int _ _) ?_)))
  refine wpAny_bind (wpAny_field hos hds (x := .none) rfl (wpAny_bind (wpAny_listPart .none (wpAny_pure ?_))))
  rw [if_neg (by rw [hsame]; decide)]
  unfold Builtin.List.listAllItems Builtin.List.listUpdate
  have hu : ∀ (M : Model) (A : Around) (Q : Unit → Shared → Prop) (E : Value → Shared → Prop), Q () { s with heap := hp.update S (Obj.mapSeq fun xs => xs.extract 0 (k : Int).toNat ++ #[] ++ xs.extract (max (k : Int) ((vs.length : Nat) : Int)).toNat xs.size) } → wpAny M A (updateSeq S fun xs => xs.extract 0 (k : Int).toNat ++ #[] ++ xs.extract (max (k : Int) ((vs.length : Nat) : Int)).toNat xs.size) Q E { s with heap := hp } := fun M A Q E h => by
    refine wpAny_updateSeq (s := { s with heap := hp }) hS rfl h (by simp; rw [sizeLine_eq]; omega) ?_
    rw [hmax]
    show (vs.toArray.extract 0 k ++ #[] ++ vs.toArray.extract vs.length vs.toArray.size).size ≤ _
    rw [hfin, List.size_toArray, List.length_take, sizeLine_eq]; omega
  repeat (first | (with_reducible refine wpAny_typeOf hTD ?_) | (with_reducible refine wpAny_listItems hD' rfl ?_) | (with_reducible refine wpAny_listItems hS rfl ?_) | (with_reducible refine wpAny_of_eq hraw ?_) | (with_reducible refine hu _ _ _ _ ?_) | (rw [hlong, if_neg (by decide)]) | (with_reducible refine PySem.wpAny_letGo ?_) | wp_step | dsimp only)
  obtain ⟨F2, N2⟩ := acc_put (s := { s with heap := hp }) (fun xs => xs.extract 0 (k : Int).toNat ++ #[] ++ xs.extract (max (k : Int) ((vs.length : Nat) : Int)).toNat xs.size) F1 N1 a b (vs' := vs.take k) (n' := if ((vs.take k).toArray).size == (vs.toArray).size then n else n + 1) (by rw [hmax]; exact hfin) rfl
  exact h _ F2 N2
end
section
local macro_rules | `(tactic| k_enter) => `(tactic| (refine' enterH (by k_asm) (by k_asm) (by assumption) (by assumption) (by assumption) (by k_is) (by k_is) (by k_room) (by exact binds_K (Frag.In.keeps (by k_asm) (by assumption)) rfl (by k_is) rfl rfl rfl) (by exact locs rfl) ?_ (by exact rfl) (by exact rfl) (by exact rfl) (by decide); k_whole; intro g L' h' tk' kg' F' N' X' T' l1'; (try dsimp only)))
local macro_rules | `(tactic| k_inst) => `(tactic| (refine' acc_inst (by k_asm) (by k_asm) (by k_mem) (by assumption)))
local macro_rules | `(tactic| walk_at "subscriptTail Name Slice ref ref") => `(tactic| (k_here; (with_reducible show wpAny _ _ (subscriptTail _ (PySem.Expr.Slice _ _ none _) (Value.ref _) (Value.ref _)) _ _ _); k_dflt (refine' acc_slice_K (by k_asm) (by k_asm) (by k_asm) (by k_mem) (by k_is) (by k_is) (by k_is) (by assumption) (by assumption) ?_ (by with_unfolding_all rfl) (by exact fun _ => rfl)); intro D' h' F' N' l1; (try k_lt l1)))
local macro_rules | `(tactic| walk_at "setItem ref ref ref") => `(tactic| (k_here; k_dflt (refine' acc_setslice (by k_asm) (by k_asm) (by k_asm) (by k_is) (by k_is) (by k_is) (by assumption) (by assumption) (by k_mem) (by k_ne) (by k_upd) ?_); intro h' F' N'))
inductive PopfR (S ld k : Nat) (vs : List Value) (h : Heap) (r : Value) (h' : Heap) (hid : List (Addr × Obj)) : Prop
  | mk (D : Addr) (n' m' : Nat) : r = .ref D → h'.get? D = some (W.listOf (vs.drop k).toArray m') → hid = [(S, accO ld (vs.take k) n')] → h.get? D = none → PopfR S ld k vs h r h' hid
set_option maxHeartbeats 4000000 in
theorem popfrom_c (w : World) (S ld n k : Nat) (vs : List Value) (t : Tok) (hs : Int) (kt zt : Tok) (z : Int) (hk : k ≤ vs.length) (hz : vs.length ≤ 1000) :
    MutC w 53 [.ref S, .int (k : Int) t] 880 3800 [(S, accO ld vs n)] (fun h => h.get? ld = some (accD hs kt zt z) ∧ ld ≠ S)
      (PopfR S ld k vs) := by
  unfold MutC PG LW VW
  k_fill
  intro outer s h₀ mg mb Q E X T hsub hh hat hpre hret
  refine wpAny_call ?_
  k_dflt k_enter
  rename ∀ b o, _ → s.heap.get? b = some o → _ => kg
  have hld := kg _ _ (by rw [List.map_cons, List.map_nil, List.mem_singleton]; exact hpre.2) hpre.1
  have hldS := hpre.2
  k_steps
  rename News _ _ _ _ => N
  dsimp only
  have hD := (N _ (.tail _ (.head _))).1
  have hS := (N _ (.tail _ (.tail _ (.head _)))).1
  refine hret _ _ _ _ ⟨_, _, _, rfl, hD, rfl, new_of (hid := [(S, accO ld vs n)]) N (.tail _ (.head _)) kg fun q => ?_⟩ (hid_at (fun p hp => N p (.tail _ (.tail _ hp)))) (kbut (by assumption) (by assumption))
  have q' := List.mem_singleton.mp q
  dsimp only at q' hD hS
  rw [q', hS] at hD
  cases hD
end

section
variable {prog : Program} {w : World} {A : Around} {K : Frag} {R : Result → Shared → Prop} {h : Heap} {g : Array GenState} {d : Drawn} {t : Nat} {os : OsState}
/-- what the making of an object of class 101 reads -/
structure MakesL (M : Model) (h : Heap) : Prop where
  obj : ∃ oc od cd sl, h.get? 101 = some ⟨oc, od, .cls cd, sl⟩ ∧ cd.hasDel = false ∧ cd.mro.isEmpty = false
  made : Looks M h (Bind.madeBy (.ref 101)) (some "list.__new__")
  base : Looks M h (Bind.staticBase (.ref 101)) (.ref 101)
  self : Looks M h (isSubtype (.ref 101) (.ref 101)) true
  top : Looks M h (isSubtype (.ref 101) (.type "list")) true
  call : Looks M h (specialOf (.ref 101) "__call__") (some (.builtin "type.__call__"))
  typ : Looks M h (isInstance (.ref 101) (.type "type")) true
theorem makesL_of {M : Model} (X : K.In h) {oc : Value} {od : Option Addr} {cd : ClassData} {sl : Array (Option Value)} (ho : K.lookup 101 = some ⟨oc, od, .cls cd, sl⟩) (e2 : cd.hasDel = false) (e3 : (sl.toList[4]?).join = some (.builtin "list.__new__")) (e4 : cd.mro.isEmpty = false)
    (s1 : mroIn K 101 (.ref 101) = some true) (s2 : mroIn K 101 (.type "list") = some true) (s3 : specialIn K (.ref 101) "__call__" = some (some (.builtin "type.__call__"))) (s4 : instIn K (.ref 101) (.type "type") = some true) : MakesL M h := by
  have hc : clsIn K 101 = some cd := by unfold clsIn; rw [ho]
  have hm : Looks M h (mroOf (.ref 101)) cd.mro := (looks_clsIn X hc).andThen .now
  obtain ⟨c, l, hl⟩ : ∃ c l, cd.mro = c :: l := by cases q : cd.mro with | nil => rw [q] at e4; cases e4 | cons c l => exact ⟨c, l, rfl⟩
  have made : Looks M h (Bind.madeBy (.ref 101)) (some "list.__new__") := by
    intro A Q E s k q
    unfold Bind.madeBy
    refine wpAny_bind (hm A _ E s k ?_)
    rw [hl, List.forIn_cons]
    refine wpAny_bind (wpAny_bind (wpAny_bind (wpAny_bind (wpAny_loadPart (k _ _ (X _ _ ho)) (wpAny_pure ?_)))))
    dsimp only
    rw [← Array.getElem?_toList, e3]
    exact wpAny_pure (wpAny_pure (wpAny_pure q))
  refine ⟨⟨oc, od, cd, sl, X _ _ ho, e2, e4⟩, made, ?_, looks_mroIn X s1, looks_mroIn X s2, looks_specialIn X s3, looks_instIn X s4⟩
  intro A Q E s k q
  unfold Bind.staticBase
  refine wpAny_bind (hm A _ E s k ?_)
  rw [hl, List.forIn_cons]
  exact wpAny_bind (wpAny_bind (wpAny_bind (made A _ E s k (wpAny_pure (wpAny_pure (wpAny_pure q))))))
theorem list_new_args (rest : List Value) (sig : Manifest.Signature) (hs : Manifest.signature? "list.__new__" = some sig) (v : Value) : Bind.checkArgs "list.__new__" sig ⟨[.ref 101, v], []⟩ = pure () := by
  have : argsOk "list.__new__" ⟨[.ref 101, v], []⟩ := by unfold argsOk; kernel_rfl
  unfold argsOk at this
  rw [hs] at this
  exact this
theorem acc_new {v : Value} (Y : MakesL (model prog w) h)
    (hq : R (.ok (.ret (.ref (h.objs.size + 1)))) ⟨(h.push emptyDict).push (accO h.objs.size [] 0), g, d, t, os⟩) :
    codeAny (model prog w) A (.call (.builtin "list.__new__") ⟨[.ref 101, v], []⟩) R ⟨h, g, d, t, os⟩ := by
  obtain ⟨⟨oc, od, cd, sl, hC, e2, e4⟩, made, base, self, top, call, typ⟩ := Y
  refine codeAny_call_builtin_code (plainId_quiet PySem.F.plain_list_new _) ?_
  have hk : builtinKind "list.__new__" = some .builtinFn := by decide +kernel
  have hsp : splitId "list.__new__" = some ("list", "__new__") := by decide +kernel
  have hit : wpAny (model prog w) A.in1 (isType (.ref 101)) (fun b s' => b = true ∧ s' = ⟨h, g, d, t, os⟩) (fun _ _ => False) ⟨h, g, d, t, os⟩ := ks_wpAny_isType_cls hC rfl ⟨rfl, rfl⟩
  simp only [checkBuiltinCall, hk, hsp]
  rw [if_pos (by decide)]
  have hargs := list_new_args [] (v := v)
  have tail : ∀ {Q : Unit → Shared → Prop} {E : Value → Shared → Prop}, Q () ⟨h, g, d, t, os⟩ → wpAny (model prog w) A.in1 (match Manifest.signature? "list.__new__" with | some sig => Bind.checkArgs "list.__new__" sig ⟨[.ref 101, v], []⟩ | _ => pure ()) Q E ⟨h, g, d, t, os⟩ := fun hq => by
    cases hsig : Manifest.signature? "list.__new__" with
    | none => exact wpAny_pure hq
    | some sig =>
      dsimp only
      rw [hargs sig hsig]
      exact wpAny_pure hq
  have hcan : (Manifest.canonical "list.__new__" != Manifest.canonical "list.__new__") = false := by simp
  repeat (first | (with_reducible refine ks_wpAny_isType_cls hC rfl ?_) | (with_reducible refine tail ?_) | (simp only [hcan, Bool.not_true, Bool.false_eq_true, if_false]) | lk)
  refine codeAny_builtin_stack PySem.F.entry_list_new rfl fun p st => ?_
  rw [Around.under_plainId PySem.F.plain_list_new _]
  simp only [owner_list_new]
  have hne : typeHasDict (.ref 101) = true := rfl
  have hC2 : ((h.push emptyDict).push (accO h.objs.size [] 0)).get? 101 = some ⟨oc, od, .cls cd, sl⟩ := Heap.get?_push_of_some _ (Heap.get?_push_of_some _ hC)
  have hdel : ∀ {M : Model} {A : Around} {Q : Bool → Shared → Prop} {E : Value → Shared → Prop}, Q false ⟨(h.push emptyDict).push (accO h.objs.size [] 0), g, d, t, os⟩ → wpAny M A (classHasDel 101) Q E ⟨(h.push emptyDict).push (accO h.objs.size [] 0), g, d, t, os⟩ := fun hq => by
    unfold classHasDel
    refine wpAny_bind (wpAny_load hC2 (wpAny_pure ?_))
    rw [e2]; exact hq
  clear hC2 e2 e4 made base self call typ
  refine wpAny_bind (ks_wpAny_isType_cls hC rfl ?_)
  rw [if_neg (by decide)]
  refine wpAny_bind (Looks.at top ?_)
  rw [if_neg (by decide)]
  refine wpAny_bind (wpAny_pure ?_)
  rw [if_neg (by rw [hne]; decide)]
  refine wpAny_bind (wpAny_newObj_type (T := "dict") ?_ (by size_fits))
  dsimp only
  have hz : ¬ ((#[] : Array Value).size > sizeLine) := by simp
  unfold newObj
  dsimp only
  refine wpAny_bind ?_
  rw [if_neg hz]
  unfold newObjAsIs
  refine wpAny_bind (wpAny_alloc ?_)
  dsimp only
  refine wpAny_bind (hdel ?_)
  rw [if_neg (by decide)]
  refine wpAny_pure (wpAny_pure ?_)
  show R _ _
  rw [Heap.size_push]
  exact hq
theorem make_acc {v : Value} {fI : Addr} (Y : MakesL (model prog w) h) (hi : Looks (model prog w) h (typeLookup (.ref 101) "__init__") (some (.ref fI))) (hb : ∀ self, Looks (model prog w) h (bindSpecial (.ref fI) self) (.ref fI, [self]))
    (hq : codeAny (model prog w) (A.under (.builtin "type.__call__" ⟨.ref 101 :: [v], []⟩)) (.call (.ref fI) ⟨[.ref (h.objs.size + 1), v], []⟩) (InitBack (h.objs.size + 1) R) ⟨(h.push emptyDict).push (accO h.objs.size [] 0), g, d, t, os⟩) :
    codeAny (model prog w) A (.call (.ref 101) ⟨[v], []⟩) R ⟨h, g, d, t, os⟩ := by
  have Y' := Y
  obtain ⟨⟨oc, od, cd, sl, hC, e2, e4⟩, made, base, self, top, call, typ⟩ := Y
  refine codeAny_of_tree ?_
  show wpAny _ _ (callAny (.ref 101) _) _ _ _
  refine nd_load hC ?_
  show wpAny _ _ (callAny.viaDunder (.ref 101) _) _ _ _
  unfold callAny.viaDunder
  refine wpAny_bind (call.at ?_)
  dsimp only
  rw [tc_bind]
  refine wpAny_bind (wpAny_pure (wpAny_bind (wpAny_pure ?_)))
  refine wpAny_pure (a := Fin.again (.call (.builtin "type.__call__") ⟨[.ref 101, v], []⟩)) (And.intro rfl ?_)
  refine codeAny_call_builtin_at (Code.quiet_builtin _ (by decide +kernel)) entry_typeCall (check_slot tc_kind tc_split typ (tc_args _ _ _) ?_)
  unfold Builtin.«type.__call__»
  have hm : Looks (model prog w) h (mroOf (.ref 101)) cd.mro := ((Looks.ld (part := none) hC).andThen .now).andThen .now
  repeat (first | simp only [e4, Bool.false_eq_true, if_false] | with_reducible refine wpAny_call ?_ | lk)
  refine acc_new Y' ?_
  have k : ∀ b o, h.get? b = some o → ((h.push emptyDict).push (accO h.objs.size [] 0)).get? b = some o := fun b o e => Heap.get?_push_of_some _ (Heap.get?_push_of_some _ e)
  have hx : ((h.push emptyDict).push (accO h.objs.size [] 0)).get? (h.objs.size + 1) = some (accO h.objs.size [] 0) := by heap_get
  have t1 : Looks (model prog w) ((h.push emptyDict).push (accO h.objs.size [] 0)) (typeOf (.ref (h.objs.size + 1))) (.ref 101) := (Looks.ld hx).andThen .now
  have s1 := self.keeps k
  have i1 := hi.keeps k
  have b1 := (hb (.ref (h.objs.size + 1))).keeps k
  unfold isInstance callSpecial? specialOf
  repeat (first | with_reducible refine wpAny_call ?_ | lk)
  refine codeAny_mono hq fun r s' z => ?_
  rcases r with e | (v | _ | _ | _) <;> first | exact z | exact z.elim | skip
  obtain ⟨rfl, z⟩ := z
  exact wpAny_pure (wpAny_pure z)
end

open Builtin Builtin.ObjectAttr in
theorem refuse_acc (self : Value) : refuseLoop self "__setattr__" [.ref 101, .type "list", .type "object"] = pure () := by
  rw [refuseLoop_ref]
  kernel_rfl
section
variable {prog : Program} {w : World} {A : Around} {E : Value → Shared → Prop} {s : Shared} {K : Frag} {h₀ : Heap} {L S ld : Addr} {m : Str → Option Value} {vs : List Value} {n : Nat}
open Builtin Builtin.ObjectAttr in
theorem set_acc {pre post : List (Addr × Obj)} {cd : ClassData} {z : Int} {t : Tok} {Q : Unit → Shared → Prop} (F : Fr h₀ L s.heap m) (N : News h₀ L s.heap (pre ++ (ld, emptyDict) :: post)) (hm : (S, accO ld vs n) ∈ pre) (h1 : ∀ p ∈ pre, p.1 ≠ ld) (h2 : ∀ p ∈ post, p.1 ≠ ld) (X₀ : K.In h₀)
    (hs : findIn K (.ref 101) "__setattr__" = some (some (.builtin "object.__setattr__"))) (hc : clsIn K 101 = some cd) (hmro : cd.mro = [.ref 101, .type "list", .type "object"]) (hdict : cd.hasDict = true) (hobj : mroIn K 101 (.type "object") = some true)
    (ha : findIn K (.ref 101) "_initial_size" = some none)
    (h : ∀ h' hsh kt, Fr h₀ L h' m → News h₀ L h' (pre ++ (ld, accD hsh kt t z) :: post) → Q () { s with heap := h', toks := s.toks + 2 }) :
    wpAny (model prog w) A (setAttr (.ref S) "_initial_size" (.int z t)) Q E s := by
  have X := X₀.keeps F.keep
  have hS := (N _ (List.mem_append.mpr (.inl hm))).1
  have hD := (N (ld, emptyDict) (List.mem_append.mpr (.inr (.head _)))).1
  have I : InstAt s.heap S (accO ld vs n) 101 (some emptyDict) := ⟨hS, rfl, rfl, hD⟩
  have SF := PySem.F.store_object
  refine set_plain X I hs ?_
  have sub : Looks (model prog w) s.heap (isInstance (.ref S) (.type "object")) true := I.type.andThen (looks_mroIn X hobj)
  refine codeAny_call_builtin SF.slot.plain SF.entry (@check_slot (model prog w) _ _ { s with toks := s.toks + 1 } "object.__setattr__" "object" "__setattr__" (.ref S) [.str "_initial_size" s.toks, .int z t] [] _ SF.kind SF.split sub (SF.args (.ref S) (.str "_initial_size" s.toks) (.int z t)) ?_)
  have hmr : Looks (model prog w) s.heap (mroOf (.ref 101)) cd.mro := (looks_clsIn X hc).andThen .now
  have L3 : Looks (model prog w) s.heap (storeTaker? none) none := .now
  rw [osa_eq, refuse_eq]
  refine wpAny_bind (wpAny_bind (I.type.at (wpAny_bind (hmr.at ?_))))
  rw [hmro, refuse_acc]
  refine wpAny_pure (wpAny_bind (I.type.at (wpAny_bind ((looks_findIn X ha).at (wpAny_bind (L3.at ?_))))))
  dsimp only
  obtain ⟨U1, U2⟩ := news_upd (f := Obj.putName "_initial_size" (PyData.keyHash w.params "_initial_size") (.str "_initial_size" (s.toks + 1)) (.int z t)) F N h1 h2 (putName_dict _ _ _ _ [] 0) rfl
  have D' := (U2 _ (List.mem_append.mpr (.inr (.head _)))).1
  dsimp only at D'
  refine wpAny_bind (wpAny_pure (wpAny_bind (wpAny_bind (wpAny_loadPart hS (wpAny_bind ((looks_clsIn X hc).at ?_))))))
  rw [hdict]
  refine wpAny_pure (a := some ld) (wpAny_bind (wpAny_pure (wpAny_bind ?_)))
  unfold nsSet
  refine wpAny_bind (wpAny_bind (wpAny_askSetting (wpAny_pure (wpAny_bind (wpAny_mkText (wpAny_bind (wpAny_loadPart hD ?_)))))))
  dsimp only
  have c : (!(#[] : Array DictEntry).any (·.key.isStr (Str.ofString "_initial_size")) && (#[] : Array DictEntry).any (·.refKey)) = false := by simp
  rw [aRefKeyMayBeTheName_at, c]
  refine wpAny_updatePart hD ?_
  refine wpAny_bind (wpAny_lookBehind D' (pastItsLine_dict (by rw [List.size_toArray, sizeLine_eq]; simp [putL])) ?_)
  exact wpAny_pure (h _ _ _ U1 U2)
end
theorem acc_inst2 {h₀ h : Heap} {L S ld : Addr} {news : List (Addr × Obj)} {vs : List Value} {n : Nat} {od : Obj} (N : News h₀ L h news) (hm : (S, accO ld vs n) ∈ news) (hd : (ld, od) ∈ news) : InstAt h S (accO ld vs n) 101 (some od) :=
  ⟨(N _ hm).1, rfl, rfl, (N _ hd).1⟩
section
local macro_rules | `(tactic| k_enter) => `(tactic| (refine' enterS (h₀ := _) (by k_asm) (by k_asm) (by assumption) (by assumption) (by assumption) (by k_is) (by k_is) (by k_room) (by exact binds_K (Frag.In.keeps (by k_asm) (by assumption)) rfl (by k_is) rfl rfl rfl) (by exact locs rfl) ?_ (by exact rfl) (by exact rfl) (by exact rfl) (by decide); k_whole; intro g L' h' tk' kg' F' N' X' T' l1'; (try dsimp only)))
local macro_rules | `(tactic| k_inst) => `(tactic| (refine' acc_inst2 (by k_asm) (by k_mem) (by k_mem)))
local macro_rules | `(tactic| walk_at "setAttr") => `(tactic| (k_here; refine Hold.out ?_))
local macro_rules | `(tactic| walk_at "wpAt") => `(tactic| refine Hold.out ?_)
set_option maxHeartbeats 4000000 in
theorem init_c (w : World) (A : Around) (outer : List Env) (s : Shared) (h₀ : Heap) (S ld : Addr) (z : Int) (t : Tok) (mg mb : Str → Option Value) (R : Result → Shared → Prop) (hAe : A = (Ar 860 3500 outer).under (.builtin "type.__call__" ⟨[.ref 101, .int z t], []⟩))
    (X : (hd.heap_1 w.params).In h₀) (T : TopRead VW LW mg mb h₀) (hsub : Keeps h₀ s.heap) (hh : ∀ p ∈ [(S, accO ld [] 0), (ld, emptyDict)], h₀.get? p.1 = none) (hat : ∀ p ∈ [(S, accO ld [] 0), (ld, emptyDict)], s.heap.get? p.1 = some p.2) (hne : S ≠ ld)
    (hret : ∀ h' tk hs kt, h'.get? S = some (accO ld [] 0) → h'.get? ld = some (accD hs kt t z) → (∀ b o, b ≠ S → b ≠ ld → s.heap.get? b = some o → h'.get? b = some o) → R (.ok (.ret (.ref S))) { s with heap := h', toks := tk }) :
    codeAny (model PG w) A (.call (.ref 38) ⟨[.ref S, .int z t], []⟩) (InitBack S R) s := by
  unfold VW LW at T
  unfold PG
  revert X
  k_fill
  intro X
  subst hAe
  k_dflt k_enter
  refine ks_wpAt_execs_cons (wpAt_of_wpAny ?_)
  k_steps
  with_reducible show Hold _
  rename Fr _ _ _ _ => F
  rename News _ _ _ _ => N
  rename TopRead _ _ _ _ _ => T'
  rename Frag.In _ _ => X'
  rename ∀ b o, _ → s.heap.get? b = some o → _ => kg'
  refine set_acc (pre := [(S, accO ld [] 0)]) (post := []) F N (.head _) (fun p hp => by rw [List.mem_singleton.mp hp]; exact hne) (fun _ hp => nomatch hp) X' (by k_is) (by k_is) (by rfl) (by rfl) (by k_is) (by k_is) ?_
  intro h1 hsh kt F1 N1
  clear F N
  dsimp only
  refine ks_wpAt_execs_cons (ks_wpAt_Expr_any (ks_wpAt_MethodCall ?_))
  refine sup_here F1 X' T' (by k_is) (by rfl) (by rfl) (N1 _ (.head _)).1 rfl (fun c e => by cases e) (by k_is) (by rfl) (by first | rfl | decide +kernel) (by k_is) (by k_is) (by k_is) (by k_is) (by decide) (by rfl) (by rfl) (by rfl) (by rfl) (by decide +kernel) (by first | boot_by_name | rfl | kernel_rfl) ?_
  intro so h2 hso kp hnew
  have F2 := fr_keeps F1 kp
  have N2 := news_keeps N1 kp
  clear F1 N1
  have hX := Frag.In.keeps X' F2.keep
  have hS1 := (N2 _ (.head _)).1
  refine sup_w hX hso hS1 rfl (acc_ne101 hX (by k_is) hS1) (by decide) (by k_is) (by ks_is) (by k_is) (by decide +kernel) (by show builtinType _ = _; rw [builtinType_eq_fast]; kernel_rfl) ?_
  intro b h3 hb kp2 hnew2
  have F3 := fr_keeps F2 kp2
  have N3 := news_keeps N2 kp2
  clear F2 N2
  dsimp only
  k_unmd
  refine callWith_b0 hb (.inl rfl) ?_
  have hS2 := (N3 _ (.head _)).1
  refine call_bound hb (.inl rfl) (by decide +kernel) PySem.F.entry_list_init (chk_slot (by decide +kernel) (by unfold argsOk; kernel_rfl)) ?_
  refine body_init0 hS2 ?_
  dsimp only [wants]
  obtain ⟨F4, N4⟩ := acc_put (s := { heap := h3, gens := s.gens, drawn := s.drawn, toks := 0, os := s.os }) (pre := []) (post := [(ld, accD hsh kt t z)]) (vs' := []) (n' := 0) (fun _ => #[]) F3 N3 (fun _ hp => nomatch hp) (fun p hp => by rw [List.mem_singleton.mp hp]; exact Ne.symm hne) rfl rfl
  refine wpAt_of_wpAny (wpAny_execs_nil ?_)
  refine ⟨rfl, hret _ _ _ _ (N4 _ (.head _)).1 (N4 _ (.tail _ (.head _))).1 fun b o h1 h2 e => F4.keep b o (kg' b o (fun q => ?_) e)⟩
  rcases List.mem_cons.mp q with q | q
  · exact h1 q
  · exact h2 (List.mem_singleton.mp q)
inductive AccR (z : Int) (t : Tok) (h : Heap) (r : Value) (h' : Heap) : Prop
  | mk (S ld : Addr) (hs : Int) (kt : Tok) : r = .ref S → S ≠ ld → h'.get? S = some (accO ld [] 0) → h'.get? ld = some (accD hs kt t z) → h.get? S = none → h.get? ld = none → AccR z t h r h'
set_option maxHeartbeats 4000000 in
theorem acc_c (w : World) (z : Int) (t : Tok) :
    PureC w 101 [.int z t] 860 3500 (fun _ => True)
      (AccR z t) := by
  unfold PureC PG LW VW
  k_fill
  intro outer s mg mb Q E X T _ hret
  obtain ⟨h, g, d, tk, os⟩ := s
  have fresh : ∀ a, h.objs.size ≤ a → h.get? a = none := fun a ha => by
    cases e : h.get? a with
    | none => rfl
    | some o' => exact absurd (Heap.lt_size e) (Nat.not_lt.mpr ha)
  have up : ∀ b o, h.get? b = some o → ((h.push emptyDict).push (accO h.objs.size [] 0)).get? b = some o := fun b o e => Heap.get?_push_of_some _ (Heap.get?_push_of_some _ e)
  refine wpAny_call (make_acc (makesL_of X (by k_is) (by rfl) (by rfl) (by rfl) (by k_is) (by k_is) (by k_is) (by k_is)) (looks_findIn X (by k_is)) (fun self => bind_fn X self (by k_is)) ?_)
  refine init_c w _ outer ⟨(h.push emptyDict).push (accO h.objs.size [] 0), g, d, tk, os⟩ h (h.objs.size + 1) h.objs.size z t mg mb _ rfl X T up ?_ ?_ (Nat.succ_ne_self _) ?_
  · intro p hp
    rcases List.mem_cons.mp hp with rfl | hp
    · exact fresh _ (Nat.le_succ _)
    · rw [List.mem_singleton.mp hp]; exact fresh _ (Nat.le_refl _)
  · intro p hp
    rcases List.mem_cons.mp hp with rfl | hp
    · show _ = some (accO h.objs.size [] 0)
      heap_get
    · rw [List.mem_singleton.mp hp]
      show _ = some emptyDict
      heap_get
  · intro h' tk' hs kt e1 e2 ek
    refine hret _ _ _ ⟨_, _, hs, kt, rfl, Nat.succ_ne_self _, e1, e2, fresh _ (Nat.le_succ _), fresh _ (Nat.le_refl _)⟩ fun b o e => ek b o ?_ ?_ (up b o e)
    · rintro rfl; rw [fresh _ (Nat.le_succ _)] at e; cases e
    · rintro rfl; rw [fresh _ (Nat.le_refl _)] at e; cases e
end

section
variable {prog : Program} {w : World} {A : Around} {E : Value → Shared → Prop} {s : Shared} {K : Frag} {S ld n : Nat} {vs : List Value}
theorem acc_pyIter {Q : Value → Shared → Prop} (X : K.In s.heap) (hS : s.heap.get? S = some (accO ld vs n)) (hf : findIn K (.ref 101) "__iter__" = some (some (.builtin "list.__iter__"))) (hm2 : mroIn K 101 (.type "list") = some true)
    (h : Q (.ref s.heap.objs.size) { s with heap := s.heap.push { cls := .type "list_iterator", data := .fields #[.ref S, .int 0 0] } }) : wpAny (model prog w) A (pyIter (.ref S)) Q E s := by
  have ht := acc_ty (prog := prog) (w := w) X hS
  unfold pyIter
  unfold specialOf
  refine wpAny_bind (wpAny_bind (ht.here ((looks_findIn X hf).here ?_)))
  dsimp only
  refine wpAny_bind ?_
  unfold callSpecialIfBoundUnlessNone? bindSpecialIfBound? specialOf
  refine wpAny_holding (wpAny_bind (wpAny_bind (wpAny_bind (ht.here ((looks_findIn X hf).here ?_)))))
  simp only [PySem.F.slot_list_iter.bind]
  refine wpAny_bind (wpAny_askSetting (wpAny_ite ?_))
  have hsize : ∀ {M : Model} {A : Around} {Q : Value → Shared → Prop} {E : Value → Shared → Prop}, Q (.ref s.heap.objs.size) { s with heap := s.heap.push { cls := .type "list_iterator", data := .fields #[.ref S, .int 0 0] } } → wpAny M A (newFields "list_iterator" [.ref S, rawInt 0]) Q E s := fun hq => wpAny_newObj_type hq (by size_fits)
  have hc : ∀ {Q : Value → Shared → Prop} {E : Value → Shared → Prop}, Q (.ref s.heap.objs.size) { s with heap := s.heap.push { cls := .type "list_iterator", data := .fields #[.ref S, .int 0 0] } } → wpAny (model prog w) A (call (.builtin "list.__iter__") [.ref S]) Q E s := fun hq => by
    refine acc_call (nm := "__iter__") X hS rfl hm2 (by first | exact .inl (by decide +kernel) | exact .inr (by decide +kernel)) (by decide +kernel) (by decide +kernel) PySem.F.entry_list_iter (PySem.F.args_list_iter_1 _) ?_
    show wpAny _ _ (do ret (← newFields "list_iterator" [.ref S, rawInt 0])) _ _ s
    exact wpAny_bind (hsize (wpAny_pure hq))
  have last : ∀ {Q : Value → Shared → Prop} {E : Value → Shared → Prop}, Q (.ref s.heap.objs.size) { s with heap := s.heap.push { cls := .type "list_iterator", data := .fields #[.ref S, .int 0 0] } } →
      wpAny (model prog w) A (specialOf (.ref s.heap.objs.size) "__next__" >>= fun r => match r with | none => (do rule "iter.non-iterator"; raiseError "TypeError" s!"iter() returned non-iterator of type '{← PySem.typeNameOf (.ref s.heap.objs.size)}'") | some _ => pure (.ref s.heap.objs.size)) Q E { s with heap := s.heap.push { cls := .type "list_iterator", data := .fields #[.ref S, .int 0 0] } } := fun hq =>
    wpAny_bind (wpAny_specialOf (T := "list_iterator") ⟨_, Heap.get?_push_size _ rfl, rfl⟩ slot_listiter_next.lookup (wpAny_pure hq))
  split
  · refine wpAny_bind (wpAny_pure (wpAny_pure ?_))
    dsimp only
    rw [if_neg (by decide)]
    exact wpAny_bind (hc (wpAny_pure (last h)))
  · refine wpAny_tryCatch (wpAny_bind (wpAny_pure (wpAny_pure ?_)))
    dsimp only
    rw [if_neg (by decide)]
    exact wpAny_bind (hc (wpAny_pure (last h)))
theorem acc_next {it : Addr} {i : Nat} {x : Value} {Q : Option Value → Shared → Prop} (hit : s.heap.IsListIter it S i) (hS : s.heap.get? S = some (accO ld vs n)) (hx : vs.toArray[i]? = some x)
    (hQ : ∀ h', h'.IsListIter it S (i + 1) → Heap.SameBut it s.heap h' → Q (some x) { s with heap := h' }) :
    wpAny (model prog w) A (pyNext (.ref it)) Q E s := by
  obtain ⟨o, ho, hc, hd⟩ := id hit
  unfold pyNext
  refine wpAny_bind (wpAny_attempt (wpAny_callSpecial?_slot (name := Str.ofString "__next__") hit.typeIs slot_listiter_next
    (wpAny_call_entry slot_listiter_next hit.typeIs entry_listiter_next ?_ (args_listiter_next _))))
  show wpAny _ _ (field (.ref it) 0 >>= _) _ _ s
  refine wpAny_bind (wpAny_field ho hd (x := .ref S) rfl ?_)
  show wpAny _ _ (if (Value.ref S == Value.none) = true then _ else _) _ _ s
  rw [if_neg (show ¬ ((Value.ref S == Value.none) = true) from Bool.false_ne_true)]
  show wpAny _ _ (field (.ref it) 1 >>= _) _ _ s
  refine wpAny_bind (wpAny_field ho hd (x := .int i 0) rfl ?_)
  show wpAny _ _ (seqItems? (.ref S) >>= _) _ _ s
  refine wpAny_bind (wpAny_seqItems hS rfl ?_)
  simp only [Int.toNat_natCast, hx]
  refine wpAny_bind (wpAny_setField ho hd (by simp) (wpAny_pure ⟨x, rfl, wpAny_pure (hQ _ ?_ (Heap.SameBut.update ..))⟩))
  exact ⟨_, Heap.get?_update_self _ ho (Obj.isFreed_of_fields (Obj.data_mapFields hd _)), (Obj.cls_mapFields ..).trans hc, by
    rw [Obj.data_mapFields hd]; simp [rawInt]⟩
theorem acc_end {it : Addr} {i : Nat} {Q : Option Value → Shared → Prop} (hh : A.handled = none) (hit : s.heap.IsListIter it S i) (hS : s.heap.get? S = some (accO ld vs n)) (hx : vs.toArray[i]? = none)
    (hQ : ∀ h', Heap.ExtBut it s.heap h' → Q none { s with heap := h' }) : wpAny (model prog w) A (pyNext (.ref it)) Q E s := by
  obtain ⟨o, ho, hc, hd⟩ := id hit
  unfold pyNext
  refine wpAny_bind (wpAny_attempt (wpAny_callSpecial?_slot (name := Str.ofString "__next__") hit.typeIs slot_listiter_next
    (wpAny_call_entry slot_listiter_next hit.typeIs entry_listiter_next ?_ (args_listiter_next _))))
  show wpAny _ _ (field (.ref it) 0 >>= _) _ _ s
  refine wpAny_bind (wpAny_field ho hd (x := .ref S) rfl ?_)
  show wpAny _ _ (if (Value.ref S == Value.none) = true then _ else _) _ _ s
  rw [if_neg (show ¬ ((Value.ref S == Value.none) = true) from Bool.false_ne_true)]
  show wpAny _ _ (field (.ref it) 1 >>= _) _ _ s
  refine wpAny_bind (wpAny_field ho hd (x := .int i 0) rfl ?_)
  show wpAny _ _ (seqItems? (.ref S) >>= _) _ _ s
  refine wpAny_bind (wpAny_seqItems hS rfl ?_)
  simp only [Int.toNat_natCast, hx]
  refine wpAny_bind (wpAny_rule (wpAny_bind (wpAny_setField ho hd (by simp) ?_)))
  show wpAny _ _ (newExc (.type "StopIteration") [] >>= _) _ _ _
  refine wpAny_bind ?_
  simp only [newExc, newTuple]
  refine wpAny_bind (wpAny_newObj_type ?_ (by size_fits))
  refine wpAny_bind (m := firstArgMember _ _) (wpAny_of_eq (a := Value.none) (by first | rfl | (simp only [firstArgMember]; rfl)) ?_)
  refine wpAny_newObj_type ?_ (by size_fits)
  simp only [raiseNew]
  refine wpAny_bind (wpAny_handled ?_)
  rw [show A.in1.handled = none from hh]
  refine wpAny_bind (wpAny_pure (wpAny_throw ?_))
  refine wpAny_bind (wpAny_isInstance (T := "StopIteration") (b := true) ⟨_, Heap.get?_push_size _ rfl, rfl⟩ isSubtype_stop ?_)
  exact wpAny_pure (hQ _ (((Heap.SameBut.update ..).extBut.push _).push _))
end
/-- over the accumulator's pairs -/
theorem acc_walks {prog : Program} {w : World} {A : Around} (hh : A.handled = none) (I S ld n : Addr) (hne : S ≠ I) (vs : List Value) (Ts : Nat → Addr) (vals : Nat → Array Value)
    (hit : ∀ j, j < vs.length → vs.toArray[j]? = some (.ref (Ts j))) (hTI : ∀ j, j < vs.length → Ts j ≠ I) :
    WalksU prog w A I (I :: S :: (List.range vs.length).map Ts) [I] vs.length (fun j v => v = vals j)
      (fun j h => h.IsListIter I S j ∧ h.get? S = some (accO ld vs n) ∧ ∀ k, k < vs.length → h.IsTuple (Ts k) (vals k))
      (fun j T h => (j < vs.length ∧ T = Ts j) ∧ h.IsListIter I S (j + 1) ∧ h.get? S = some (accO ld vs n) ∧ ∀ k, k < vs.length → h.IsTuple (Ts k) (vals k)) where
  sub := fun b hb => by simp at hb; simp [hb]
  frame := fun _ _ _ st hk => ⟨st.1.at fun o e => hk I (by simp) o e, hk S (by simp) _ st.2.1,
    fun k hk' => (st.2.2 k hk').at fun o e => hk (Ts k) (List.mem_cons_of_mem _ (List.mem_cons_of_mem _ (List.mem_map.mpr ⟨k, List.mem_range.mpr hk', rfl⟩))) o e⟩
  item := fun i s Q E hi st hQ => by
    refine acc_next st.1 st.2.1 (x := .ref (Ts i)) (hit i hi) fun h' hit' hs' => ?_
    have tup : ∀ k, k < vs.length → h'.IsTuple (Ts k) (vals k) := fun k hk' => (st.2.2 k hk').extBut hs'.extBut (hTI k hk')
    exact hQ (Ts i) (vals i) h' s.toks rfl (tup i hi) ⟨⟨hi, rfl⟩, hit', hs'.extBut _ _ hne st.2.1, tup⟩ fun b o hb e => hs'.extBut b o (fun h => hb (by simp [h])) e
  go := fun _ _ _ _ _ s Q _ hm hQ => wpAny_letOwnedTupleGo_listiter hm.2.1 (hQ s.heap hm.2 fun _ _ _ e => e)
  apart := fun j T _ hm hmem => by
    rcases List.mem_cons.mp hmem with e | e
    · exact hTI j hm.1.1 (hm.1.2 ▸ e)
    · cases e
  done := fun s Q E st hQ => acc_end hh st.1 st.2.1 (by simp) fun h' he' => hQ h' s.toks fun b o hb e => he' b o (fun h => hb (by simp [h])) e
  self := fun _ _ _ _ st hQ => wpAny_pyIter_listiter st.1 hQ

noncomputable def shP (P : Nat → Value → Prop) : Nat → Value → Prop
  | 0, _ => False
  | i + 1, v => P i v
noncomputable def shS (St : Nat → Shared → Prop) : Nat → Shared → Prop
  | 0, _ => False
  | i + 1, s => St i s
/-- a walk that has one item behind it already -/
theorem walks_shift {prog : Program} {w : World} {A : Around} {I : Addr} {fp wr : List Addr} {G : Array GenState → Array GenState → Prop} {n : Nat} {P : Nat → Value → Prop} {St : Nat → Shared → Prop}
    (W : WalksS prog w A I fp wr G n P St) : WalksS prog w A I fp wr G (n + 1) (shP P) (shS St) where
  sub := W.sub
  grefl := W.grefl
  gtrans := W.gtrans
  frame := fun i s h' tk st htk hk => by
    cases i with
    | zero => exact st
    | succ i => exact W.frame i s h' tk st htk hk
  item := fun i s Q E hi st hQ => by
    cases i with
    | zero => exact st.elim
    | succ i => exact W.item i s Q E (Nat.lt_of_succ_lt_succ hi) st fun v s' hP st' hm => hQ v s' hP st' hm
  done := fun s Q E st hQ => W.done s Q E st hQ
  self := fun i s Q E st hQ => by
    cases i with
    | zero => exact st.elim
    | succ i => exact W.self i s Q E st hQ
noncomputable def shVal (z : Int) (val : Nat → Int) : Nat → Int
  | 0 => z
  | i + 1 => val i
theorem preSum_sh (z : Int) (val : Nat → Int) : ∀ n, preSum (shVal z val) (n + 1) = z + preSum val n
  | 0 => by simp [preSum, shVal]
  | n + 1 => by
    have ih := preSum_sh z val n
    show preSum (shVal z val) (n + 1) + val n = z + (preSum val n + val n)
    rw [ih, Int.add_assoc]
theorem sum_args2 (a b : Value) : argsOk "sum" ⟨[a, b], []⟩ := by unfold argsOk; kernel_rfl
section
variable {prog : Program} {w : World} {A : Around} {E : Value → Shared → Prop} {s : Shared}
theorem sum_from {I : Addr} {fp wr : List Addr} {G : Array GenState → Array GenState → Prop} {n : Nat} {P : Nat → Value → Prop} {St : Nat → Shared → Prop} {val : Nat → Int} {z : Int} {zt : Tok} {Q : Value → Shared → Prop}
    (W : WalksS prog w A.in1 I fp wr G n P St) (hst : St 0 s) (hfp : ∀ b ∈ fp, b < s.heap.objs.size) (hval : ∀ i v, P i v → ∃ t, v = .int (val i) t) (hz : 0 ≤ z ∧ z < 1000)
    (hQ : ∀ s' t', Moved wr G s s' → Q (.int (z + preSum val n) t') s') : wpAny (model prog w) A (call (.builtin "sum") [.ref I, .int z zt]) Q E s := by
  refine call_function_tree PySem.F.kind_sum PySem.F.plain_sum PySem.F.entry_sum (sum_args2 _ _) ?_
  unfold Builtin.«sum»
  simp only [List.length_cons, List.length_nil]
  rw [if_neg (by decide)]
  refine wpAny_bind (wpAny_of_eq (show Builtin.Builtins.bindParams "sum" ["start"] 0 ⟨[.int z zt], []⟩ = pure [some (.int z zt)] from rfl) ?_)
  refine wpAny_bind (W.self 0 _ _ _ hst ?_)
  dsimp only
  have hSf : s.heap.objs.size ∉ fp := fun hm => Nat.lt_irrefl _ (hfp _ hm)
  have hval' : ∀ i v, shP P i v → ∃ t, v = .int (shVal z val i) t := fun i v h => by
    cases i with
    | zero => exact h.elim
    | succ i => exact hval i v h
  have go : ∀ (tk : Nat) (zt : Tok) (st : Int), (st = 0 ∨ st = 2) → s.toks ≤ tk → codeAny (model prog w) A (.builtin "sum.loop" ⟨[.ref I, .ref s.heap.objs.size, rawInt st, rawInt 0], []⟩) (wants Q E) { s with heap := s.heap.push { cls := .type "list", data := .seq #[.int z zt] }, toks := tk } := fun tk zt st h2 htk => by
    have e1 : preSum (shVal z val) 1 = z := by simp [preSum, shVal]
    refine codeAny_sum_loopAnyS (walks_shift W) (shVal z val) hval' s.heap.objs.size hSf n 1 _ zt 0 st h2 (by omega) (by omega) (W.frame 0 s _ _ hst htk fun b _ o e => Heap.get?_push_of_some _ e) (by rw [e1]; exact Heap.get?_push_size _ rfl) fun s' t' hm => ?_
    rw [preSum_sh]
    exact hQ s' t' (hm.drop_new htk)
  refine wpAny_ite ?_
  split
  · refine wpAny_bind (wpAny_rule ?_)
    refine wpAny_bind (wpAny_mkInt ?_)
    refine wpAny_bind (wpAny_pure ?_)
    simp only [List.forIn_cons, List.forIn_nil]
    refine wpAny_bind (wpAny_bind (wpAny_bind (wpAny_isInstance (T := "int") (b := false) (typeIs_int _ _ _) PySem.sub_int_str ?_)))
    simp only [Bool.false_eq_true, if_false]
    refine wpAny_pure (wpAny_bind (wpAny_bind (wpAny_isInstance (T := "int") (b := false) (typeIs_int _ _ _) sub_int_bytes ?_)))
    simp only [Bool.false_eq_true, if_false]
    refine wpAny_pure (wpAny_bind (wpAny_bind (wpAny_isInstance (T := "int") (b := false) (typeIs_int _ _ _) sub_int_bytearray ?_)))
    simp only [Bool.false_eq_true, if_false]
    refine wpAny_pure (wpAny_pure ?_)
    refine wpAny_bind (wpAny_newObj_type ?_)
    exact wpAny_pure ⟨plainId_quiet PySem.F.plain_sum_loop _, go _ _ 0 (.inl rfl) (Nat.le_succ _)⟩
  · refine wpAny_bind (wpAny_pure ?_)
    simp only [List.forIn_cons, List.forIn_nil]
    refine wpAny_bind (wpAny_bind (wpAny_bind (wpAny_isInstance (T := "int") (b := false) (typeIs_int _ _ _) PySem.sub_int_str ?_)))
    simp only [Bool.false_eq_true, if_false]
    refine wpAny_pure (wpAny_bind (wpAny_bind (wpAny_isInstance (T := "int") (b := false) (typeIs_int _ _ _) sub_int_bytes ?_)))
    simp only [Bool.false_eq_true, if_false]
    refine wpAny_pure (wpAny_bind (wpAny_bind (wpAny_isInstance (T := "int") (b := false) (typeIs_int _ _ _) sub_int_bytearray ?_)))
    simp only [Bool.false_eq_true, if_false]
    refine wpAny_pure (wpAny_pure ?_)
    refine wpAny_bind (wpAny_newObj_type ?_)
    exact wpAny_pure ⟨plainId_quiet PySem.F.plain_sum_loop _, go _ _ 2 (.inr rfl) (Nat.le_refl _)⟩
end

theorem walks_imp {prog : Program} {w : World} {A : Around} {I : Addr} {fp wr : List Addr} {G : Array GenState → Array GenState → Prop} {n : Nat} {P P' : Nat → Value → Prop} {St : Nat → Shared → Prop}
    (W : WalksS prog w A I fp wr G n P St) (h : ∀ j y, P j y → P' j y) : WalksS prog w A I fp wr G n P' St where
  sub := W.sub
  grefl := W.grefl
  gtrans := W.gtrans
  frame := W.frame
  item := fun i s Q E hi st hQ => W.item i s Q E hi st fun v s' hP st' hm => hQ v s' (h _ _ hP) st' hm
  done := W.done
  self := W.self
/-- what a generator over the accumulator is, once made -/
theorem gen_acc {w : World} {A : Around} {E : Value → Shared → Prop} {s : Shared} {g : Heap} {L S ld n P c bm : Addr} {m mg mb : Str → Option Value} {vs : List Value} {ps : Array Value} {ob : Obj} {K : Frag} {p : Program} {loose : List Str} {prog : Program}
    {env : Env} {elt iter : Expr} {xa xb : Str} {pa pb pt : Pos} {kt : Nat} {scope : Scope} {cl : List (Str × Addr)} {pos : Pos} {Q : Value → Shared → Prop} (Ts : Nat → Addr) (va vb : Nat → Value) (FF : Nat → Value → Prop)
    (F : Fr g L s.heap m) (N : News g L s.heap [(S, accO ld vs n), (P, tabObj ps)]) (X : K.In g) (T : TopRead p loose mg mb g) (htr : TriplesOk ps.toList)
    (hf : findIn K (.ref 101) "__iter__" = some (some (.builtin "list.__iter__"))) (hm2 : mroIn K 101 (.type "list") = some true)
    (hc : env.code = .ref c) (hcode : ∀ h : Heap, (∀ b o, g.get? b = some o → h.get? b = some o) → ∀ ps : Array Value, TriplesOk ps.toList → h.get? P = some (tabObj ps) → h.IsCode c P ps ∧ h.TableAt c P ps)
    (hgl : env.globals = mainGlobals) (hbm : BMod g mainGlobals mg bm ob)
    (hit : ∀ j, j < vs.length → vs.toArray[j]? = some (.ref (Ts j))) (htup : ∀ k, k < vs.length → g.IsTuple (Ts k) #[va k, vb k])
    (hh : A.handled = none) (hco : scope.isCoroutine = false) (hclos : closureFor scope env = pure cl) (hcell : ∀ y ∈ scope.names, y.2 ≠ .cell) (h0 : scope.names.lookup (".0" : Str) = some NameKind.local)
    (hxa : scope.names.lookup xa = some .local) (hxb : scope.names.lookup xb = some .local) (hab : xa ≠ xb) (hkind : scope.kind = .function) (hroom : A.depth < recursionLimit)
    (hiter : ∀ Q' : Value → Shared → Prop, Q' (.ref S) s → wpAny (model prog w) A (eval iter env) Q' E s) (hs : ∀ x, genFold iter env x = pure x)
    (helt : ∀ (A' : Around) E' i C code (s₂ : Shared) m₂, A'.handled = none → i < vs.length → Keeps g s₂.heap → s₂.heap.Ns C m₂ → m₂ xa = some (va i) → m₂ xb = some (vb i) →
      wpAny (model prog w) A' (eval elt (genEnv scope cl C code builtinsNs env)) (fun y s₃ => FF i y ∧ PySem.Keeps s₂ s₃) E' s₂)
    (hQ : ∀ a C I h5 tk gs ps' fp (G : Array GenState → Array GenState → Prop) St, (∀ x y, G x y → AllBare x → AllBare y) → (AllBare s.gens → AllBare gs) → TriplesOk ps'.toList → h5.get? P = some (tabObj ps') → (∀ b o, b ≠ P → s.heap.get? b = some o → h5.get? b = some o) → s.heap.get? C = none → s.heap.get? I = none → (∀ b ∈ fp, b < h5.objs.size) → a ∈ fp → (∀ i s', St i s' → s'.TypeIs (.ref a) "generator") →
      WalksS prog w A.in4 a fp [C, I] G vs.length FF St → St 0 { s with heap := h5, toks := tk, gens := gs } → Q (.ref a) { s with heap := h5, toks := tk, gens := gs }) :
    wpAny (model prog w) A (eval (.GeneratorExp elt [⟨.Tuple [.Name xa pa, .Name xb pb] kt pt, iter, [], 0⟩] scope pos) env) Q E s := by
  have hS := (N _ (.head _)).1
  have hP := (N _ (.tail _ (.head _))).1
  have hPg : ∀ b o, g.get? b = some o → b ≠ P := fun b o e q => by
    have := (N _ (.tail _ (.head _))).2.2
    rw [q, this] at e; cases e
  have hSP : S ≠ P := fun q => by rw [q, hP] at hS; cases hS
  refine wpAny_GeneratorExp_walksQT hh hco hclos hcell h0 hxa hxb hab hkind hroom (hiter _ (acc_pyIter (X.keeps F.keep) hS hf hm2 ?_)) hs
  obtain ⟨I, hI⟩ : ∃ I, s.heap.objs.size = I := ⟨_, rfl⟩
  have hIn : s.heap.get? I = none := by
    cases e : s.heap.get? I with
    | none => rfl
    | some o => exact absurd (Heap.lt_size e) (hI ▸ Nat.lt_irrefl _)
  generalize hh2 : s.heap.push { cls := .type "list_iterator", data := .fields #[.ref S, .int 0 0] } = h2
  have up : ∀ b o, s.heap.get? b = some o → h2.get? b = some o := fun b o e => hh2 ▸ Heap.get?_push_of_some _ e
  have hIt : h2.IsListIter I S 0 := ⟨_, hh2 ▸ hI ▸ Heap.get?_push_size _ rfl, rfl, rfl⟩
  rw [hI]
  refine ⟨T.nolimit.keeps fun b o e => up b o (F.keep b o e), ?_⟩
  have hIP : I ≠ P := fun q => by rw [q, hP] at hIn; cases hIn
  have hSI : S ≠ I := fun q => by rw [q, hIn] at hS; cases hS
  have keep2 : ∀ b o, g.get? b = some o → h2.get? b = some o := fun b o e => up b o (F.keep b o e)
  obtain ⟨hok, htab⟩ := hcode h2 keep2 ps htr (up _ _ hP)
  refine wpAny_mono (Q := fun code s₃ => ∃ h3 tk ps', s₃ = { s with heap := h3, toks := tk } ∧ (∀ b o, b ≠ P → h2.get? b = some o → h3.get? b = some o) ∧ TriplesOk ps'.toList ∧ h3.get? P = some (tabObj ps')) (E := fun _ _ => False) ?_ (fun code s₃ h₃ => ?_) fun _ _ x => x.elim
  · cases hca : codeAmong pos ps.toList with
    | some c' => exact wpAny_genexprCode_hit hc hok hca ⟨h2, _, ps, rfl, fun _ _ _ e => e, htr, up _ _ hP⟩
    | none =>
      refine wpAny_genexprCodeX hc hok htab hca fun c' h' tk hk hc' hlt hcode' hrec htab' hP' => ⟨h', tk, _, rfl, fun b o hb e => hk b o hb e, ?_, htab'.2⟩
      have e : (ps ++ #[rawInt pos.line, rawInt pos.col, Value.ref c']).toList = ps.toList ++ [rawInt pos.line, rawInt pos.col, .ref c'] := by simp
      rw [e]
      exact TriplesOk_snoc _ _ _ _ htr
  · obtain ⟨h3, tk, ps', rfl, k3, htr', hP3⟩ := h₃
    have keep3 : ∀ b o, g.get? b = some o → h3.get? b = some o := fun b o e => k3 b o (hPg b o e) (keep2 b o e)
    have from_s : ∀ b o, b ≠ P → s.heap.get? b = some o → h3.get? b = some o := fun b o hb e => k3 b o hb (up b o e)
    rw [hgl]
    refine wpAny_builtinsFor (T.g.keeps keep3) hbm.name hbm.ne (keep3 _ _ hbm.obj) hbm.cls hbm.dict hbm.data ?_
    have hIt3 : h3.IsListIter I S 0 := hIt.at fun o e => k3 _ o hIP e
    have hgI : ∀ b o, g.get? b = some o → b ≠ I := fun b o e q => by
      have := F.keep b o e
      rw [q, hIn] at this; cases this
    have hTI : ∀ j, j < vs.length → Ts j ≠ I := fun j hj q => by
      obtain ⟨o, ho, _⟩ := htup j hj
      exact hgI _ _ ho q
    have hlt : ∀ b o, h3.get? b = some o → b < h3.objs.size := fun b o e => Heap.lt_size e
    refine ⟨I, I :: S :: (List.range vs.length).map Ts, [I], vs.length, _, _, _, fun _ => true, FF, rfl, fun A' hA' => (acc_walks hA' I S ld n hSI vs Ts (fun j => #[va j, vb j]) hit hTI).bound, fun i vals hv => ⟨_, _, hv.2⟩, ⟨hIt3, from_s _ _ hSP hS, fun k hk => (htup k hk).at fun o e => keep3 _ o e⟩, ?_, T.nolimit.keeps keep3, ?_, ?_, ?_⟩
    · intro b hb
      rcases List.mem_cons.mp hb with rfl | hb
      · obtain ⟨o, ho, _⟩ := hIt3; exact hlt _ _ ho
      · rcases List.mem_cons.mp hb with rfl | hb
        · exact hlt _ _ (from_s _ _ hSP hS)
        · obtain ⟨j, hj, rfl⟩ := List.mem_map.mp hb
          obtain ⟨o, ho, _⟩ := htup j (List.mem_range.mp hj)
          exact hlt _ _ (keep3 _ _ ho)
    · intro hm
      obtain ⟨_, ⟨o, _, _, ho, _⟩, _⟩ := T.nolimit
      exact hgI _ _ ho (List.mem_singleton.mp hm)
    · intro href hk
      have keepR : ∀ (s₂ : Shared), (∀ b ∈ List.range h3.objs.size, b ∉ [I] → ∀ o, href.get? b = some o → s₂.heap.get? b = some o) → Keeps g s₂.heap := fun s₂ hr b o e =>
        hr b (List.mem_range.mpr (hlt _ _ (keep3 b o e))) (fun hm => hgI b o e (List.mem_singleton.mp hm)) o (hk b o (keep3 b o e))
      refine ⟨fun A' E' i va' vb' s₂ m₂ hA' hPt hn h1 h2 hr => wpAny_pure ⟨rfl, ⟨s₂.heap, s₂.toks, rfl, fun _ _ e => e⟩⟩, fun A' E' i va' vb' s₂ m₂ hA' hPt _ hn h1 h2 hr => ?_⟩
      obtain ⟨hi, hv⟩ := hPt
      have e1 : va' = va i := by have := congrArg (fun a : Array Value => a[0]?) hv; simpa using this
      have e2 : vb' = vb i := by have := congrArg (fun a : Array Value => a[1]?) hv; simpa using this
      exact helt A' E' i _ _ s₂ m₂ hA' hi (keepR s₂ hr) hn (e1 ▸ h1) (e2 ▸ h2)
    · intro a h5 tk5 gs hbare ha hsz k5 W st
      have hps : passing (fun _ => true) vs.length 0 = List.range vs.length := by unfold passing; simp
      rw [hps, List.length_range] at W
      have hCn : s.heap.get? h3.objs.size = none := by
        cases e : s.heap.get? h3.objs.size with
        | none => rfl
        | some o =>
          by_cases q : h3.objs.size = P
          · exact absurd (Heap.lt_size (q ▸ hP3)) (Nat.lt_irrefl _)
          · exact absurd (Heap.lt_size (from_s _ _ q e)) (Nat.lt_irrefl _)
      refine hQ a h3.objs.size I h5 tk5 _ ps' _ _ _ (fun x y h => GenOnlyQ.bare h) (fun B => AllBare.push B hbare) htr' (k5 _ _ hP3) (fun b o hb e => k5 b o (from_s b o hb e)) hCn hIn ?_ (.head _) (fun i s' st => st.1.typeIs) (walks_imp W fun j y hy => ?_) st
      · intro b hb
        rcases List.mem_cons.mp hb with rfl | hb
        · rw [hsz]; exact Nat.lt_succ_self _
        · rcases List.mem_cons.mp hb with rfl | hb
          · rw [hsz]; exact Nat.lt_succ_of_lt ha
          · rw [hsz]; exact Nat.lt_succ_of_lt (Nat.lt_trans (List.mem_range.mp hb) ha)
      · obtain ⟨i, hi, hF⟩ := hy
        have : i = j := by
          rw [List.getElem?_range (by
            have := (List.getElem?_eq_some_iff.mp hi).1
            rwa [List.length_range] at this)] at hi
          exact (Option.some.inj hi).symm
        exact this ▸ hF

section
variable {prog : Program} {w : World} {A : Around} {E : Value → Shared → Prop} {s : Shared} {env : Env} {x y : Str} {v : Value} {m mg mb : Str → Option Value} {p p1 p2 p3 p4 p5 p6 p7 p8 p9 : Pos} {Q : Value → Shared → Prop}
theorem gname_local {M : Model} (hk : env.scope.kind = .function) (hx : env.scope.names.lookup x = some .local) (hn : s.heap.Ns env.locals m) (hv : m x = some v) (h : Q v s) (hd : (x == ("__debug__" : Str)) = false := by decide) : wpAny M A (eval (.Name x p) env) Q E s :=
  wpAny_Name (wpAny_loadName_local hk hx hn hv h) hd
theorem gname_builtin {M : Model} (hk : env.scope.kind = .function) (hx : env.kindOf x = some .globalImplicit) (hg : s.heap.Ns env.globals mg) (hmiss : mg x = none) (hb : s.heap.Ns env.builtins mb) (hv : mb x = some v) (h : Q v s) (hd : (x == ("__debug__" : Str)) = false := by decide) : wpAny M A (eval (.Name x p) env) Q E s :=
  wpAny_Name (ks_loadName_global hk hx (loadGlobal_builtin hg hmiss hb hv h)) hd
theorem gname_global {M : Model} (hk : env.scope.kind = .function) (hx : env.kindOf x = some .globalImplicit) (hg : s.heap.Ns env.globals mg) (hv : mg x = some v) (h : Q v s) (hd : (x == ("__debug__" : Str)) = false := by decide) : wpAny M A (eval (.Name x p) env) Q E s :=
  wpAny_Name (ks_loadName_global hk hx (Calls.loadGlobal_global hg hv h)) hd
theorem gname_cell {M : Model} {c : Addr} (hk : env.scope.kind = .function) (hx : env.scope.names.lookup x = some .cell) (hc : env.cells.lookup x = some c) (hv : s.heap.IsCell c (some v)) (h : Q v s) (hd : (x == ("__debug__" : Str)) = false := by decide) : wpAny M A (eval (.Name x p) env) Q E s :=
  wpAny_Name (wpAny_loadName_cell hk hx hc hv h) hd
theorem gcall1 {M : Model} {id : String} {f e : Expr} (hf : ∀ Q' : Value → Shared → Prop, Q' (.builtin id) s → wpAny M A (eval f env) Q' E s) (hfa : ∃ n q, f = .Name n q) (he : starEach [e] env = [(false, eval e env)])
    (h : wpAny M A (eval e env) (fun v s₁ => wpAny M A (call (.builtin id) [v]) Q E s₁) E s) : wpAny M A (eval (.Call f [e] [] p) env) Q E s := by
  obtain ⟨n, q, rfl⟩ := hfa
  refine wpAny_Call_Name_kw (hf _ ?_)
  rw [he]
  show wpAny M A (callWith p (.builtin id) [] (backTo p [(false, eval e env)]) []) Q E s
  exact Calls.callWith_builtin rfl (Calls.evalArgs_plain (Calls.spliced_cons (wpAny_mono h (fun _ _ h₁ => Calls.spliced_nil h₁) fun _ _ e => e)))
theorem elt_len {xa xb : Str} {ta tb : Tok} (hk : env.scope.kind = .function) (h1 : env.scope.names.lookup (Str.ofString "fws") = some .local) (h2 : env.scope.names.lookup (Str.ofString "part") = some .local) (h3 : env.kindOf (Str.ofString "len") = some .globalImplicit)
    (hn : s.heap.Ns env.locals m) (hg : s.heap.Ns env.globals mg) (hb : s.heap.Ns env.builtins mb) (hm : mg (Str.ofString "len") = none) (hl : mb (Str.ofString "len") = some (.builtin "len")) (e1 : m (Str.ofString "fws") = some (.str xa ta)) (e2 : m (Str.ofString "part") = some (.str xb tb)) (l1 : xa.length ≤ 1000) (l2 : xb.length ≤ 1000) :
    wpAny (model prog w) A (eval (.BinOp (.Call (.Name (Str.ofString "len") p1) [.Name (Str.ofString "fws") p2] [] p3) .Add (.Call (.Name (Str.ofString "len") p4) [.Name (Str.ofString "part") p5] [] p6) p7) env)
      (fun y s₃ => (∃ t, y = .int ((xa.length + xb.length : Nat) : Int) t) ∧ PySem.Keeps s s₃) E s := by
  refine wpAny_BinOp ?_
  refine gcall1 (id := "len") (fun Q' hq => gname_builtin hk h3 hg hm hb hl hq (by decide)) ⟨_, _, rfl⟩ rfl (gname_local hk h1 hn e1 ?_ (by decide))
  refine len_str (by omega) ?_
  refine gcall1 (id := "len") (fun Q' hq => gname_builtin hk h3 hg hm hb hl hq (by decide)) ⟨_, _, rfl⟩ rfl (gname_local hk h2 hn e2 ?_ (by decide))
  refine len_str (by omega) ?_
  refine add_int ?_
  exact ⟨⟨_, by rw [Int.natCast_add]⟩, ⟨s.heap, _, rfl, fun _ _ e => e⟩⟩
end

section
variable {prog : Program} {w : World} {A : Around} {E : Value → Shared → Prop} {s : Shared} {K : Frag} {S ld n : Nat} {vs : List Value}
theorem acc_attr {name : Str} {expr : Bool} {od : Obj} {v : Value} {Q : Value → Shared → Prop} (X : K.In s.heap) (I : InstAt s.heap S (accO ld vs n) 101 (some od)) (hga : findIn K (.ref 101) "__getattribute__" = some (some (.builtin "list.__getattribute__"))) (hgg : findIn K (.ref 101) "__getattr__" = some none) (hm : mroIn K 101 (.type "list") = some true)
    (hf : findObj K 101 (some od) name = some (.value v)) (hh : handedIn v = true) (h : Q v { s with toks := s.toks + 1 }) : wpAny (model prog w) A (getAttr (.ref S) name expr) Q E s := by
  have hS := I.at_
  obtain ⟨hp, g, d, t, os⟩ := s
  have L0 := I.type (M := model prog w)
  have L1 := looks_findIn (M := model prog w) X hga
  have L2 := looks_findIn (M := model prog w) X hgg
  have L3 := looks_find (M := model prog w) X I hf
  unfold getAttr getAttrBy
  refine wpAny_bind (wpAny_mkText (wpAny_holding (wpAny_bind (L0.at (wpAny_bind (L1.at ?_))))))
  dsimp only
  rw [if_neg (by decide)]
  unfold getAttrByItsOwn hookBefore callGetattribute boundAndCalled
  refine wpAny_bind (m := if onTheHeap (.ref 101) = true then typeLookup (.ref 101) "__getattr__" else pure none) (L2.at ?_)
  refine wpAny_bind (wpAny_attempt (wpAny_holding ?_))
  rw [if_neg (by cases expr <;> decide)]
  show wpAny _ _ (bindSpecial (.builtin "list.__getattribute__") (.ref S) >>= _) _ _ _
  refine wpAny_bind (wpAny_of_eq (PySem.F.slot_list_getattribute.bind _) ?_)
  refine acc_call (s := ⟨hp, g, d, t + 1, os⟩) (nm := "__getattribute__") X hS rfl hm (by first | exact .inl (by decide +kernel) | exact .inr (by decide +kernel)) (by decide +kernel) (by decide +kernel) am_entry_list_getattribute (PySem.F.args_list_getattribute_2 _ _) ?_
  unfold Builtin.«object.__getattribute__» slotArgs
  have hho := handedOut_of hh
  repeat (first | (with_reducible refine wpAny_of_eq hho ?_) | lk)
  all_goals exact h
end

/-- a part of the accumulator: where the pair lies, its two texts -/
noncomputable abbrev Pr := Addr × (Str × Tok) × (Str × Tok)
noncomputable abbrev accV (l : List Pr) : List Value := l.map fun x => Value.ref x.1
noncomputable abbrev PrAt (h : Heap) (x : Pr) : Prop := h.get? x.1 = some (tup2 (.str x.2.1.1 x.2.1.2) (.str x.2.2.1 x.2.2.2))
theorem keep_base {h₀ h g : Heap} {hid : List (Addr × Obj)} (hsub : Keeps h₀ h) (hh : ∀ p ∈ hid, h₀.get? p.1 = none) (kg : ∀ b o, b ∉ hid.map (·.1) → h.get? b = some o → g.get? b = some o) : Keeps h₀ g := fun b o e =>
  kg b o (fun q => by obtain ⟨p, hp, rfl⟩ := List.mem_map.mp q; rw [hh p hp] at e; cases e) (hsub b o e)
theorem swap_tab {g h h5 : Heap} {L P S : Addr} {m : Str → Option Value} {o : Obj} {ps ps' : Array Value} (F : Fr g L h m) (N : News g L h [(S, o), (P, tabObj ps)]) (hSP : S ≠ P) (k : ∀ b o, b ≠ P → h.get? b = some o → h5.get? b = some o) (hP : h5.get? P = some (tabObj ps')) :
    Fr g L h5 m ∧ News g L h5 [(S, o), (P, tabObj ps')] := by
  have Nt : News g L h [(P, tabObj ps)] := fun p hp => N p (.tail _ hp)
  refine ⟨fr_but F Nt fun b o hb e => k b o (fun q => hb (by rw [q]; exact .head _)) e, fun p hp => ?_⟩
  rcases List.mem_cons.mp hp with rfl | hp
  · have z := N _ (.head _)
    exact ⟨k _ _ hSP z.1, z.2⟩
  · rw [List.mem_singleton.mp hp]
    exact ⟨hP, (N _ (.tail _ (.head _))).2⟩
theorem end_tab {sh h h5 hp' : Heap} {S P C I : Addr} {o : Obj} {ps ps' : Array Value} (hat : sh.get? S = some o) (kb : ∀ b o', b ∉ ([(S, o), (P, tabObj ps)] : List (Addr × Obj)).map (·.1) → sh.get? b = some o' → h.get? b = some o') (hS : h.get? S = some o)
    (k5 : ∀ b o', b ≠ P → h.get? b = some o' → h5.get? b = some o') (hP5 : h5.get? P = some (tabObj ps')) (hP : h.get? P = some (tabObj ps)) (hC : h.get? C = none) (hI : h.get? I = none) (hSP : S ≠ P) (mh : ∀ b o', b ∉ [C, I] → h5.get? b = some o' → hp'.get? b = some o') :
    (∀ p ∈ [(S, o), (P, tabObj ps')], hp'.get? p.1 = some p.2) ∧ (∀ b o', b ≠ P → sh.get? b = some o' → hp'.get? b = some o') := by
  have off : ∀ b o', h.get? b = some o' → b ∉ [C, I] := fun b o' e hm => by
    rcases List.mem_cons.mp hm with rfl | hm
    · rw [hC] at e; cases e
    · rw [List.mem_singleton.mp hm, hI] at e; cases e
  have go : ∀ b o', b ≠ P → h.get? b = some o' → hp'.get? b = some o' := fun b o' hb e => mh b o' (off b o' e) (k5 b o' hb e)
  refine ⟨fun p hp => ?_, fun b o' hb e => ?_⟩
  · rcases List.mem_cons.mp hp with rfl | hp
    · exact go _ _ hSP hS
    · rw [List.mem_singleton.mp hp]
      exact mh _ _ (off _ _ hP) hP5
  · by_cases q : b = S
    · subst q
      rw [hat] at e
      cases e
      exact go _ _ hSP hS
    · refine go b o' hb (kb b o' (fun hm => ?_) e)
      rcases List.mem_cons.mp hm with rfl | hm
      · exact q rfl
      · exact hb (List.mem_singleton.mp hm)
theorem sum_pre (f : Nat → Int) (l : List Pr) (h : ∀ j, j < l.length → f j = (((l.getD j default).2.1.1.length + (l.getD j default).2.2.1.length : Nat) : Int)) : preSum f l.length = ((l.map fun x => x.2.1.1.length + x.2.2.1.length).sum : Nat) := by
  have gen : ∀ k, k ≤ l.length → preSum f k = (((l.take k).map fun x => x.2.1.1.length + x.2.2.1.length).sum : Nat) := by
    intro k
    induction k with
    | zero => intro _; simp [preSum]
    | succ k ih =>
      intro hk
      show preSum f k + f k = _
      rw [ih (by omega), h k (by omega), List.take_add_one, List.getElem?_eq_getElem (by omega), List.map_append, List.sum_append]
      have e : l.getD k default = l[k] := by simp [List.getD, List.getElem?_eq_getElem (show k < l.length by omega)]
      rw [e]
      simp
  have := gen l.length (Nat.le_refl _)
  rwa [List.take_length] at this
theorem len_nth (l : List Pr) (j : Nat) (hj : j < (accV l).length) : (accV l).toArray[j]? = some (.ref (l.getD j default).1) := by
  have hj' : j < l.length := by rw [List.length_map] at hj; exact hj
  simp [accV, hj']
section
local macro_rules | `(tactic| k_enter) => `(tactic| (refine' enterH (by k_asm) (by k_asm) (by assumption) (by assumption) (by assumption) (by k_is) (by k_is) (by k_room) (by exact BindsTo.of_eq rfl) (by exact locs rfl) ?_ (by exact rfl) (by exact rfl) (by exact rfl) (by decide); k_whole; intro g L' h' tk' kg' F' N' X' T' l1'; (try dsimp only)))
local macro_rules | `(tactic| walk_at "eval GeneratorExp") => `(tactic| (k_here; refine Hold.out ?_))
local macro_rules | `(tactic| walk_at "getAttr") => `(tactic| (k_here; refine Hold.out ?_))
local macro_rules | `(tactic| walk_at "call builtin:sum") => `(tactic| (k_here; refine Hold.out ?_))
set_option maxHeartbeats 4000000 in
theorem len_c (w : World) (outer : List Env) (s : Shared) (h₀ : Heap) (mg mb : Str → Option Value) (Q E : Value → Shared → Prop) (S ld n : Addr) (l : List Pr) (hs : Int) (kt zt : Tok) (z : Int) (ps : Array Value) (bm : Addr) (ob : Obj) (hz : 0 ≤ z ∧ z < 1000) (hl : l.length ≤ 1000) (ht : TriplesOk ps.toList)
    (hb : ∀ x ∈ l, x.2.1.1.length ≤ 1000 ∧ x.2.2.1.length ≤ 1000) :
    (hd.heap_1 w.params).In h₀ → TopRead VW LW mg mb h₀ → Keeps h₀ s.heap → (∀ p ∈ [(S, accO ld (accV l) n), (63, tabObj ps)], h₀.get? p.1 = none) → (∀ p ∈ [(S, accO ld (accV l) n), (63, tabObj ps)], s.heap.get? p.1 = some p.2) →
    BMod h₀ mainGlobals mg bm ob → h₀.get? ld = some (accD hs kt zt z) → (∀ x ∈ l, PrAt h₀ x) →
    (∀ h' tk gs t ps', (AllBare s.gens → AllBare gs) → TriplesOk ps'.toList → (∀ p ∈ [(S, accO ld (accV l) n), (63, tabObj ps')], h'.get? p.1 = some p.2) → (∀ b o, b ≠ 63 → s.heap.get? b = some o → h'.get? b = some o) →
      Q (.int (z + ((l.map fun x => x.2.1.1.length + x.2.2.1.length).sum : Nat)) t) { s with heap := h', toks := tk, gens := gs }) →
    wpAny (model PG w) (Ar 850 3400 outer) (call (.ref 68) [.ref S]) Q E s := by
  unfold PG VW LW
  k_fill
  intro X T hsub hh hat hbm hld htup hret
  refine wpAny_call ?_
  k_dflt k_enter
  k_steps
  with_reducible show Hold _
  rename Fr _ _ _ _ => F
  rename News _ _ _ _ => N
  rename TopRead _ _ _ _ _ => T'
  rename Frag.In _ _ => X'
  rename ∀ b o, _ → s.heap.get? b = some o → _ => kg
  have kg0 := keep_base hsub hh kg
  have hlg : (accV l).length = l.length := List.length_map ..
  have hmem : ∀ j, j < (accV l).length → l.getD j default ∈ l := fun j hj => by
    rw [hlg] at hj
    simp [hj]
  refine gen_acc (bm := bm) (ob := ob) (Ts := fun j => (l.getD j default).1) (va := fun j => .str (l.getD j default).2.1.1 (l.getD j default).2.1.2) (vb := fun j => .str (l.getD j default).2.2.1 (l.getD j default).2.2.2) (FF := fun j v => ∃ t, v = .int (((l.getD j default).2.1.1.length + (l.getD j default).2.2.1.length : Nat) : Int) t)
    F N X' T' ht (by k_is) (by k_is) rfl ?hcode rfl (hbm.keeps kg0) (len_nth l) ?htup rfl rfl rfl (by decide) (by rfl) (by rfl) (by rfl) (by decide) rfl (by k_room) ?hiter (fun _ => rfl) ?helt ?hQ
  case hcode =>
    intro h hk ps hps hP
    have hX := Frag.In.keeps X' hk
    exact ⟨⟨_, _, _, _, _, _, _, _, _, _, hX _ _ (by k_is), by rfl, by rfl, by rfl, by rfl, by rfl, by rfl, hP, rfl, hps, by decide⟩, ⟨_, _, hX _ _ (by k_is), by rfl, by rfl, by rfl⟩, hP⟩
  case htup =>
    intro k hk
    exact ⟨_, kg0 _ _ (htup _ (hmem k hk)), rfl, _, rfl⟩
  case hiter =>
    intro Q' hq
    k_steps
    exact hq
  case helt =>
    intro A' E' i C code s₂ m₂ hA hi kp hn h1 h2
    have hbi := hb _ (hmem i hi)
    exact elt_len (env := genEnv _ _ C code builtinsNs _) rfl rfl rfl rfl hn (T'.g.keeps kp) (T'.b.keeps kp) (mg_none_of X' T'.g (by k_is)) ((T'.builtins _ (by decide +kernel)).trans (by first | boot_by_name | rfl | kernel_rfl)) h1 h2 hbi.1 hbi.2
  case hQ =>
    intro a C I h5 tk5 gs ps' fp G St hGB hGs hps' hP5 k5 hCn hIn hfp _ _ W st
    have hS' := (N _ (.head _)).1
    have hP' := (N _ (.tail _ (.head _))).1
    have hSP : S ≠ 63 := fun q => by
      have z : _ = some (accO ld (accV l) n) := hS'
      rw [show (S, accO ld (accV l) n).1 = 63 from q, hP'] at z
      cases z
    obtain ⟨F5, N5⟩ := swap_tab F N hSP k5 hP5
    have kb := kbut F kg
    clear F N
    k_steps
    with_reducible show Hold _
    have hX5 := Frag.In.keeps X' F5.keep
    have hI5 := acc_inst F5 N5 (.head _) (kg0 _ _ hld)
    refine acc_attr hX5 hI5 (by k_is) (by k_is) (by k_is) (findObj_own (attr := none) (by k_is) (by k_is) (by rfl) (by rw [lookIn_dict]; k_get)) rfl ?_
    k_steps
    with_reducible show Hold _
    refine sum_from (val := fun j => (((l.getD j default).2.1.1.length + (l.getD j default).2.2.1.length : Nat) : Int)) (WalksS.in4_1 W) ?_ hfp (fun i v hv => hv) hz ?_
    · exact W.frame 0 _ _ _ st (by first | exact Nat.le_refl _ | exact Nat.le_succ _ | omega) fun _ _ _ e => e
    · intro s' t' hm
      obtain ⟨mh, mgn, mdr, mos, mtk⟩ := hm
      obtain ⟨hp', g', d', tk', os'⟩ := s'
      dsimp only at mh mdr mos
      subst mdr mos
      obtain ⟨z1, z2⟩ := end_tab (hat _ (.head _)) kb hS' k5 hP5 hP' hCn hIn hSP mh
      rw [hlg, sum_pre _ l fun _ _ => rfl]
      exact hret hp' tk' g' t' ps' (fun B => hGB _ _ mgn (hGs B)) hps' z1 z2
end

section
variable {prog : Program} {w : World} {A : Around} {E : Value → Shared → Prop} {s : Shared} {env : Env} {m mg mb : Str → Option Value} {p1 p2 p3 p4 p5 p6 p7 : Pos} {kk : Nat}
theorem elt_join {xa xb : Str} {ta tb tE : Tok} (hk : env.scope.kind = .function) (h1 : env.scope.names.lookup (Str.ofString "fws") = some .local) (h2 : env.scope.names.lookup (Str.ofString "part") = some .local) (h3 : env.kindOf (Str.ofString "EMPTYSTRING") = some .globalImplicit)
    (hn : s.heap.Ns env.locals m) (hg : s.heap.Ns env.globals mg) (hm : mg (Str.ofString "EMPTYSTRING") = some (.str (Str.ofString "") tE)) (e1 : m (Str.ofString "fws") = some (.str xa ta)) (e2 : m (Str.ofString "part") = some (.str xb tb)) (l1 : xa.length ≤ 1000) (l2 : xb.length ≤ 1000)
    (hline : (p2.endLine == p6.line) = true) :
    wpAny (model prog w) A (eval (.Call (.Attribute (.Name (Str.ofString "EMPTYSTRING") p1) (Str.ofString "join") p2) [.Tuple [.Name (Str.ofString "fws") p3, .Name (Str.ofString "part") p4] kk p5] [] p6) env)
      (fun y s₃ => (∃ t, y = .str (Txt.join (Str.ofString "") [xa, xb]) t) ∧ PySem.Keeps s s₃) E s := by
  refine wpAny_Call_method (T := "str") (id := "str.join") rfl rfl hline PySem.F.plainAttrs_str PySem.F.slot_str_join PySem.F.type_str_join (gname_global hk h3 hg hm ?_ (by decide))
  refine ⟨typeIs_str _ _ _, ⟨(fun _ e => nomatch e), ?_⟩⟩
  refine callWith_method1 ?_
  show wpAny (model prog w) A (spliced (backTo p6 [(false, _)])) _ _ _
  have tup : ∀ {Q : Value → Shared → Prop}, wpAny (model prog w) A (spliced (backTo p5 [(false, eval (.Name (Str.ofString "fws") p3) env), (false, eval (.Name (Str.ofString "part") p4) env)])) (fun vs s₁ => vs.length ≤ sizeLine ∧ Q (.ref s₁.heap.objs.size) { s₁ with heap := s₁.heap.push { cls := .type "tuple", data := .seq vs.toArray } }) E s →
      wpAny (model prog w) A (eval (.Tuple [.Name (Str.ofString "fws") p3, .Name (Str.ofString "part") p4] kk p5) env) Q E s := fun h => wpAny_Tuple h
  refine Calls.spliced_cons (tup ?_)
  refine Calls.spliced_cons (gname_local hk h1 hn e1 (Calls.spliced_cons (gname_local hk h2 hn e2 (Calls.spliced_nil ⟨?_, ?_⟩) (by decide))) (by decide))
  · rw [sizeLine_eq]; simp
  · refine Calls.spliced_nil ?_
    refine join_tuple (ys := [xa, xb]) ⟨_, Heap.get?_push_size _ rfl, rfl, _, rfl⟩ (.cons _ _ (.cons _ _ .nil)) ?_ ?_
    · simp
      have : (Str.ofString "").length = 0 := by decide
      omega
    · intro t' k
      exact ⟨⟨_, rfl⟩, ⟨_, _, rfl, fun b o e => Heap.get?_push_of_some _ e⟩⟩
end
theorem join_ok {xs : List Str} (h1 : xs.length ≤ 1000) (h2 : ∀ x ∈ xs, x.length ≤ 3000) : JoinOk (Str.ofString "") xs = true := by
  refine joinOk_of ?_
  have h := sum_le_bound xs 3000 h2
  have e : (Str.ofString "").length = 0 := by decide
  have h3 : xs.length * 3000 ≤ 1000 * 3000 := Nat.mul_le_mul_right _ h1
  rw [e, Nat.mul_zero]
  omega
section
local macro_rules | `(tactic| k_enter) => `(tactic| (refine' enterH (by k_asm) (by k_asm) (by assumption) (by assumption) (by assumption) (by k_is) (by k_is) (by k_room) (by exact BindsTo.of_eq rfl) (by exact locs rfl) ?_ (by exact rfl) (by exact rfl) (by exact rfl) (by decide); k_whole; intro g L' h' tk' kg' F' N' X' T' l1'; (try dsimp only)))
local macro_rules | `(tactic| walk_at "eval GeneratorExp") => `(tactic| (k_here; refine Hold.out ?_))
local macro_rules | `(tactic| walk_at "call builtin:str.join") => `(tactic| (k_here; refine Hold.out ?_))
/-- what str of the accumulator is -/
noncomputable def accS (l : List Pr) : Str := Txt.join (Str.ofString "") (l.map fun x => Txt.join (Str.ofString "") [x.2.1.1, x.2.2.1])
set_option maxHeartbeats 4000000 in
theorem str_c (w : World) (outer : List Env) (s : Shared) (h₀ : Heap) (mg mb : Str → Option Value) (Q E : Value → Shared → Prop) (S ld n : Addr) (l : List Pr) (ps : Array Value) (bm : Addr) (ob : Obj) (hl : l.length ≤ 1000) (ht : TriplesOk ps.toList)
    (hb : ∀ x ∈ l, x.2.1.1.length ≤ 1000 ∧ x.2.2.1.length ≤ 1000) :
    (hd.heap_1 w.params).In h₀ → TopRead VW LW mg mb h₀ → Keeps h₀ s.heap → (∀ p ∈ [(S, accO ld (accV l) n), (70, tabObj ps)], h₀.get? p.1 = none) → (∀ p ∈ [(S, accO ld (accV l) n), (70, tabObj ps)], s.heap.get? p.1 = some p.2) →
    BMod h₀ mainGlobals mg bm ob → (∀ x ∈ l, PrAt h₀ x) →
    (∀ h' tk gs t ps', (AllBare s.gens → AllBare gs) → TriplesOk ps'.toList → (∀ p ∈ [(S, accO ld (accV l) n), (70, tabObj ps')], h'.get? p.1 = some p.2) → (∀ b o, b ≠ 70 → s.heap.get? b = some o → h'.get? b = some o) →
      Q (.str (accS l) t) { s with heap := h', toks := tk, gens := gs }) →
    wpAny (model PG w) (Ar 850 3400 outer) (call (.ref 75) [.ref S]) Q E s := by
  unfold PG VW LW
  k_fill
  intro X T hsub hh hat hbm htup hret
  refine wpAny_call ?_
  k_dflt k_enter
  k_steps
  with_reducible show Hold _
  rename Fr _ _ _ _ => F
  rename News _ _ _ _ => N
  rename TopRead _ _ _ _ _ => T'
  rename Frag.In _ _ => X'
  rename ∀ b o, _ → s.heap.get? b = some o → _ => kg
  have kg0 := keep_base hsub hh kg
  have hlg : (accV l).length = l.length := List.length_map ..
  have hmem : ∀ j, j < (accV l).length → l.getD j default ∈ l := fun j hj => by
    rw [hlg] at hj
    simp [hj]
  refine gen_acc (bm := bm) (ob := ob) (Ts := fun j => (l.getD j default).1) (va := fun j => .str (l.getD j default).2.1.1 (l.getD j default).2.1.2) (vb := fun j => .str (l.getD j default).2.2.1 (l.getD j default).2.2.2) (FF := fun j v => ∃ t, v = .str (Txt.join (Str.ofString "") [(l.getD j default).2.1.1, (l.getD j default).2.2.1]) t)
    F N X' T' ht (by k_is) (by k_is) rfl ?hcode rfl (hbm.keeps kg0) (len_nth l) ?htup rfl rfl rfl (by decide) (by rfl) (by rfl) (by rfl) (by decide) rfl (by k_room) ?hiter (fun _ => rfl) ?helt ?hQ
  case hcode =>
    intro h hk ps hps hP
    have hX := Frag.In.keeps X' hk
    exact ⟨⟨_, _, _, _, _, _, _, _, _, _, hX _ _ (by k_is), by rfl, by rfl, by rfl, by rfl, by rfl, by rfl, hP, rfl, hps, by decide⟩, ⟨_, _, hX _ _ (by k_is), by rfl, by rfl, by rfl⟩, hP⟩
  case htup =>
    intro k hk
    exact ⟨_, kg0 _ _ (htup _ (hmem k hk)), rfl, _, rfl⟩
  case hiter =>
    intro Q' hq
    k_steps
    exact hq
  case helt =>
    intro A' E' i C code s₂ m₂ hA hi kp hn h1 h2
    have hbi := hb _ (hmem i hi)
    exact elt_join (env := genEnv _ _ C code builtinsNs _) rfl rfl rfl rfl hn (T'.g.keeps kp) (mg_of X' T'.g (by k_is)) h1 h2 hbi.1 hbi.2 (by decide)
  case hQ =>
    intro a C I h5 tk5 gs ps' fp G St hGB hGs hps' hP5 k5 hCn hIn hfp ha hty W st
    have hS' := (N _ (.head _)).1
    have hP' := (N _ (.tail _ (.head _))).1
    have hSP : S ≠ 70 := fun q => by
      have z : _ = some (accO ld (accV l) n) := hS'
      rw [show (S, accO ld (accV l) n).1 = 70 from q, hP'] at z
      cases z
    obtain ⟨F5, N5⟩ := swap_tab F N hSP k5 hP5
    have kb := kbut F kg
    clear F N
    k_steps
    with_reducible show Hold _
    refine SC.joinGen (WalksS.in4_2 W) hty ?_ hfp ha (fun j v hv => let ⟨u, e⟩ := hv; ⟨_, u, e⟩) (fun s' lt hm hacc => ?_) (by rw [hlg, sizeLine_eq]; omega)
    · exact W.frame 0 _ _ _ st (by first | exact Nat.le_refl _ | exact Nat.le_succ _ | omega) fun _ _ _ e => e
    · obtain ⟨mh, mgn, mdr, mos, mtk⟩ := hm
      obtain ⟨hp', g', d', tk', os'⟩ := s'
      dsimp only at mh mdr mos
      subst mdr mos
      obtain ⟨z1, z2⟩ := end_tab (hat _ (.head _)) kb hS' k5 hP5 hP' hCn hIn hSP mh
      have hlt : lt.map (·.1) = l.map fun x => Txt.join (Str.ofString "") [x.2.1.1, x.2.2.1] := by
        have hsz : lt.length = l.length := by have := hacc.1; rw [hlg] at this; simpa [strValues] using this
        apply List.ext_getElem?
        intro j
        by_cases hj : j < l.length
        · have hj' : j < lt.length := hsz ▸ hj
          obtain ⟨u, hv⟩ := hacc.2 j (.str lt[j].1 lt[j].2) (by simp [strValues, List.getElem?_eq_getElem hj'])
          injection hv with h1 _
          simp [List.getElem?_eq_getElem hj', hj, h1]
        · rw [List.getElem?_eq_none (by simpa [hsz] using Nat.le_of_not_lt hj), List.getElem?_eq_none (by simpa using Nat.le_of_not_lt hj)]
      rw [hlt]
      refine ⟨join_ok (by rw [List.length_map]; exact hl) fun x hx => ?_, fun t' k => ?_⟩
      · obtain ⟨y, hy, rfl⟩ := List.mem_map.mp hx
        have h1 := hb y hy
        have h2 := join_len (Str.ofString "") [y.2.1.1, y.2.2.1]
        have e : (Str.ofString "").length = 0 := by decide
        simp [e] at h2
        omega
      · dsimp only
        k_steps
        exact hret hp' k g' t' ps' (fun B => hGB _ _ mgn (hGs B)) hps' z1 z2
end

section
variable {w : World} {A : Around} {s : Shared} {K : Frag} {R : Result → Shared → Prop} {name qual : Str} {params : Arguments} {body : List Stmt} {scope : Scope} {dV kV doc pm cdv ct oc : Value} {an od : Option Addr} {osl : Array (Option Value)} {f : Addr} {args : Args} {binds : List (Str × Value)}
/-- as enterP, of a def whose names are kept in cells -/
theorem enterC (X : K.In s.heap) (hlim : s.heap.NoLimit) (ho : K.lookup f = some ⟨oc, od, .func (fnX name qual params body scope [] dV kV doc pm an cdv ct), osl⟩) (hcd : codeIn K cdv qual = true) (hroom : A.depth < recursionLimit)
    (hbind : BindsTo s (fnX name qual params body scope [] dV kV doc pm an cdv ct) args binds)
    (hkind : ∀ n, ∀ x ∈ binds, scope.names.lookup x.1 = some .local ∨ (scope.names.lookup x.1 = some .cell ∧ ((cellsFrom n scope.names []).lookup x.1).isSome = true)) (hnd : ((cellsFrom 0 scope.names []).map (·.1)).Nodup)
    (h : ∀ L' h₁ tk cells, Fr s.heap L' h₁ (bindL (envOfC qual scope L' f cdv).kindOf binds fun _ => none) → News s.heap L' h₁ cells → CellsAre (bindC (envOfC qual scope L' f cdv).kindOf binds fun _ => none) (cellsFrom (L' + 1) scope.names []) cells →
      wpAny (model PG w) (A.deeper (envOfC qual scope L' f cdv)) (execs body (envOfC qual scope L' f cdv))
        (fun fl s' => R (.ok (.ret (match fl with | .ret v => v | _ => .none))) s') (fun _ _ => False) { s with heap := h₁, toks := tk })
    (hco : scope.isCoroutine = false) (hgen : scope.isGenerator = false) (hk : scope.kind = .function) : codeAny (model PG w) A (.call (.ref f) args) R s := by
  refine codeAny_call_function (fd := fnX name qual params body scope [] dV kV doc pm an cdv ct) (body := body) hroom (X _ _ ho) rfl hco hgen rfl (codeRec_of X hcd) (hbind _ _ _ _ ?_)
  refine wpAny_newFunctionEnv_cells hk (hkind _) fun env' he s' x => ?_
  subst he
  refine ⟨hlim.keeps x.toInCall.keep, codeAny_func ?_⟩
  obtain ⟨h₁, tk, rfl, _⟩ := x.done
  have hk₁ := x.toInCall.keep
  obtain ⟨cells, NC, Y⟩ := Cl.news (h₀ := s.heap) (Nat.le_refl _) fun n c hm => ⟨x.cell n c (lookup_of_mem_nodup (cellsFrom_names scope.names 0 (s.heap.objs.size + 1) [] [] rfl ▸ hnd) hm), x.above n c hm⟩
  exact wpAny_mono (h s.heap.objs.size h₁ tk cells ⟨x.toInCall.ns, hk₁, Nat.le_refl _⟩ NC Y) (fun fl s' hl => hl) fun _ _ y => y.elim
end
/-- an item of a list of the base, at a place that is a number of its own -/
theorem item_isl {prog : Program} {w : World} {A : Around} {E : Value → Shared → Prop} {s : Shared} {h₀ : Heap} {L d : Addr} {m : Str → Option Value} {k : Nat} {vs : List Value} {v : Value} {t : Tok} {value slice : PySem.Expr} {Q : Value → Shared → Prop} (F : Fr h₀ L s.heap m) (hl : h₀.IsList d vs.toArray) (hv : vs[k]? = some v) (hz : vs.length ≤ 2097152) (h : Q v s)
    (hs : subscripted slice false (.ref d) (.int (k : Int) t) = operate [.ref d, .int (k : Int) t] (getItem (.ref d) (.int (k : Int) t)) := by with_unfolding_all rfl) :
    wpAny (model prog w) A (subscriptTail value slice (.ref d) (.int (k : Int) t)) Q E s := by
  have hl' : s.heap.IsList d vs.toArray := hl.at fun o e => F.keep _ o e
  exact tail_any hl'.typeIs slot_list_getitem.lookup (wpAny_getItem_list hl' (Int.natCast_nonneg _) (by have := (List.getElem?_eq_some_iff.mp hv).1; omega) (by simpa using hv) h) hs
theorem len_isl {prog : Program} {w : World} {A : Around} {E : Value → Shared → Prop} {s : Shared} {h₀ : Heap} {L d : Addr} {m : Str → Option Value} {k : Nat} {vs : List Value} {Q : Value → Shared → Prop} (F : Fr h₀ L s.heap m) (hl : h₀.IsList d vs.toArray) (hv : vs.length = k) (hz : vs.length ≤ 2097152)
    (h : Q (.int (k : Nat) (s.toks + 1)) { s with toks := s.toks + 1 + 1 }) : wpAny (model prog w) A (call (.builtin "len") [.ref d]) Q E s := by
  have hl' : s.heap.IsList d vs.toArray := hl.at fun o e => F.keep _ o e
  refine Calls.call_len_list hl' (by simp; omega) ?_
  have e : (vs.toArray.size : Nat) = k := by simpa using hv
  rw [e]
  exact h
/-- the frame of a comprehension with one name of its own in a cell -/
theorem nfe_cell {M : Model} {A : Around} {E : Value → Shared → Prop} {s : Shared} {scope : Scope} {globals : Addr} {cl : List (Str × Addr)} {qual : Str} {env : Env} {x : Str} {Q : Env → Shared → Prop}
    (hc : ∀ n, cellsFrom n scope.names cl = (x, n) :: cl) (hp : ∀ h, pushCells h scope.names = h.push { cls := .type "cell", data := .cell none })
    (h : Q { scope, locals := s.heap.objs.size, globals, cells := (x, s.heap.objs.size + 1) :: cl, qual, func := none, code := env.code, frame := env.frame, builtins := env.builtins }
      { s with heap := (s.heap.push { cls := .type "dict", data := .dict #[] }).push { cls := .type "cell", data := .cell none } }) :
    wpAny M A (newFunctionEnv scope globals cl [] qual none .none (some env)) Q E s := by
  simp only [newFunctionEnv, Option.isSome_some, if_true]
  refine wpAny_bind (wpAny_alloc ?_)
  refine wpAny_bind (wpAny_layCells _ (fun name kind cells => by cases hkc : kind == NameKind.cell <;> simp [hkc]) _ _ _ _ ?_)
  dsimp only
  rw [hc, hp, Heap.size_push]
  refine wpAny_bind ?_
  rw [List.forIn_nil]
  exact wpAny_pure (wpAny_pure h)
/-- the frame of such a comprehension -/
noncomputable def cellEnv (scope : Scope) (cl : List (Str × Addr)) (x : Str) (C Ck : Addr) (env : Env) : Env := { compEnvC scope cl C env with cells := (x, Ck) :: cl }
/-- the values for which the test holds -/
inductive Kept (P : Nat → Value → Prop) (p : Value → Bool) : Nat → List Value → Prop
  | nil : Kept P p 0 []
  | yes {i ys v} : Kept P p i ys → P i v → p v = true → Kept P p (i + 1) (ys ++ [v])
  | no {i ys v} : Kept P p i ys → P i v → p v = false → Kept P p (i + 1) ys
theorem Kept.len {P : Nat → Value → Prop} {p : Value → Bool} {i : Nat} {ys : List Value} (h : Kept P p i ys) : ys.length ≤ i := by
  induction h with
  | nil => exact Nat.le_refl _
  | yes _ _ _ ih => rw [List.length_append, List.length_singleton]; omega
  | no _ _ _ ih => omega
section
variable {prog : Program} {w : World} {A : Around} {env : Env}
/-- what the turns of such a comprehension do -/
noncomputable def CellTurn (prog : Program) (w : World) (A : Around) (env : Env) (scope : Scope) (cl : List (Str × Addr)) (x : Str) (c : Expr) (wr : List Addr) (P : Nat → Value → Prop) (p : Value → Bool) (s₂ : Shared) : Prop :=
  ∀ C Ck i v s₃, s₂.heap.objs.size < C → C < Ck → P i v → (∃ m, s₃.heap.Ns C m) → s₃.heap.IsCell Ck (some v) → (∃ h tk, s₃ = { s₂ with heap := h, toks := tk }) → (∀ b o, b ∉ wr → s₂.heap.get? b = some o → s₃.heap.get? b = some o) →
    wpAny (model prog w) A (isTrue c (cellEnv scope cl x C Ck env) (eval c (cellEnv scope cl x C Ck env))) (fun ok s₄ => ok = p v ∧ PySem.Keeps s₃ s₄) (fun _ _ => False) s₃
/-- between the turns of such a comprehension -/
inductive CellInv (P : Nat → Value → Prop) (p : Value → Bool) (St : Nat → Heap → Prop) (D : Addr) (wr : List Addr) (n : Nat) (s₂ : Shared) (k : Nat) (s' : Shared) : Prop
  | mk (h' : Heap) (tk : Nat) (m' : Str → Option Value) (v₀ : Option Value) (i : Nat) (ys : List Value) : s' = { s₂ with heap := h', toks := tk } → St i h' → h'.PlainList D (List.toArray ys) → h'.Ns (D + 1) m' → h'.IsCell (D + 1 + 1) v₀ → Kept P p i ys → i ≤ n → k = n + 1 - i → (∀ b o, b ∉ wr → s₂.heap.get? b = some o → h'.get? b = some o) → CellInv P p St D wr n s₂ k s'
theorem cell_block {E : Value → Shared → Prop} {iter c : Expr} {x : Str} {px py : Pos} {scope : Scope} {cl : List (Str × Addr)} {pos : Pos} {s₂ : Shared} {I : Addr} {fp wr : List Addr} {n : Nat} {P : Nat → Value → Prop} {St : Nat → Heap → Prop} {p : Value → Bool} {RR : Value → Addr → Result → Shared → Prop}
    (hcs : ∀ n, cellsFrom n scope.names cl = (x, n) :: cl) (hpc : ∀ h, pushCells h scope.names = h.push { cls := .type "cell", data := .cell none }) (hkind : scope.kind = .function)
    (hxk : (relabel scope env).names.lookup x = some .cell) (hxd : (x == ("__debug__" : Str)) = false)
    (W : Walks prog w A I fp wr n P St) (hsz : n ≤ 2097152) (hst : St 0 s₂.heap) (hfp : ∀ b ∈ fp, b < s₂.heap.objs.size) (hal : ∀ i h, St i h → ∀ b ∈ wr, ∃ o, h.get? b = some o) (hq : CellTurn prog w A env scope cl x c wr P p s₂)
    (hRR : ∀ D C h' tk m' ys, s₂.heap.get? D = none → s₂.heap.get? C = none → D ≠ C → h'.Ns C m' → h'.PlainList D (List.toArray ys) → Kept P p n ys → (∀ b o, b ∉ wr → s₂.heap.get? b = some o → h'.get? b = some o) → RR (.ref D) C (.ok .next) { s₂ with heap := h', toks := tk }) :
    wpAny (model prog w) A (newList []) (fun acc s₃ => wpAny (model prog w) A (newFunctionEnv scope env.globals cl [] env.qual none .none (some env)) (fun cenv s₄ =>
      codeAny (model prog w) A (.compStart (.ListComp (.Name x py) [⟨.Name x px, iter, [c], 0⟩] scope pos) 0 (.ref I) acc { cenv with scope := relabel scope env }) (RR acc cenv.locals) s₄) E s₃) E s₂ := by
  refine wpAny_newObj_type (nfe_cell hcs hpc ?_)
  obtain ⟨D, hD⟩ : ∃ D, s₂.heap.objs.size = D := ⟨_, rfl⟩
  dsimp only
  rw [Heap.size_push, hD]
  generalize hH : ((s₂.heap.push { cls := .type "list", dict := none, data := .seq ([] : List Value).toArray }).push { cls := .type "dict", data := .dict #[] }).push { cls := .type "cell", data := .cell none } = h₁
  have old : ∀ b o, s₂.heap.get? b = some o → h₁.get? b = some o := fun b o e => hH ▸ Heap.get?_push_of_some _ (Heap.get?_push_of_some _ (Heap.get?_push_of_some _ e))
  have hacc : h₁.PlainList D #[] := ⟨_, hH ▸ Heap.get?_push_of_some _ (Heap.get?_push_of_some _ (hD ▸ Heap.get?_push_size _ rfl))⟩
  have hns : h₁.Ns (D + 1) (fun _ => none) := by
    have e : ((s₂.heap.push { cls := .type "list", dict := none, data := .seq ([] : List Value).toArray })).objs.size = D + 1 := by rw [Heap.size_push, hD]
    exact hH ▸ e ▸ (Heap.Ns.new _ (.type "dict")).push _
  have hce : h₁.IsCell (D + 1 + 1) none := by
    have e : ((s₂.heap.push { cls := .type "list", dict := none, data := .seq ([] : List Value).toArray }).push { cls := .type "dict", data := .dict #[] }).objs.size = D + 1 + 1 := by rw [Heap.size_push, Heap.size_push, hD]
    exact ⟨_, hH ▸ e ▸ Heap.get?_push_size _ rfl, rfl⟩
  clear hH
  have ltD : ∀ {b o}, s₂.heap.get? b = some o → b < D := fun e => hD ▸ Heap.lt_size e
  have below : ∀ b, b < D → b ≠ D ∧ b ≠ D + 1 ∧ b ≠ D + 1 + 1 := fun b hb => ⟨Nat.ne_of_lt hb, Nat.ne_of_lt (Nat.lt_succ_of_lt hb), Nat.ne_of_lt (Nat.lt_succ_of_lt (Nat.lt_succ_of_lt hb))⟩
  have hst₁ : St 0 h₁ := W.frame _ _ _ hst fun b _ o e => old b o e
  have off : ∀ a, D ≤ a → a ∉ fp := fun a ha hm => absurd (hfp _ hm) (by rw [hD]; exact Nat.not_lt.mpr ha)
  have offw : ∀ a, D ≤ a → a ∉ wr := fun a ha hm => off a ha (W.sub _ hm)
  have loop : codeAny (model prog w) A (.compLoop (.ListComp (.Name x py) [⟨.Name x px, iter, [c], 0⟩] scope pos) 0 (.ref I) (.ref D) (cellEnv scope cl x (D + 1) (D + 1 + 1) env)) (RR (.ref D) (D + 1)) { s₂ with heap := h₁, toks := s₂.toks } := by
    refine codeAny_compLoop_tests
      (CellInv P p St D wr n s₂) ?_ (n + 1)
      ⟨h₁, _, _, none, 0, [], rfl, hst₁, hacc, hns, hce, .nil, Nat.zero_le _, rfl, fun b o _ e => old b o e⟩ (fun _ => rfl)
    rintro k s' ⟨H, tk, m', v₀, i, ys, rfl, hst', hacc', hn', hc', hK, hi, rfl, hk⟩
    by_cases hlt : i < n
    · refine W.item i _ _ _ hlt hst' fun v h₂ tk₂ hPv hst₂ hk₂ => ?_
      have a1 : D ∉ wr := offw _ (Nat.le_refl _)
      have a2 : D + 1 ∉ wr := offw _ (Nat.le_succ _)
      have a3 : D + 1 + 1 ∉ wr := offw _ (Nat.le_succ_of_le (Nat.le_succ _))
      have acc₂ := hacc'.at fun o e => hk₂ _ o a1 e
      have hn₂ : h₂.Ns (D + 1) m' := hn'.at' fun o e => hk₂ _ o a2 e
      have hc₂ : h₂.IsCell (D + 1 + 1) v₀ := let ⟨o, ho, hd⟩ := hc'; ⟨o, hk₂ _ o a3 ho, hd⟩
      refine wpAny_assign_Name (wpAny_storeName_cell (c := D + 1 + 1) hkind hxk (by simp [cellEnv]) hc₂ fun h₃ hc₃ hs₃ => ?_)
      have up3 : ∀ b o, b ≠ D + 1 + 1 → h₂.get? b = some o → h₃.get? b = some o := fun b o hb e => (hs₃.2 b hb).trans e
      have acc₃ : h₃.PlainList D ys.toArray := acc₂.at fun o e => up3 _ o (Nat.ne_of_lt (Nat.lt_succ_of_lt (Nat.lt_succ_self _))) e
      have hn₃ : h₃.Ns (D + 1) m' := hn₂.at' fun o e => up3 _ o (Nat.ne_of_lt (Nat.lt_succ_self _)) e
      have st₃ : St (i + 1) h₃ := W.frame _ _ _ hst₂ fun b hb o e => up3 b o (fun q => off (D + 1 + 1) (Nat.le_succ_of_le (Nat.le_succ _)) (q ▸ hb)) e
      have k3 : ∀ b o, b ∉ wr → s₂.heap.get? b = some o → h₃.get? b = some o := fun b o hb e => up3 b o (below b (ltD e)).2.2 (hk₂ b o hb (hk b o hb e))
      simp only [List.forIn_cons, List.forIn_nil, if_true]
      refine wpAny_bind (wpAny_bind (wpAny_mono (hq (D + 1) (D + 1 + 1) i v { s₂ with heap := h₃, toks := tk₂ } (by rw [hD]; exact Nat.lt_succ_self _) (Nat.lt_succ_self _) hPv ⟨_, hn₃⟩ hc₃ ⟨_, _, rfl⟩ k3) (fun ok s₄ h₄ => ?_) fun _ _ e => e.elim))
      obtain ⟨hok, h4, tk4, rfl, k4⟩ := h₄
      refine wpAny_pure (wpAny_pure ?_)
      have acc₄ := acc₃.at fun o e => k4 _ o e
      have hn₄ : h4.Ns (D + 1) m' := hn₃.at' fun o e => k4 _ o e
      have hc₄ : h4.IsCell (D + 1 + 1) (some v) := let ⟨o, ho, hd⟩ := hc₃; ⟨o, k4 _ o ho, hd⟩
      have st₄ : St (i + 1) h4 := W.frame _ _ _ st₃ fun b _ o e => k4 b o e
      cases hpv : p v with
      | false =>
        rw [hok, hpv, if_neg (by decide)]
        exact ⟨n + 1 - (i + 1), step_lt hlt, h4, tk4, m', some v, i + 1, ys, rfl, st₄, acc₄, hn₄, hc₄, .no hK hPv hpv, hlt, rfl, fun b o hb e => k4 b o (k3 b o hb e)⟩
      | true =>
        rw [hok, hpv, if_pos rfl]
        refine wpAny_Name (wpAny_loadName_cell (c := D + 1 + 1) hkind hxk (by simp [cellEnv]) hc₄ ?_) hxd
        refine wpAny_list_append_plain (hsz := by
          have := hK.len
          simp; rw [sizeLine_eq]; omega) acc₄ fun h₇ hl₇ hs₇ => ?_
        have up7 : ∀ b o, b ≠ D → h4.get? b = some o → h₇.get? b = some o := fun b o hb e => hs₇.extBut b o hb e
        refine ⟨n + 1 - (i + 1), step_lt hlt, h₇, tk4, m', some v, i + 1, ys ++ [v], rfl, W.frame _ _ _ st₄ fun b hb o e => up7 b o (fun q => off D (Nat.le_refl _) (q ▸ hb)) e, ?_, hn₄.sameBut hs₇ (Nat.succ_ne_self _), hc₄.sameBut hs₇ (Nat.ne_of_gt (Nat.lt_succ_of_lt (Nat.lt_succ_self _))), .yes hK hPv hpv, hlt, rfl, fun b o hb e => up7 b o (below b (ltD e)).1 (k4 b o (k3 b o hb e))⟩
        rw [← List.push_toArray]
        exact hl₇
    · have hin : i = n := Nat.le_antisymm hi (Nat.not_lt.mp hlt)
      subst hin
      refine W.done _ _ _ hst' fun h₂ tk₂ hk₂ => ?_
      have fresh : ∀ a, D ≤ a → s₂.heap.get? a = none := fun a ha => by
        cases e : s₂.heap.get? a with
        | none => rfl
        | some o => exact absurd (ltD e) (Nat.not_lt.mpr ha)
      exact hRR D (D + 1) h₂ tk₂ m' ys (fresh _ (Nat.le_refl _)) (fresh _ (Nat.le_succ _)) (Nat.ne_of_lt (Nat.lt_succ_self _)) (hn'.at' fun o e => hk₂ _ o (offw _ (Nat.le_succ _)) e) (hacc'.at fun o e => hk₂ _ o (offw _ (Nat.le_refl _)) e) hK fun b o hb e => hk₂ b o hb (hk b o hb e)
  exact codeAny_compStart_list loop (W.self 0 _ _ _ hst₁ loop)
/-- what such an assignment asks of its iterator -/
inductive CellAt (prog : Program) (w : World) (A : Around) (env : Env) (scope : Scope) (cl : List (Str × Addr)) (x y : Str) (c : Expr) (p : Value → Bool) (Q : Flow → Shared → Prop) (it : Value) (s₂ : Shared) : Prop
  | mk (I : Addr) (fp wr : List Addr) (n : Nat) (P : Nat → Value → Prop) (St : Nat → Heap → Prop) (m : Str → Option Value) : it = .ref I → Walks prog w A I fp wr n P St → n ≤ 2097152 → St 0 s₂.heap → (∀ b ∈ fp, b < s₂.heap.objs.size) →
      (∀ i h, St i h → ∀ b ∈ wr, ∃ o, h.get? b = some o) → env.locals ∉ wr → s₂.heap.Ns env.locals m → CellTurn prog w A env scope cl x c wr P p s₂ →
      (∀ D h' tk ys, s₂.heap.get? D = none → h'.PlainList D (List.toArray ys) → Kept P p n ys → h'.Ns env.locals (fun z => if z = y then some (.ref D) else m z) → (∀ b o, b ≠ env.locals → b ∉ wr → s₂.heap.get? b = some o → h'.get? b = some o) → Q .next { s₂ with heap := h', toks := tk }) → CellAt prog w A env scope cl x y c p Q it s₂
/-- such a comprehension, stored in a local name of its own line -/
theorem assign_cell {iter c : Expr} {x y : Str} {px py pz : Pos} {scope : Scope} {cl : List (Str × Addr)} {pos spos : Pos} {s : Shared} {Q : Flow → Shared → Prop} (p : Value → Bool)
    (hsw : swapsWith (.ListComp (.Name x pz) [⟨.Name x px, iter, [c], 0⟩] scope pos) (some (.Name y py)) spos.line env = pure true)
    (hclos : closureFor scope env = pure cl) (hcs : ∀ n, cellsFrom n scope.names cl = (x, n) :: cl) (hpc : ∀ h, pushCells h scope.names = h.push { cls := .type "cell", data := .cell none }) (hkind : scope.kind = .function)
    (hnames : ∀ y ∈ scope.names, y.2 = .local → scope.names.lookup y.1 = some .local) (hxk : (relabel scope env).names.lookup x = some .cell) (hxd : (x == ("__debug__" : Str)) = false)
    (hy : env.kindOf y = some .local) (hp : (env.scope.kind == .class || (env.scope.kind == .module && env.locals != env.globals)) = false)
    (h : wpAny (model prog w) A (eval iter env) (fun xv s₁ => wpAny (model prog w) A (pyIter xv) (CellAt prog w A env scope cl x y c p Q) (fun _ _ => False) s₁) (fun _ _ => False) s)
    (hs : ∀ x, foldedSetIterable iter env x = pure x := by intro _; rfl) :
    wpAny (model prog w) A (exec (.Assign [.Name y py] (.ListComp (.Name x pz) [⟨.Name x px, iter, [c], 0⟩] scope pos) spos) env) Q (fun _ _ => False) s := by
  rw [exec_Assign_Name_used _ _ _ _ hsw]
  refine wpAny_bind (wpAny_standAt (wpAny_bind ?_))
  show wpAny _ A (do let _ ← comprehension (.ListComp (.Name x pz) [⟨.Name x px, iter, [c], 0⟩] scope pos) scope env _ (newList []) false (eval iter env) (some (assign (.Name y py) env))) _ _ s
  refine wpAny_bind (wpAny_mono (wpAny_comprehension_free (use := some (assign (.Name y py) env)) (Q := fun _ s' => Q .next s') rfl hs hclos hkind hnames
    (wpAny_mono h (fun xv s₁ h₁ => wpAny_mono h₁ (fun it s₂ h₂ => ?_) fun _ _ e => e) fun _ _ e => e)) (fun _ s' hq => wpAny_pure (wpAny_pure hq)) fun _ _ e => e)
  obtain ⟨I, fp, wr, n, P, St, m, rfl, W, hsz, hst, hfp, hal, hLf, hn, hq, hQ⟩ := h₂
  refine cell_block (RR := fun acc C => compPost (model prog w) A (fun _ _ => False) (some (assign (.Name y py) env)) (fun _ s' => Q .next s') acc C) hcs hpc hkind hxk hxd W hsz hst hfp hal hq ?_
  intro D C h' tk m' ys hD hC hDC hnC hpl hK hk
  have hLC : env.locals ≠ C := by rintro rfl; obtain ⟨o, _, _, ho, _⟩ := hn; rw [hC] at ho; cases ho
  have hLD : env.locals ≠ D := by rintro rfl; obtain ⟨o, _, _, ho, _⟩ := hn; rw [hD] at ho; cases ho
  show wpAny _ A (assign (.Name y py) env (.ref D)) _ _ _
  refine wpAny_assign_Name (wpAny_storeName_local hy (hn.at' fun o e => hk _ o hLf e) (fun h₂ hn₂ hs₂ => ?_) hp)
  refine ⟨m', hnC.sameBut hs₂ (Ne.symm hLC), fun h₃ hs₃ => ?_⟩
  exact hQ D h₃ _ ys hD ((hpl.extBut hs₂.extBut (Ne.symm hLD)).extBut hs₃.extBut hDC) hK (hn₂.sameBut hs₃ hLC) fun b o hbL hbf e =>
    hs₃.extBut b o (by rintro rfl; rw [hC] at e; cases e) (hs₂.extBut b o hbL (hk b o hbf e))
end

open PySem.SeqAt
theorem reads_strs {h : Heap} : ∀ l : List (Str × Tok), ReadsAll h (strValues l) (l.map fun x => PyData.str x.1) []
  | [] => .nil
  | (x, t) :: r => by
    have := ReadsAll.cons (Reads.str (h := h) x t) (reads_strs (h := h) r)
    rw [List.append_nil] at this
    exact this
theorem lay_strs : ∀ l : List Str, (∀ x ∈ l, PyData.strOk x = true) → PyData.canLayAll0 (l.map PyData.str) = true
  | [], _ => by simp [PyData.canLayAll0]
  | x :: r, h => by simp [PyData.canLayAll0, PyData.canLay0, h x (.head _), lay_strs r fun y hy => h y (.tail _ hy)]
theorem depth_strs : ∀ l : List Str, PyData.depthAll (l.map PyData.str) ≤ 1
  | [] => by simp [PyData.depthAll]
  | x :: r => by
    have := depth_strs r
    simp only [List.map_cons, PyData.depthAll, PyData.depth]
    omega
theorem shaped_strs (l : List Str) (h : ∀ x ∈ l, PyData.strOk x = true) : shaped (.list (l.map PyData.str)) = true := by
  have h1 := depth_strs l
  have h2 : PyData.depth (.list (l.map PyData.str)) ≤ 64 := by simp only [PyData.depth]; omega
  show (PyData.canLay0 (.list (l.map PyData.str)) && decide (PyData.depth (.list (l.map PyData.str)) ≤ 64)) = true
  rw [Bool.and_eq_true]
  exact ⟨by simp only [PyData.canLay0]; exact lay_strs l h, decide_eq_true h2⟩
theorem noMix_strs : ∀ a b : List Str, noMixAll (a.map PyData.str) (b.map PyData.str) = true
  | [], [] => by simp [noMixAll]
  | [], _ :: _ => by simp [noMixAll]
  | _ :: _, [] => by simp [noMixAll]
  | _ :: r, _ :: q => by simp [noMixAll, noMix, noMix_strs r q]
theorem same_strs : ∀ a b : List Str, PySem.Spec.sameAll (a.map PyData.str) (b.map PyData.str) = decide (a = b)
  | [], [] => by simp [PySem.Spec.sameAll]
  | [], _ :: _ => by simp [PySem.Spec.sameAll]
  | _ :: _, [] => by simp [PySem.Spec.sameAll]
  | x :: r, y :: q => by
    simp only [List.map_cons, PySem.Spec.sameAll, PySem.Spec.same, same_strs r q]
    by_cases h : x = y <;> simp [h]
section
variable {prog : Program} {w : World} {A : Around} {E : Value → Shared → Prop} {s : Shared} {a b : Addr} {l k : List (Str × Tok)} {Q : Value → Shared → Prop}
theorem reads_strl (ha : s.heap.IsList a (strValues l).toArray) : Reads s.heap (.ref a) (.list ((l.map (·.1)).map PyData.str)) [a] := by
  obtain ⟨o, ho, hc, n, hd⟩ := ha
  refine Reads.list ho hc hd ?_
  rw [List.map_map]
  exact reads_strs l
theorem eq_strs (ha : s.heap.IsList a (strValues l).toArray) (hb : s.heap.IsList b (strValues k).toArray) (oa : ∀ x ∈ l.map (·.1), PyData.strOk x = true) (ob : ∀ x ∈ k.map (·.1), PyData.strOk x = true) (hu : A.units + 64 < cLine)
    (h : Q (.bool (decide (l.map (·.1) = k.map (·.1)))) s) : wpAny (model prog w) A (compareOp .Eq (.ref a) (.ref b)) Q E s :=
  eq_dataH_same (reads_strl ha) (reads_strl hb) (shaped_strs _ oa) (shaped_strs _ ob) hu (by simp only [noMix]; exact noMix_strs _ _) (by simp only [PySem.Spec.same]; rw [same_strs]; exact h)
theorem ne_strs (ha : s.heap.IsList a (strValues l).toArray) (hb : s.heap.IsList b (strValues k).toArray) (oa : ∀ x ∈ l.map (·.1), PyData.strOk x = true) (ob : ∀ x ∈ k.map (·.1), PyData.strOk x = true) (hu : A.units + 64 < cLine)
    (h : Q (.bool (!decide (l.map (·.1) = k.map (·.1)))) s) : wpAny (model prog w) A (compareOp .NotEq (.ref a) (.ref b)) Q E s :=
  ne_dataH_same (reads_strl ha) (reads_strl hb) (shaped_strs _ oa) (shaped_strs _ ob) hu (by simp only [noMix]; exact noMix_strs _ _) (by simp only [PySem.Spec.same]; rw [same_strs]; exact h)
/-- a list against the empty list -/
theorem eq_empty {vs : List Value} (ha : s.heap.IsList a vs.toArray) (hb : s.heap.IsList b #[]) (hu : A.units + 64 < cLine) (h : Q (.bool (decide (vs = []))) s) : wpAny (model prog w) A (compareOp .Eq (.ref a) (.ref b)) Q E s := by
  cases vs with
  | nil =>
    refine eq_listAt (e := fun _ => true) ha hb (by simp) (Nat.lt_of_le_of_lt (Nat.le_add_right _ _) hu) (fun j h1 _ => ?_) (by simpa using h)
    simp at h1
  | cons x r => exact eq_list_lengthsAt ha hb (by simp) (Nat.lt_of_le_of_lt (Nat.le_add_right _ _) hu) (by simpa using h)
end

theorem pick_upto (vs : List Value) (k : Nat) : slicePick vs.toArray none (some (k : Int)) none = (vs.take k).toArray := by
  have e : sliceBounds none (some (k : Int)) none vs.toArray.size = (((0 : Nat) : Int), ((min k vs.length : Nat) : Int), 1) := by
    have h1 : ¬ ((k : Int) < 0) := by omega
    simp only [sliceBounds, Option.getD_none, h1, if_false, show (1 : Int) > 0 by decide, if_true, List.size_toArray]
    congr 1
    congr 1
    omega
  rw [kmk_pick_nat vs.toArray e]
  congr 1
  rw [Nat.sub_zero, List.drop_zero]
  exact kmk_take_min vs k
theorem take_strs (l : List (Str × Tok)) (k : Nat) : (strValues l).take k = strValues (l.take k) := by unfold strValues; rw [List.map_take]
section
variable {prog : Program} {w : World} {A : Around} {s : Shared} {env : Env}
/-- «a[:k]» of a list of texts -/
theorem slice_upto {E : Value → Shared → Prop} {value kE : Expr} {p pos : Pos} {a : Addr} {l : List (Str × Tok)} {i : Nat} {t : Tok} {Q : Value → Shared → Prop} (hv : ∀ Q' : Value → Shared → Prop, Q' (.ref a) s → wpAny (model prog w) A (eval value env) Q' E s) (hk : ∀ Q' : Value → Shared → Prop, Q' (.int (i : Int) t) s → wpAny (model prog w) A (eval kE env) Q' E s)
    (ha : s.heap.IsList a (strValues l).toArray) (hz : l.length ≤ 1000) (ht : ∀ o r, letTemporaryGo value o r = pure ())
    (h : ∀ D h', h'.IsList D (strValues (l.take i)).toArray → Keeps s.heap h' → Q (.ref D) { s with heap := h' }) : wpAny (model prog w) A (eval (.Subscript value (.Slice none (some kE) none p) pos) env) Q E s := by
  refine wpAny_Subscript_list_slice (hv _ ?_) ht
  rw [evalPart_none]
  refine wpAny_pure ?_
  show wpAny (model prog w) A (evalPart (some kE) env) _ E s
  have hp : wpAny (model prog w) A (evalPart (some kE) env) (fun vu s₃ => vu = .int (i : Int) t ∧ s₃ = s) E s := by
    unfold evalPart
    exact hk _ ⟨rfl, rfl⟩
  refine wpAny_mono hp (fun vu s₃ h₃ => ?_) fun _ _ e => e
  obtain ⟨rfl, rfl⟩ := h₃
  refine ⟨a, (strValues l).toArray, none, some (i : Int), rfl, ha, ?_, .none, .int _ _, ?_⟩
  · unfold strValues; simp; rw [sizeLine_eq]; omega
  · rw [pick_upto, take_strs]
    exact h _ _ ⟨_, by rw [← Heap.size_push]; exact Heap.get?_push_size _ rfl, rfl, _, rfl⟩ fun b o e => Heap.get?_push_of_some _ (Heap.get?_push_of_some _ e)
/-- the rows that part from the first within its first texts -/
noncomputable def partP (rs : List (Addr × List (Str × Tok))) (fs : List Str) (i : Nat) (v : Value) : Bool := match v with
  | .ref a => match rs.find? (fun r => r.1 == a) with
    | some r => !decide ((r.2.map (·.1)).take i = fs.take i)
    | none => false
  | _ => false
theorem partP_at {h : Heap} {rs : List (Addr × List (Str × Tok))} {fs : List Str} {i : Nat} {r : Addr × List (Str × Tok)} (hr : r ∈ rs) (hrs : ∀ r ∈ rs, h.IsList r.1 (strValues r.2).toArray) : partP rs fs i (.ref r.1) = !decide ((r.2.map (·.1)).take i = fs.take i) := by
  unfold partP
  dsimp only
  cases hf : rs.find? (fun x => x.1 == r.1) with
  | none =>
    have := List.find?_eq_none.mp hf r hr
    simp at this
  | some r' =>
    have e1 : r'.1 = r.1 := by
      have q := List.find?_some hf
      simpa using q
    obtain ⟨o, ho, _, n, hd⟩ := hrs r hr
    obtain ⟨o', ho', _, n', hd'⟩ := hrs r' (List.mem_of_find?_eq_some hf)
    rw [e1, ho] at ho'
    cases ho'
    rw [hd] at hd'
    injection hd' with q _
    have q2 : strValues r.2 = strValues r'.2 := by simpa using q
    have q3 : r.2.map (·.1) = r'.2.map (·.1) := by
      have := congrArg (List.map fun v => match v with | .str x _ => x | _ => Str.empty) q2
      unfold strValues at this
      rw [List.map_map, List.map_map] at this
      exact this
    dsimp only
    rw [q3]
theorem inner_shared {scope : Scope} {cl : List (Str × Addr)} {rowsE firstE kE kE2 : Expr} {x : Str} {p1 p2 p3 p4 p5 p6 p7 p8 pos : Pos} {R₀ a₀ : Addr} {rs : List (Addr × List (Str × Tok))} {fl : List (Str × Tok)} {i : Nat} {t : Tok} {Q : Value → Shared → Prop}
    (hh : A.handled = none) (hclos : closureFor scope env = pure cl) (hcell : ∀ y ∈ scope.names, y.2 ≠ .cell) (hkind : scope.kind = .function)
    (hnames : ∀ y ∈ scope.names, y.2 = .local → scope.names.lookup y.1 = some .local) (hx : scope.names.lookup x = some .local) (hxd : (x == ("__debug__" : Str)) = false) (hu : A.units + 64 < cLine)
    (hR : s.heap.IsList R₀ (rs.map fun r => Value.ref r.1).toArray) (hrs : ∀ r ∈ rs, s.heap.IsList r.1 (strValues r.2).toArray) (hf : s.heap.IsList a₀ (strValues fl).toArray) (hl : rs.length ≤ 100) (hb : ∀ r ∈ rs, r.2.length ≤ 1000) (hbf : fl.length ≤ 1000)
    (ho : ∀ r ∈ rs, ∀ y ∈ r.2.map (·.1), PyData.strOk y = true) (hof : ∀ y ∈ fl.map (·.1), PyData.strOk y = true)
    (hrows : ∀ Q' : Value → Shared → Prop, Q' (.ref R₀) s → wpAny (model prog w) A (eval rowsE env) Q' (fun _ _ => False) s)
    (hfirst : ∀ C (s₄ : Shared) (Q' : Value → Shared → Prop), PySem.Keeps s s₄ → Q' (.ref a₀) s₄ → wpAny (model prog w) A (eval firstE (compEnvC scope cl C env)) Q' (fun _ _ => False) s₄)
    (hkk2 : ∀ C (s₄ : Shared) (Q' : Value → Shared → Prop), PySem.Keeps s s₄ → Q' (.int (i : Int) t) s₄ → wpAny (model prog w) A (eval kE2 (compEnvC scope cl C env)) Q' (fun _ _ => False) s₄)
    (hkk : ∀ C (s₄ : Shared) (Q' : Value → Shared → Prop), PySem.Keeps s s₄ → Q' (.int (i : Int) t) s₄ → wpAny (model prog w) A (eval kE (compEnvC scope cl C env)) Q' (fun _ _ => False) s₄) (hft : ∀ o r, letTemporaryGo firstE o r = pure ()) (hs : ∀ x, foldedSetIterable rowsE env x = pure x)
    (hQ : ∀ D h' tk ys, h'.IsList D (List.toArray ys) → (ys = [] ↔ ∀ r ∈ rs, (r.2.map (·.1)).take i = (fl.map (·.1)).take i) → Keeps s.heap h' → Q (.ref D) { s with heap := h', toks := tk }) :
    wpAny (model prog w) A (eval (.ListComp (.Name x p1) [⟨.Name x p2, rowsE, [.Compare (.Subscript (.Name x p3) (.Slice none (some kE) none p4) p5) [.NotEq] [.Subscript firstE (.Slice none (some kE2) none p6) p7] p8], 0⟩] scope pos) env) Q (fun _ _ => False) s := by
  refine comp_list (partP rs (fl.map (·.1)) i) (fun v y os => y = v ∧ os = []) hh hclos hcell hkind hnames hx hrows hR (by rw [List.length_map]; omega) ?_ ?_ ?_ hs
  · intro C j v s₄ m₄ hv hC hn hm kp
    rw [List.getElem?_map] at hv
    obtain ⟨r, hr, rfl⟩ := Option.map_eq_some_iff.mp hv
    have hrm := List.mem_of_getElem? hr
    obtain ⟨h4, tk4, rfl, k4⟩ := kp
    simp only [List.forIn_cons, List.forIn_nil, if_true]
    refine wpAny_bind (wpAny_bind (wpAny_isTrue_Compare1 ?_))
    refine slice_upto (a := r.1) (l := r.2) (fun Q' hq => gname_local (by simp [compEnvC, relabel, hkind]) (lookup_relabel_local hx) hn hm hq hxd) (fun Q' hq => hkk C _ Q' ⟨h4, tk4, rfl, k4⟩ hq) ((hrs r hrm).at fun o e => k4 _ o e) (hb r hrm) (fun _ _ => rfl) ?_
    intro D1 h5 hD1 k5
    refine slice_upto (a := a₀) (l := fl) (fun Q' hq => hfirst C _ Q' ⟨h5, tk4, rfl, fun b o e => k5 b o (k4 b o e)⟩ hq) (fun Q' hq => hkk2 C _ Q' ⟨h5, tk4, rfl, fun b o e => k5 b o (k4 b o e)⟩ hq) (hf.at fun o e => k5 _ o (k4 _ o e)) hbf hft ?_
    intro D2 h6 hD2 k6
    refine ne_strs (hD1.at fun o e => k6 _ o e) hD2 (fun y hy => ho r hrm y ?_) (fun y hy => hof y ?_) hu ?_
    · rw [List.map_take] at hy; exact List.mem_of_mem_take hy
    · rw [List.map_take] at hy; exact List.mem_of_mem_take hy
    · refine wpAny_truthy_bool ?_
      refine wpAny_pure (wpAny_pure ⟨?_, h6, tk4, rfl, fun b o e => k6 b o (k5 b o e)⟩)
      rw [partP_at hrm hrs, List.map_take, List.map_take]
  · intro C j v s₄ m₄ hv hC hn hm kp hp
    refine gname_local (by simp [compEnvC, relabel, hkind]) (lookup_relabel_local hx) hn hm ?_ hxd
    exact ⟨[], ⟨rfl, rfl⟩, ⟨s₄.heap, s₄.toks, rfl, fun _ _ e => e⟩, fun _ hq => nomatch hq⟩
  · intro D h' tk outs hD hpl hP hO hk
    refine hQ D h' tk (outY outs) hpl.isList ?_ hk
    have gen : ∀ (vs : List Value) (os : List Out), Paired (OutIs (partP rs (fl.map (·.1)) i) fun v y os => y = v ∧ os = []) vs os → (outY os = [] ↔ ∀ v ∈ vs, partP rs (fl.map (·.1)) i v = false) := by
      intro vs os h
      induction h with
      | nil => simp [outY]
      | cons h _ ih =>
        rcases h with ⟨ht, y, o, rfl, _⟩ | ⟨hf, rfl⟩
        · simp [outY, ht]
        · simp [outY, hf, ih]
    rw [gen _ _ hP]
    constructor
    · intro h r hr
      have := h (.ref r.1) (List.mem_map.mpr ⟨r, hr, rfl⟩)
      rw [partP_at hr hrs] at this
      simpa using this
    · intro h v hv
      obtain ⟨r, hr, rfl⟩ := List.mem_map.mp hv
      rw [partP_at hr hrs, h r hr]
      simp
end

/-- the last of the kept numbers is the largest that passes -/
theorem kept_last {P : Nat → Value → Prop} {p : Value → Bool} (q : Nat → Bool) (hP : ∀ (i : Nat) (v : Value), P i v → ∃ t, v = .int (0 + (i : Int) * 1) t) (hp : ∀ (i : Nat) (t : Tok), p (.int (0 + (i : Int) * 1) t) = q i) (h0 : q 0 = true) {n : Nat} {ys : List Value} (h : Kept P p n ys) : 0 < n →
    ∃ K t ys', K < n ∧ q K = true ∧ (∀ j, K < j → j < n → q j = false) ∧ ys = ys' ++ [.int (K : Int) t] := by
  induction h with
  | nil => intro h; omega
  | @yes i ys v hk hv hpv ih =>
    intro _
    obtain ⟨t, rfl⟩ := hP _ _ hv
    have ei : (0 : Int) + (i : Int) * 1 = (i : Int) := by omega
    refine ⟨i, t, ys, by omega, ?_, fun j h1 h2 => by omega, by rw [ei]⟩
    rw [← hp i t]; exact hpv
  | @no i ys v hk hv hpv ih =>
    intro _
    obtain ⟨t, rfl⟩ := hP _ _ hv
    have hq : q i = false := by rw [← hp i t]; exact hpv
    by_cases hi : 0 < i
    · obtain ⟨K, t', ys', h1, h2, h3, h4⟩ := ih hi
      refine ⟨K, t', ys', by omega, h2, fun j a b => ?_, h4⟩
      by_cases e : j = i
      · subst e; exact hq
      · exact h3 j a (by omega)
    · have : i = 0 := by omega
      subst this
      rw [h0] at hq; cases hq

section
variable {prog : Program} {w : World} {A : Around} {s : Shared} {env : Env}
/-- «a[:k]» of a list of texts, where the end is reckoned -/
theorem slice_uptoT {E : Value → Shared → Prop} {value kE : Expr} {p pos : Pos} {a : Addr} {l : List (Str × Tok)} {i : Nat} {t : Tok} {Q : Value → Shared → Prop} (hv : ∀ Q' : Value → Shared → Prop, Q' (.ref a) s → wpAny (model prog w) A (eval value env) Q' E s) (hk : ∀ Q' : Value → Shared → Prop, (∀ tk, Q' (.int (i : Int) t) { s with toks := tk }) → wpAny (model prog w) A (eval kE env) Q' E s)
    (ha : s.heap.IsList a (strValues l).toArray) (hz : l.length ≤ 1000) (ht : ∀ o r, letTemporaryGo value o r = pure ())
    (h : ∀ D h' tk, s.heap.get? D = none → h'.get? D = some (W.listOf (strValues (l.take i)).toArray 0) → Keeps s.heap h' → Q (.ref D) { s with heap := h', toks := tk }) : wpAny (model prog w) A (eval (.Subscript value (.Slice none (some kE) none p) pos) env) Q E s := by
  refine wpAny_Subscript_list_slice (hv _ ?_) ht
  rw [evalPart_none]
  refine wpAny_pure ?_
  show wpAny (model prog w) A (evalPart (some kE) env) _ E s
  have hp : wpAny (model prog w) A (evalPart (some kE) env) (fun vu s₃ => vu = .int (i : Int) t ∧ ∃ tk, s₃ = { s with toks := tk }) E s := by
    unfold evalPart
    exact hk _ fun tk => ⟨rfl, tk, rfl⟩
  refine wpAny_mono hp (fun vu s₃ h₃ => ?_) fun _ _ e => e
  obtain ⟨rfl, tk, rfl⟩ := h₃
  refine ⟨a, (strValues l).toArray, none, some (i : Int), rfl, ha, ?_, .none, .int _ _, ?_⟩
  · unfold strValues; simp; rw [sizeLine_eq]; omega
  · rw [pick_upto, take_strs]
    refine h _ _ _ ?_ (by rw [← Heap.size_push]; exact Heap.get?_push_size _ rfl) fun b o e => Heap.get?_push_of_some _ (Heap.get?_push_of_some _ e)
    cases e : s.heap.get? _ with
    | none => rfl
    | some o => exact absurd (Heap.lt_size e) (by simp)
end
section
local macro_rules | `(tactic| walk_at "subscriptTail") => `(tactic| (k_here; (with_reducible show wpAny _ _ (subscriptTail _ _ (Value.ref _) (Value.int _ _)) _ _ _); k_dflt (refine' item_isl (k := 0) (by k_asm) (by assumption) (by assumption) (by assumption) ?_; k_whole)))
local macro_rules | `(tactic| k_enter) => `(tactic| (refine' enterC (by k_asm) (by exact TopRead.nolimit (by k_asm)) (by k_is) (by k_is) (by k_room) (by exact BindsTo.of_eq rfl) (by (intro n x hx; cases hx with | head => exact .inr ⟨rfl, rfl⟩ | tail _ hx => cases hx)) (by decide +kernel) ?_ (by exact rfl) (by exact rfl) (by exact rfl); k_whole; intro L' h' tk' cells' F' N' Y'; k_cells Y'; (try dsimp only)))
local macro_rules | `(tactic| walk_at "pyIter ref") => `(tactic| (k_here; refine Hold.out ?_))
local macro_rules | `(tactic| walk_at "call builtin:len") => `(tactic| (k_here; (with_reducible show wpAny _ _ (call (Value.builtin "len") [Value.ref _]) _ _ _); k_dflt (refine' len_isl (by k_asm) (by assumption) (by assumption) (by assumption) ?_; k_whole)))
local macro_rules | `(tactic| walk_at "eval ListComp") => `(tactic| (k_here; refine Hold.out ?_))
local macro_rules | `(tactic| walk_at "eval Subscript") => `(tactic| (k_here; (with_reducible show wpAny _ _ (eval (PySem.Expr.Subscript _ (PySem.Expr.Slice _ _ _ _) _) _) _ _ _); refine Hold.out ?_))
local macro_rules | `(tactic| walk_at "subscriptTail") => `(tactic| (k_here; (with_reducible show wpAny _ _ (subscriptTail _ _ (Value.ref _) (Value.int (-1) _)) _ _ _); k_dflt (refine' last_snoc (by k_asm) (by k_mem) ?_; k_whole)))
/-- what _law_shared tells of the rows -/
noncomputable abbrev IsShared (rs : List (Addr × List (Str × Tok))) (K : Nat) : Prop := K ≤ (rs.headD default).2.length ∧ (∀ x ∈ rs, (x.2.map (·.1)).take K = ((rs.headD default).2.map (·.1)).take K) ∧
      ∀ j, K < j → j ≤ (rs.headD default).2.length → ¬ ∀ x ∈ rs, (x.2.map (·.1)).take j = ((rs.headD default).2.map (·.1)).take j
inductive ShrR (rs : List (Addr × List (Str × Tok))) (h : Heap) (r : Value) (h' : Heap) : Prop
  | mk (K : Nat) (D : Addr) : r = .ref D → h'.get? D = some (W.listOf (strValues (((rs.headD default).2).take K)).toArray 0) → h.get? D = none → IsShared rs K → ShrR rs h r h'
set_option maxHeartbeats 1000000 in
theorem shared_c (w : World) (R₀ : Addr) (rs : List (Addr × List (Str × Tok))) (hne : rs ≠ []) (hl : rs.length ≤ 100) (hb : ∀ r ∈ rs, r.2.length ≤ 100 ∧ ∀ x ∈ r.2, x.1.length ≤ 100 ∧ PyData.strOk x.1 = true) :
    PureC w 263 [.ref R₀] 890 3900 (fun h => h.IsList R₀ (rs.map fun r => Value.ref r.1).toArray ∧ ∀ r ∈ rs, h.IsList r.1 (strValues r.2).toArray)
    (ShrR rs) := by
  unfold PureC PG LW VW
  k_fill
  intro outer s mg mb Q E X T hpre hret
  obtain ⟨hR, hrs⟩ := hpre
  obtain ⟨r0, rt, rfl⟩ : ∃ a b, rs = a :: b := by cases rs with | nil => exact absurd rfl hne | cons a b => exact ⟨a, b, rfl⟩
  have hv0 : ((r0 :: rt).map fun r => Value.ref r.1)[0]? = some (.ref r0.1) := rfl
  have hz0 : ((r0 :: rt).map fun r => Value.ref r.1).length ≤ 2097152 := by rw [List.length_map]; exact Nat.le_trans hl (by decide)
  have hfl := hrs r0 (.head _)
  have hlf : (strValues r0.2).length = r0.2.length := by unfold strValues; rw [List.length_map]
  have hzf : (strValues r0.2).length ≤ 2097152 := by rw [hlf]; exact Nat.le_trans (hb r0 (.head _)).1 (by decide)
  refine wpAny_call ?_
  k_dflt k_enter
  k_steps
  rename Fr _ _ _ _ => F
  rename News _ _ _ _ => N
  refine assign_cell (fun v => match v with | .int i _ => decide (∀ r ∈ r0 :: rt, (r.2.map (·.1)).take i.toNat = (r0.2.map (·.1)).take i.toNat) | _ => false) rfl rfl (fun _ => rfl) (fun _ => rfl) rfl (by decide) rfl (by decide) rfl rfl ?_
  k_steps
  with_reducible show Hold _
  rename Fr _ _ _ _ => F1
  rename News _ _ _ _ => N1
  have hrg := (by assumption : IsRange _ _ _ _ _ _ _ _)
  have hll := (hb r0 (.head _)).1
  refine wpAny_pyIter_range hrg (small_one (by decide) (by decide) (by omega) (by omega)) ?_
  have hsz : Builtin.Range.rangeSize 0 ((r0.2.length : Int) + 1) 1 = ((r0.2.length + 1 : Nat) : Int) := by rw [rangeSize_nat]; omega
  have hIg : ∀ b o, s.heap.get? b = some o → b ∉ [_] := fun b o e hm => absurd (Heap.lt_size (F1.keep b o e)) ((List.mem_singleton.mp hm) ▸ Nat.lt_irrefl _)
  refine ⟨_, [_], [_], r0.2.length + 1, _, _, _, rfl, Walks.range rfl _ 0 1 (r0.2.length + 1), by omega, ?st, ?fp, ?al, ?hL, (F1.push _).ns, ?turn, ?done⟩
  case st =>
    show _ = some _
    rw [Heap.get?_push_size _ rfl, hsz]
    simp [rawInt]
  case fp =>
    intro b hb
    rw [List.mem_singleton.mp hb]
    rw [Heap.size_push]; exact Nat.lt_succ_self _
  case al =>
    intro i h hi b hb
    rw [List.mem_singleton.mp hb]
    exact ⟨_, hi⟩
  case hL =>
    intro hm
    exact absurd F1.ns.lt ((List.mem_singleton.mp hm) ▸ Nat.lt_irrefl _)
  case turn =>
    rintro C Ck i v s₃ hC hCk ⟨t, rfl⟩ hn hcell hs₃ hk3
    have ei : (0 : Int) + (i : Int) * 1 = (i : Int) := zero_step i
    have base3 : ∀ b o, s.heap.get? b = some o → s₃.heap.get? b = some o := fun b o e => hk3 b o (hIg b o e) (Heap.get?_push_of_some _ (F1.keep b o e))
    have new3 : ∀ p : Addr × Obj, p ∈ _ → s₃.heap.get? p.1 = some p.2 := fun p hp => hk3 _ _ (fun hm => absurd (Heap.lt_size (N1 p hp).1) ((List.mem_singleton.mp hm) ▸ Nat.lt_irrefl _)) (Heap.get?_push_of_some _ (N1 p hp).1)
    have c1 := new3 _ (.head _)
    have c2 := new3 _ (.tail _ (.head _))
    refine wpAny_isTrue_Compare1 ?_
    refine' inner_shared (R₀ := R₀) (a₀ := r0.1) (rs := r0 :: rt) (fl := r0.2) (i := i) (t := t) ?i1 ?i2 ?i3 ?i4 ?i5 ?i6 ?i7 ?i8 ?i9 ?i10 ?i11 hl ?i12 ?i13 ?ok1 ?ok2 ?rows ?first ?kk2 ?kk ?i14 ?i15 ?go
    case i1 => rfl
    case i2 => rfl
    case i3 => decide
    case i4 => rfl
    case i5 => decide
    case i6 => rfl
    case i7 => decide
    case i8 => exact Nat.le_of_ble_eq_true rfl
    case i9 => exact hR.at fun o e => base3 _ o e
    case i10 => exact fun r hr => (hrs r hr).at fun o e => base3 _ o e
    case i11 => exact hfl.at fun o e => base3 _ o e
    case i12 => exact fun r hr => Nat.le_trans (hb r hr).1 (by decide)
    case i13 => exact Nat.le_trans (hb r0 (.head _)).1 (by decide)
    case i14 => exact fun _ _ => rfl
    case i15 => exact fun _ => rfl
    case ok1 =>
      intro r hr y hy
      obtain ⟨z, hz, rfl⟩ := List.mem_map.mp hy
      exact ((hb r hr).2 z hz).2
    case ok2 =>
      intro y hy
      obtain ⟨z, hz, rfl⟩ := List.mem_map.mp hy
      exact ((hb r0 (.head _)).2 z hz).2
    case rows => exact fun Q' hq => gname_cell rfl rfl rfl ⟨_, c2, by assumption⟩ hq (by decide)
    case first =>
      rintro C2 s4 Q' ⟨h4, tk4, rfl, k4⟩ hq
      exact gname_cell rfl rfl rfl ⟨_, k4 _ _ c1, by assumption⟩ hq (by decide)
    case kk2 =>
      rintro C2 s4 Q' ⟨h4, tk4, rfl, k4⟩ hq
      obtain ⟨oc, ho, hd⟩ := hcell
      refine gname_cell rfl rfl rfl ⟨oc, k4 _ _ ho, ?_⟩ hq (by decide)
      rw [hd, ei]
    case kk =>
      rintro C2 s4 Q' ⟨h4, tk4, rfl, k4⟩ hq
      obtain ⟨oc, ho, hd⟩ := hcell
      refine gname_cell rfl rfl rfl ⟨oc, k4 _ _ ho, ?_⟩ hq (by decide)
      rw [hd, ei]
    case go =>
      intro D h4 tk4 ys hD hys k4
      refine wpAny_List (Calls.spliced_nil ⟨Nat.zero_le _, ?_⟩)
      refine eq_empty (vs := ys) (hD.at fun o e => Heap.get?_push_of_some _ e) ⟨_, Heap.get?_push_size _ rfl, rfl, _, rfl⟩ (Nat.le_of_ble_eq_true rfl) ?_
      refine wpAny_truthy_bool ?_
      refine ⟨?_, _, _, rfl, fun b o e => Heap.get?_push_of_some _ (k4 b o e)⟩
      dsimp only
      rw [ei]
      exact decide_eq_decide.mpr hys
  case done =>
    intro D h' tk ys hD hpl hK hns hk
    obtain ⟨K, tK, ys', hKl, hKq, hKm, rfl⟩ := kept_last (fun j => decide (∀ r ∈ r0 :: rt, (r.2.map (·.1)).take j = (r0.2.map (·.1)).take j)) (fun _ _ h => h) (fun j t => by
      have ej : (0 : Int) + (j : Int) * 1 = (j : Int) := zero_step j
      dsimp only
      rw [ej]
      rfl) (by simp) hK (Nat.succ_pos _)
    obtain ⟨kD, hDo⟩ := hpl
    have hkb : ∀ b o, s.heap.get? b = some o → h'.get? b = some o := fun b o e => hk b o (fun q => by
      have q2 := F1.above
      exact absurd (Heap.lt_size e) (Nat.not_lt.mpr (q ▸ q2))) (hIg b o e) (Heap.get?_push_of_some _ (F1.keep b o e))
    have F2 : Fr s.heap _ h' _ := ⟨hns, hkb, F1.above⟩
    have N2 := N1
    replace N2 : News s.heap _ h' ((D, W.listOf (ys' ++ [Value.int (K : Int) tK]).toArray kD) :: _) := fun p hp => by
      rcases List.mem_cons.mp hp with rfl | hp
      · refine ⟨hDo, fun q => ?_, ?_⟩
        · obtain ⟨oL, _, _, hoL, _⟩ := F1.ns
          have := Heap.get?_push_of_some { cls := .type "range_iterator", data := .fields #[rawInt 0, rawInt (Builtin.Range.rangeSize 0 ((r0.2.length : Int) + 1) 1), rawInt 1] } hoL
          rw [show D = _ from q] at hD
          rw [hD] at this; cases this
        · cases e : s.heap.get? D with
          | none => rfl
          | some o =>
            have := Heap.get?_push_of_some { cls := .type "range_iterator", data := .fields #[rawInt 0, rawInt (Builtin.Range.rangeSize 0 ((r0.2.length : Int) + 1) 1), rawInt 1] } (F1.keep _ _ e)
            rw [hD] at this; cases this
      · have z := N1 p hp
        exact ⟨hk _ _ z.2.1 (fun hm => absurd (Heap.lt_size z.1) ((List.mem_singleton.mp hm) ▸ Nat.lt_irrefl _)) (Heap.get?_push_of_some _ z.1), z.2⟩
    clear F1 N1
    have hzy : ys'.length ≤ 2097152 := by
      have := hK.len
      rw [List.length_append, List.length_singleton] at this
      omega
    k_steps
    with_reducible show Hold _
    refine slice_uptoT (a := r0.1) (l := r0.2) (i := K) (t := tK) (fun Q' hq => gname_cell rfl rfl rfl ⟨_, (N2 _ (.tail _ (.head _))).1, by assumption⟩ hq (by decide)) ?hk (hfl.at fun o e => F2.keep _ o e) (by omega) (fun _ _ => rfl) ?hq
    case hk =>
      intro Q' hq
      clear hK hKm hKq hrs hb
      k_steps
      exact hq _
    case hq =>
      intro D2 h2 tk2 hn2 hD2 k2
      have hnn : s.heap.get? D2 = none := by
        cases e : s.heap.get? D2 with
        | none => rfl
        | some o => exact absurd ((hkb _ _ e).symm.trans hn2) (fun q => nomatch q)
      exact hret _ _ _ ⟨K, D2, rfl, hD2, hnn, Nat.le_of_lt_succ hKl, of_decide_eq_true hKq, fun j h1 h2 => of_decide_eq_false (hKm j h1 (Nat.lt_succ_of_le h2))⟩ fun b o e => k2 b o (hkb b o e)
end

theorem mro_map : mroOf (.type "map") = pure [.type "map", .type "object"] := by rw [mroOf_type]; kernel_rfl
theorem lookup_map_new : typeLookup (.type "map") "__new__" = pure (some (.builtin "map.__new__")) := by rw [typeLookup_type, builtinLookup_eq_fast]; kernel_rfl
theorem slot_map_init : Slot "map" "__init__" "object.__init__" := .of (owner := "object") (n := "__init__") (by rw [typeLookup_type, builtinLookup_eq_fast]; kernel_rfl) (by decide +kernel) (by decide +kernel) (by decide +kernel) (by first | exact .inl (by decide +kernel) | exact .inr (by decide +kernel)) (by rw [isSubtype_type]; kernel_rfl)
theorem slot_map_iter : Slot "map" "__iter__" "map.__iter__" := .of (owner := "map") (n := "__iter__") (by rw [typeLookup_type, builtinLookup_eq_fast]; kernel_rfl) (by decide +kernel) (by decide +kernel) (by decide +kernel) (by first | exact .inl (by decide +kernel) | exact .inr (by decide +kernel)) (by rw [isSubtype_type]; kernel_rfl)
theorem slot_map_next : Slot "map" "__next__" "map.__next__" := .of (owner := "map") (n := "__next__") (by rw [typeLookup_type, builtinLookup_eq_fast]; kernel_rfl) (by decide +kernel) (by decide +kernel) (by decide +kernel) (by first | exact .inl (by decide +kernel) | exact .inr (by decide +kernel)) (by rw [isSubtype_type]; kernel_rfl)
theorem entry_map_iter : entryFor table "map.__iter__" = some Builtin.«dict_keyiterator.__iter__» :=
  entryFor_alias (id' := "dict_keyiterator.__iter__") (by kernel_rfl) (by first | rfl | decide +kernel | (unfold String.splitOn; simp +decide [String.splitOnAux])) (by decide +kernel) (by kernel_rfl)
theorem entry_map_next : entryFor table "map.__next__" = some Builtin.«map.__next__» := entryFor_of_tree (by kernel_rfl)
theorem entry_map_new : entryFor table "map.__new__" = some Builtin.«map.__new__» := entryFor_of_tree (by kernel_rfl)
theorem owner_map : Manifest.owners.lookup (String.ofList ['p', 'a', 'm'].reverse) = some Manifest.sig_map := by kernel_rfl
theorem args_map_next (a : Value) : argsOk "map.__next__" ⟨[a], []⟩ := by
  unfold argsOk; rw [signature?_of (id := "map.__next__") (n := ['_', '_', 't', 'x', 'e', 'n', '_', '_']) (o := ['p', 'a', 'm']) (by kernel_rfl) owner_map]; kernel_rfl
theorem args_map_iter (a : Value) : argsOk "map.__iter__" ⟨[a], []⟩ := by
  unfold argsOk; rw [signature?_of (id := "map.__iter__") (n := ['_', '_', 'r', 'e', 't', 'i', '_', '_']) (o := ['p', 'a', 'm']) (by kernel_rfl) owner_map]; kernel_rfl
theorem sub_map : isSubtype (.type "map") (.type "map") = pure true := by rw [isSubtype_type]; kernel_rfl
theorem called_map : TypeCalled "map" "map.__new__" "object.__init__" :=
  ⟨by decide +kernel, by decide +kernel, ⟨_, _, mro_map⟩, madeBy_type mro_map lookup_map_new (by decide +kernel), by decide +kernel, sub_map, slot_map_init⟩
theorem typeCall_map (a b : Value) : checkTypeCall "map" ⟨[a, b], []⟩ = pure () := by kernel_rfl
theorem newCall_map (a b : Value) : checkBuiltinCall "map.__new__" ⟨[.type "map", a, b], []⟩ = pure () := by kernel_rfl
theorem map_no_len : typeLookup (.type "map") "__len__" = pure none := by rw [typeLookup_type, builtinLookup_eq_fast]; kernel_rfl
theorem map_no_hint : typeLookup (.type "map") "__length_hint__" = pure none := by rw [typeLookup_type, builtinLookup_eq_fast]; kernel_rfl
noncomputable abbrev mapO (T : Addr) (f : Value) : Obj := { cls := .type "map", dict := none, data := .fields #[.ref T, f], slots := #[] }
noncomputable abbrev tup1 (I : Addr) : Obj := { cls := .type "tuple", data := .seq #[.ref I] }
section
variable {prog : Program} {w : World} {A : Around} {E : Value → Shared → Prop} {s : Shared} {M T I l : Addr} {f v r : Value} {i : Nat} {xs : Array Value}
theorem map_next {Q : Value → Shared → Prop} (hM : s.heap.get? M = some (mapO T f)) (hT : s.heap.get? T = some (tup1 I)) (hit : s.heap.IsListIter I l i) (hl : s.heap.IsList l xs) (hx : xs[i]? = some v) (hMI : M ≠ I)
    (h : ∀ h', h'.IsListIter I l (i + 1) → Heap.SameBut I s.heap h' → wpAny (model prog w) A (call f [v]) Q E { s with heap := h' }) :
    wpAny (model prog w) A (Builtin.«map.__next__» ⟨[.ref M], []⟩) (fun fin s' => ∃ v, fin = .done (.ret v) ∧ Q v s') E s := by
  show wpAny _ _ (field (.ref M) 0 >>= _) _ _ _
  refine wpAny_bind (wpAny_field hM rfl (x := .ref T) rfl ?_)
  refine wpAny_bind (wpAny_seqItems hT rfl ?_)
  dsimp only
  rw [← Array.forIn_toList]
  simp only [List.forIn_cons, List.forIn_nil]
  refine wpAny_bind (wpAny_bind (wpAny_bind (wpAny_holding (wpAny_nextOf_list_item hit hl hx fun h' hit' hs' => wpAny_pure (wpAny_pure ?_)))))
  refine wpAny_bind (wpAny_field (hs'.extBut _ _ hMI hM) rfl (x := f) rfl ?_)
  refine wpAny_bind (wpAny_holding (wpAny_mono (h h' hit' hs') (fun r s' hr => ?_) fun _ _ e => e))
  exact wpAny_bind (wpAny_letGo (wpAny_pure ⟨r, rfl, hr⟩))
theorem map_next_end {Q : Fin → Shared → Prop} (hh : A.handled = none) (hM : s.heap.get? M = some (mapO T f)) (hT : s.heap.get? T = some (tup1 I)) (hit : s.heap.IsListIter I l i) (hl : s.heap.IsList l xs) (hx : xs[i]? = none)
    (hE : ∀ h' e, Heap.ExtBut I s.heap h' → (∃ o, h'.get? e = some o ∧ o.cls = .type "StopIteration") → E (.ref e) { s with heap := h' }) :
    wpAny (model prog w) A (Builtin.«map.__next__» ⟨[.ref M], []⟩) Q E s := by
  show wpAny _ _ (field (.ref M) 0 >>= _) _ _ _
  refine wpAny_bind (wpAny_field hM rfl (x := .ref T) rfl ?_)
  refine wpAny_bind (wpAny_seqItems hT rfl ?_)
  dsimp only
  rw [← Array.forIn_toList]
  simp only [List.forIn_cons, List.forIn_nil]
  exact wpAny_bind (wpAny_bind (wpAny_bind (wpAny_holding (wpAny_nextOf_list_end hh hit hl hx hE))))
theorem pyNext_map {Q : Option Value → Shared → Prop} (hM : s.heap.get? M = some (mapO T f)) (hT : s.heap.get? T = some (tup1 I)) (hit : s.heap.IsListIter I l i) (hl : s.heap.IsList l xs) (hx : xs[i]? = some v) (hMI : M ≠ I)
    (h : ∀ h', h'.IsListIter I l (i + 1) → Heap.SameBut I s.heap h' → wpAny (model prog w) A.in1 (call f [v]) (fun r => Q (some r)) (fun _ _ => False) { s with heap := h' }) : wpAny (model prog w) A (pyNext (.ref M)) Q E s := by
  have hTy : s.TypeIs (.ref M) "map" := ⟨_, hM, rfl⟩
  unfold pyNext
  refine wpAny_bind (wpAny_attempt (wpAny_callSpecial?_slot (name := Str.ofString "__next__") hTy slot_map_next
    (wpAny_call_entry slot_map_next hTy entry_map_next ?_ (args_map_next _))))
  refine wpAny_mono (map_next (Q := fun r => Q (some r)) (E := fun _ _ => False) hM hT hit hl hx hMI h) (fun fin s' hf => ?_) fun _ _ e => e.elim
  obtain ⟨r, rfl, hr⟩ := hf
  exact ⟨r, rfl, wpAny_pure hr⟩
theorem pyNext_map_end {Q : Option Value → Shared → Prop} (hh : A.handled = none) (hM : s.heap.get? M = some (mapO T f)) (hT : s.heap.get? T = some (tup1 I)) (hit : s.heap.IsListIter I l i) (hl : s.heap.IsList l xs) (hx : xs[i]? = none)
    (h : ∀ h', Heap.ExtBut I s.heap h' → Q none { s with heap := h' }) : wpAny (model prog w) A (pyNext (.ref M)) Q E s := by
  have hTy : s.TypeIs (.ref M) "map" := ⟨_, hM, rfl⟩
  unfold pyNext
  refine wpAny_bind (wpAny_attempt (wpAny_callSpecial?_slot (name := Str.ofString "__next__") hTy slot_map_next
    (wpAny_call_entry slot_map_next hTy entry_map_next (map_next_end hh hM hT hit hl hx fun h' e hk he => ?_) (args_map_next _))))
  obtain ⟨o, ho, hc⟩ := he
  refine wpAny_bind (wpAny_isInstance (T := "StopIteration") (b := true) ⟨o, ho, hc⟩ isSubtype_stop ?_)
  exact wpAny_pure (h _ hk)
theorem pyIter_map {Q : Value → Shared → Prop} (hM : s.heap.get? M = some (mapO T f)) (h : Q (.ref M) s) : wpAny (model prog w) A (pyIter (.ref M)) Q E s := by
  have hTy : s.TypeIs (.ref M) "map" := ⟨_, hM, rfl⟩
  refine wpAny_pyIter_slot hTy slot_map_iter (wpAny_call_entry slot_map_iter hTy entry_map_iter ?_ (args_map_iter _))
  show wpAny _ _ (ret (.ref M)) _ _ s
  exact wpAny_pure ⟨_, rfl, "map", _, hTy, slot_map_next.lookup, h⟩
end
/-- a map over a list, of a def that gives back what it gets -/
theorem walks_map {prog : Program} {w : World} {A : Around} (hh : A.handled = none) (h₀ : Heap) (M T I l : Addr) (f : Value) (xs : Array Value) (hMI : M ≠ I) (hTI : T ≠ I) (hlI : l ≠ I) (hI : h₀.get? I = none)
    (hf : ∀ (s : Shared) (i : Nat) (v : Value) (Q : Value → Shared → Prop), Keeps h₀ s.heap → xs[i]? = some v → (∀ h' tk, Keeps s.heap h' → Q v { s with heap := h', toks := tk }) → wpAny (model prog w) A.in1 (call f [v]) Q (fun _ _ => False) s) :
    Walks prog w A M (I :: M :: T :: l :: List.range h₀.objs.size) [I] xs.size (fun i v => xs[i]? = some v) (fun i h => h.get? M = some (mapO T f) ∧ h.get? T = some (tup1 I) ∧ h.IsListIter I l i ∧ h.IsList l xs ∧ Keeps h₀ h) where
  sub := fun b hb => by simp at hb; simp [hb]
  frame := fun _ _ _ st hk => ⟨hk M (by simp) _ st.1, hk T (by simp) _ st.2.1, st.2.2.1.at fun o e => hk I (by simp) o e, st.2.2.2.1.at fun o e => hk l (by simp) o e, fun b o e => hk b (by
    have := Heap.lt_size e
    simp [this]) o (st.2.2.2.2 b o e)⟩
  item := fun i s Q E hi st hQ => by
    obtain ⟨hM, hT, hit, hl, hk⟩ := st
    refine pyNext_map hM hT hit hl (v := xs[i]) (by simp [hi]) hMI fun h' hit' hs' => ?_
    have up : ∀ b o, b ≠ I → s.heap.get? b = some o → h'.get? b = some o := fun b o hb e => hs'.extBut b o hb e
    have hk' : Keeps h₀ h' := fun b o e => up b o (by rintro rfl; rw [hI] at e; cases e) (hk b o e)
    refine hf { s with heap := h' } i xs[i] _ hk' (by simp [hi]) fun h2 tk k2 => ?_
    exact hQ _ h2 tk (by simp [hi]) ⟨k2 _ _ (up _ _ hMI hM), k2 _ _ (up _ _ hTI hT), hit'.at fun o e => k2 _ o e, (hl.extBut hs'.extBut hlI).at fun o e => k2 _ o e, fun b o e => k2 b o (hk' b o e)⟩ fun b o hb e => k2 b o (up b o (fun q => hb (by simp [q])) e)
  done := fun s Q E st hQ => pyNext_map_end hh st.1 st.2.1 st.2.2.1 st.2.2.2.1 (by simp) fun h' he => hQ h' s.toks fun b o hb e => he b o (fun q => hb (by simp [q])) e
  self := fun _ _ _ _ st hQ => pyIter_map st.1 hQ
theorem meets_map_new (f : Value) (l : Addr) (xs : Array Value) :
    Meets (Builtin.«map.__new__» ⟨[.type "map", f, .ref l], []⟩) (fun _ R s => s.heap.IsList l xs ∧
      R (.ok (.ret (.ref (s.heap.objs.size + 1 + 1)))) { s with heap := ((s.heap.push { cls := .type "list_iterator", data := .fields #[.ref l, .int 0 0] }).push (tup1 s.heap.objs.size)).push (mapO (s.heap.objs.size + 1) f) }) :=
  .of_wp fun prog w A R s h => by
    obtain ⟨hp, g, d, tk, os⟩ := s; obtain ⟨hl, h⟩ := h
    have hsub := sub_map
    have hL1 : Heap.IsList (Shared.heap ⟨hp, g, d, tk, os⟩) l xs := hl
    wp_walk using wpAny_pyIter_list hL1
    refine ⟨_, rfl, ?_⟩
    simp only [Heap.size_push]
    exact h
theorem call_map {prog : Program} {w : World} {A : Around} {E : Value → Shared → Prop} {s : Shared} {f : Value} {l : Addr} {xs : Array Value} {Q : Value → Shared → Prop} (hl : s.heap.IsList l xs)
    (h : ∀ h', h'.get? (s.heap.objs.size + 1 + 1) = some (mapO (s.heap.objs.size + 1) f) → h'.get? (s.heap.objs.size + 1) = some (tup1 s.heap.objs.size) → h'.IsListIter s.heap.objs.size l 0 → Keeps s.heap h' → Q (.ref (s.heap.objs.size + 1 + 1)) { s with heap := h' }) :
    wpAny (model prog w) A (call (.type "map") [f, .ref l]) Q E s := by
  refine callType_new called_map (by decide) (typeCall_map _ _) (newCall_map _ _) (fun obj => PySem.F.args_object_init_3 obj _ _) entry_map_new (meets_map_new f l xs) ⟨hl, ?_⟩
  have z1 : (s.heap.push { cls := .type "list_iterator", data := .fields #[.ref l, .int 0 0] }).objs.size = s.heap.objs.size + 1 := Heap.size_push ..
  have z2 : ((s.heap.push { cls := .type "list_iterator", data := .fields #[.ref l, .int 0 0] }).push (tup1 s.heap.objs.size)).objs.size = s.heap.objs.size + 1 + 1 := by rw [Heap.size_push, z1]
  have g3 : (((s.heap.push { cls := .type "list_iterator", data := .fields #[.ref l, .int 0 0] }).push (tup1 s.heap.objs.size)).push (mapO (s.heap.objs.size + 1) f)).get? (s.heap.objs.size + 1 + 1) = some (mapO (s.heap.objs.size + 1) f) := z2 ▸ Heap.get?_push_size _ rfl
  have g2 : (((s.heap.push { cls := .type "list_iterator", data := .fields #[.ref l, .int 0 0] }).push (tup1 s.heap.objs.size)).push (mapO (s.heap.objs.size + 1) f)).get? (s.heap.objs.size + 1) = some (tup1 s.heap.objs.size) := Heap.get?_push_of_some _ (z1 ▸ Heap.get?_push_size _ rfl)
  have g1 : (((s.heap.push { cls := .type "list_iterator", data := .fields #[.ref l, .int 0 0] }).push (tup1 s.heap.objs.size)).push (mapO (s.heap.objs.size + 1) f)).get? s.heap.objs.size = some { cls := .type "list_iterator", data := .fields #[.ref l, .int 0 0] } := Heap.get?_push_of_some _ (Heap.get?_push_of_some _ (Heap.get?_push_size _ rfl))
  exact ⟨⟨_, g3, rfl⟩, h _ g3 g2 ⟨_, g1, rfl, rfl⟩ fun c o x => Heap.get?_push_of_some _ (Heap.get?_push_of_some _ (Heap.get?_push_of_some _ x))⟩
section
variable {prog : Program} {w : World} {A : Around} {E : Value → Shared → Prop} {s : Shared} {I : Addr} {fp wr : List Addr} {G : Array GenState → Array GenState → Prop} {n : Nat} {P : Nat → Value → Prop} {St : Nat → Shared → Prop}
/-- all items of a map object, gathered -/
theorem collect_map {Q : List Value → Shared → Prop} (W : WalksS prog w A.in1 I fp wr G n P St) (hT : ∀ i s, St i s → s.TypeIs (.ref I) "map") (hst : St 0 s) (hfp : ∀ b ∈ fp, b < s.heap.objs.size) (hI : I ∈ fp)
    (hQ : ∀ s' acc, Moved wr G s s' → ItemsOf P acc n → Q acc.toList s') (hn : n ≤ sizeLine) : wpAny (model prog w) A (collect (.ref I)) Q E s := by
  have hSf : s.heap.objs.size ∉ fp := fun hm => Nat.lt_irrefl _ (hfp _ hm)
  have hSI : s.heap.objs.size ≠ I := fun e => hSf (e ▸ hI)
  generalize hbig : s.heap.push { cls := .type "list", data := .seq ([] : List Value).toArray } = H
  have hH : H.get? s.heap.objs.size = some { cls := .type "list", data := .seq ([] : List Value).toArray } := hbig ▸ Heap.get?_push_size _ rfl
  have upH : ∀ b o, s.heap.get? b = some o → H.get? b = some o := fun b o e => hbig ▸ Heap.get?_push_of_some _ e
  have hst₁ : St 0 { s with heap := H } := W.frame 0 s H s.toks hst (Nat.le_refl _) fun b _ o e => upH b o e
  unfold collect
  refine wpAny_bind (wpAny_runValue (codeAny_builtin PySem.F.entry_proto_collect ?_))
  rw [Around.under_plainId PySem.F.plain_proto_collect _]
  show wpAny _ A.in1 (newList [] >>= fun l => again (.builtin "list.__iadd__" ⟨[l, .ref I], []⟩)) _ _ s
  refine wpAny_bind (wpAny_newObj_type ?_)
  dsimp only
  rw [hbig]
  refine wpAny_pure ⟨plainId_quiet PySem.F.plain_list_iadd _, codeAny_builtin PySem.F.entry_list_iadd ?_⟩
  rw [Around.under_plainId PySem.F.plain_list_iadd _]
  show wpAny _ A.in1 (Builtin.List.listExtendWith (.ref s.heap.objs.size) (.ref I) (.ref s.heap.objs.size)) _ _ _
  unfold Builtin.List.listExtendWith
  refine wpAny_bind (wpAny_typeOf (hT 0 _ hst₁) ?_)
  have h1 : Builtin.List.listSameRef (.ref s.heap.objs.size) (.ref I) = false := by simp [Builtin.List.listSameRef, hSI]
  have h2 : (Value.type "map" == Value.type "list") = false := by decide
  have h3 : (Value.type "map" == Value.type "tuple") = false := by decide
  simp only [h1, h2, h3, Bool.or_false, Bool.false_eq_true, if_false]
  refine wpAny_bind (W.self 0 _ _ _ hst₁ (wpAny_bind (wpAny_holding ?_)))
  unfold Builtin.List.listLengthHint
  refine wpAny_bind (wpAny_specialOf (hT 0 _ hst₁) map_no_len ?_)
  show wpAny _ A.in1 (specialOf (Value.ref I) (Str.ofString "__length_hint__") >>= _) _ _ _
  refine wpAny_bind (wpAny_specialOf (hT 0 _ hst₁) map_no_hint (wpAny_pure ?_))
  show wpAny _ A.in1 (rule "list.extend.makes-room" >>= fun _ => Builtin.List.listTouch (.ref s.heap.objs.size) >>= fun _ =>
    again (.builtin "list.extend.loop" ⟨[.ref s.heap.objs.size, .ref I, .ref s.heap.objs.size], []⟩)) _ _ _
  refine wpAny_bind (wpAny_rule (wpAny_bind ?_))
  show wpAny _ A.in1 (updateSeq s.heap.objs.size (·.push .none) >>= fun _ => updateSeq s.heap.objs.size (·.pop)) _ _ _
  refine wpAny_bind (wpAny_updateSeq hH rfl ?_)
  have hH₂ := Heap.get?_update_self (Obj.mapSeq (·.push Value.none)) hH rfl
  refine wpAny_updateSeq hH₂ rfl ?_
  have hH₃ := Heap.get?_update_self (Obj.mapSeq (·.pop)) hH₂ rfl
  have oth : ∀ b o, b ≠ s.heap.objs.size → H.get? b = some o → ((H.update s.heap.objs.size (Obj.mapSeq (·.push Value.none))).update s.heap.objs.size (Obj.mapSeq (·.pop))).get? b = some o :=
    fun b o hb e => (Heap.get?_update_other _ _ (Ne.symm hb)).trans ((Heap.get?_update_other _ _ (Ne.symm hb)).trans e)
  refine wpAny_pure ⟨plainId_quiet PySem.F.plain_extend_loop _, codeAny_extend_loopS W hn _ hSf _ n 0 _ _ _ rfl (Nat.zero_le _)
    (W.frame 0 ({ s with heap := H } : Shared) _ s.toks hst₁ (Nat.le_refl _) fun b hb o e => oth b o (fun h => hSf (h ▸ hb)) e) hH₃ (ItemsOf.nil P) fun s' acc' c' hm hS' hacc => ?_⟩
  show wpAny _ A (load s.heap.objs.size >>= _) _ _ s'
  refine wpAny_bind (wpAny_load hS' ?_)
  refine wpAny_pure (hQ s' acc' (Moved.drop_new (o := { cls := .type "list", data := .seq ([] : List Value).toArray }) (tk := s.toks) (Moved.trans W.gtrans ((Moved.refl W.grefl).then_heap (Nat.le_refl _) fun b o hb e => ?_) hm) (Nat.le_refl _)) hacc)
  exact oth b o (fun h => hb (h ▸ List.mem_cons_self)) (hbig ▸ e)
theorem tuple_map_new {Q₁ : Value → Shared → Prop} (W : WalksS prog w A.in1.in1 I fp wr G n P St) (hT : ∀ i s, St i s → s.TypeIs (.ref I) "map") (hst : St 0 s) (hfp : ∀ b ∈ fp, b < s.heap.objs.size) (hI : I ∈ fp) (hn : n ≤ sizeLine)
    (h : ∀ s' acc, Moved wr G s s' → ItemsOf P acc n → Q₁ (.ref s'.heap.objs.size) { s' with heap := s'.heap.push { cls := .type "tuple", data := .seq acc } }) :
    codeAny (model prog w) A (.call (.builtin "tuple.__new__") ⟨[.type "tuple", .ref I], []⟩) (wants Q₁ E) s := by
  refine codeAny_of_tree ?_
  show wpAny _ A.in1 (do checkBuiltinCall "tuple.__new__" ⟨[.type "tuple", .ref I], []⟩; again (.builtin "tuple.__new__" ⟨[.type "tuple", .ref I], []⟩)) _ _ s
  refine wpAny_bind (wpAny_of_eq (PySem.F.newCall_tuple_1 _) (wpAny_pure ⟨plainId_quiet PySem.F.plain_tuple_new _, codeAny_builtin PySem.F.entry_tuple_new ?_⟩))
  rw [Around.under_plainId PySem.F.plain_tuple_new _]
  have hsub := sub_tuple_self
  have hinit := init_tuple_lookup
  have hmh := madeHere_tuple
  have hTI := hT 0 s hst
  wp_walk using wpAny_typeOf hTI, collect_map (hn := hn) W hT hst hfp hI
  intro s' acc hm hacc
  show wpAny _ _ (Builtin.Tuple.tupleExact acc.toList.toArray >>= fun v => ret v) _ _ _
  unfold Builtin.Tuple.tupleExact
  have e : acc.toList.toArray = acc := by simp
  rw [e]
  exact wpAny_bind (wpAny_newObj_type (wpAny_pure (h s' acc hm hacc)) (by show acc.size ≤ sizeLine; rw [hacc.1]; exact hn))
theorem call_tuple_map {Q : Value → Shared → Prop} (W : WalksS prog w A.in1.in1.in1 I fp wr G n P St) (hT : ∀ i s, St i s → s.TypeIs (.ref I) "map") (hst : St 0 s) (hfp : ∀ b ∈ fp, b < s.heap.objs.size) (hI : I ∈ fp) (hn : n ≤ sizeLine)
    (hQ : ∀ s' acc, Moved wr G s s' → ItemsOf P acc n → Q (.ref s'.heap.objs.size) { s' with heap := s'.heap.push { cls := .type "tuple", data := .seq acc } }) :
    wpAny (model prog w) A (call (.type "tuple") [.ref I]) Q E s :=
  callType_codes (Q₁ := fun obj s₁ => s₁.TypeIs obj "tuple" ∧ Q obj s₁) PySem.F.called_tuple (PySem.F.typeCall_tuple_1 _) PySem.F.entry_object_init
    (tuple_map_new W hT hst hfp hI hn fun s' acc hm hacc => ⟨⟨_, Heap.get?_push_size _ rfl, rfl⟩, hQ s' acc hm hacc⟩) fun obj s₁ h₁ =>
  ⟨h₁.1, PySem.F.args_object_init_2 obj _, object_init_meets PySem.F.called_tuple.init.lookup PySem.F.called_tuple.made (by decide) prog w A.in1 _ s₁ ⟨h₁.1, rfl, h₁.2⟩⟩
end

section
variable {w : World} {A : Around} {E : Value → Shared → Prop} {s : Shared} {h₀ : Heap} {L l : Addr} {m mg mb : Str → Option Value} {news : List (Addr × Obj)} {ps : List (Str × Tok)}
theorem map_fsp {Q : Value → Shared → Prop} (F : Fr h₀ L s.heap m) (N : News h₀ L s.heap news) (hl : h₀.IsList l (strValues ps).toArray)
    (h : ∀ M T' I oI h', oI.cls = .type "list_iterator" → oI.data = .fields #[.ref l, .int 0 0] → M ≠ I → T' ≠ I → l ≠ I → (∀ p ∈ news, p.1 ≠ I) → Fr h₀ L h' m → News h₀ L h' ((I, oI) :: (M, mapO T' (.ref 206)) :: (T', tup1 I) :: news) → Q (.ref M) { s with heap := h' }) :
    wpAny (model PG w) A (call (.type "map") [.ref 206, .ref l]) Q E s := by
  refine call_map (hl.at fun o e => F.keep _ o e) fun h' e1 e2 e3 k => ?_
  obtain ⟨oI, hI, c1, c2⟩ := e3
  have F' := fr_keeps F k
  have hn : ∀ a, s.heap.objs.size ≤ a → s.heap.get? a = none := fun a ha => by
    cases e : s.heap.get? a with
    | none => rfl
    | some o => exact absurd (Heap.lt_size e) (Nat.not_lt.mpr ha)
  have n1 : ∀ a : Addr, s.heap.objs.size ≤ a → a ≠ L := fun a ha q => by
    obtain ⟨o, _, _, ho, _⟩ := F.ns
    rw [← q, hn a ha] at ho; cases ho
  have n2 : ∀ a : Addr, s.heap.objs.size ≤ a → h₀.get? a = none := fun a ha => by
    cases e : h₀.get? a with
    | none => rfl
    | some o => have := F.keep _ _ e; rw [hn a ha] at this; cases this
  have n0 : ∀ a : Addr, s.heap.objs.size ≤ a → a ≠ L ∧ h₀.get? a = none := fun a ha => ⟨n1 a ha, n2 a ha⟩
  refine h _ _ _ oI h' c1 c2 (Nat.ne_of_gt (Nat.lt_succ_of_lt (Nat.lt_succ_self _))) (Nat.ne_of_gt (Nat.lt_succ_self _)) ?_ ?_ F' fun p hp => ?_
  · obtain ⟨ol, hol, _⟩ := hl
    exact Nat.ne_of_lt (Heap.lt_size (F.keep _ _ hol))
  · intro p hp
    exact Nat.ne_of_lt (Heap.lt_size (N p hp).1)
  · rcases List.mem_cons.mp hp with rfl | hp
    · exact ⟨hI, n0 _ (Nat.le_refl _)⟩
    · rcases List.mem_cons.mp hp with rfl | hp
      · exact ⟨e1, n0 _ (Nat.le_succ_of_le (Nat.le_succ _))⟩
      · rcases List.mem_cons.mp hp with rfl | hp
        · exact ⟨e2, n0 _ (Nat.le_succ _)⟩
        · exact news_keeps N k p hp
theorem tuple_fsp {M T' I : Addr} {oI : Obj} {Q : Value → Shared → Prop} (F : Fr h₀ L s.heap m) (N : News h₀ L s.heap ((I, oI) :: (M, mapO T' (.ref 206)) :: (T', tup1 I) :: news)) (X : (hd.heap_1 w.params).In h₀) (T : TopRead VW LW mg mb h₀) (hl : h₀.IsList l (strValues ps).toArray)
    (c1 : oI.cls = .type "list_iterator") (c2 : oI.data = .fields #[.ref l, .int 0 0]) (hMI : M ≠ I) (hTI : T' ≠ I) (hlI : l ≠ I) (hnI : ∀ p ∈ news, p.1 ≠ I) (hz : ps.length ≤ 2097152)
    (hA : okA A.in1.in1.in1.in1 900 4000 = true)
    (h : ∀ D h' tk, Fr h₀ L h' m → News h₀ L h' ((D, { cls := .type "tuple", data := .seq (strValues ps).toArray }) :: news) → (∀ p ∈ news, p.1 < D) → Q (.ref D) { s with heap := h', toks := tk }) :
    wpAny (model PG w) A (call (.type "tuple") [.ref M]) Q E s := by
  have hI := N _ (.head _)
  have hM := N _ (.tail _ (.head _))
  have hT := N _ (.tail _ (.tail _ (.head _)))
  have W := walks_map (prog := PG) (w := w) (A := A.in1.in1.in1) (okA_spec hA).1 h₀ M T' I l (.ref 206) (strValues ps).toArray hMI hTI hlI hI.2.2 fun s₁ i v Q' hk hv hq => by
    obtain ⟨x, t, rfl, _⟩ := strValues_get (by simpa using hv)
    refine wpAny_Ar (fun outer => fspath_c w x t outer s₁ mg mb Q' _ (X.keeps hk) (T.keeps hk) trivial fun r h' tk hr k => ?_) hA
    rw [hr]; exact hq h' tk k
  have hls : s.heap.IsList l (strValues ps).toArray := hl.at fun o e => F.keep _ o e
  refine call_tuple_map W.toS (fun i s st => ⟨_, st.1, rfl⟩) ⟨hM.1, hT.1, ⟨oI, hI.1, c1, c2⟩, hls, F.keep⟩ ?_ (by simp) (by simp [strValues]; rw [sizeLine_eq]; omega) ?_
  · intro b hb
    rcases List.mem_cons.mp hb with rfl | hb
    · exact Heap.lt_size hI.1
    · rcases List.mem_cons.mp hb with rfl | hb
      · exact Heap.lt_size hM.1
      · rcases List.mem_cons.mp hb with rfl | hb
        · exact Heap.lt_size hT.1
        · rcases List.mem_cons.mp hb with rfl | hb
          · obtain ⟨ol, hol, _⟩ := hls
            exact Heap.lt_size hol
          · exact Nat.lt_trans (Nat.lt_of_lt_of_le (List.mem_range.mp hb) F.above) F.ns.lt
  · intro s' acc hm hacc
    obtain ⟨mh, mgn, mdr, mos, mtk⟩ := hm
    obtain ⟨hp', g', d', tk', os'⟩ := s'
    dsimp only at mh mgn mdr mos
    subst mgn mdr mos
    have e : acc = (strValues ps).toArray := by
      apply Array.ext_getElem?
      intro j
      by_cases hj : j < acc.size
      · exact (Array.getElem?_eq_getElem hj).trans (hacc.2 j acc[j] (Array.getElem?_eq_getElem hj)).symm
      · rw [Array.getElem?_eq_none (Nat.not_lt.mp hj), Array.getElem?_eq_none (by rw [← hacc.1]; exact Nat.not_lt.mp hj)]
    subst e
    have k : ∀ b o, b ∉ [(I, oI)].map (·.1) → s.heap.get? b = some o → hp'.get? b = some o := fun b o hb e => mh b o hb e
    have NI : News h₀ L s.heap [(I, oI)] := fun p hp => by rw [List.mem_singleton.mp hp]; exact hI
    have F1 := fr_but F NI k
    have N1 : News h₀ L hp' news := fun p hp => ⟨k _ _ (fun q => hnI p hp (List.mem_singleton.mp q)) (N p (.tail _ (.tail _ (.tail _ hp)))).1, (N p (.tail _ (.tail _ (.tail _ hp)))).2⟩
    exact h _ _ _ (F1.push _) (N1.push F1 _) fun p hp => Heap.lt_size (N1 p hp).1
end

section
variable {prog : Program} {w : World} {A : Around} {env : Env}
/-- what such an assignment asks of its iterator -/
inductive AsgAt (prog : Program) (w : World) (A : Around) (env : Env) (scope : Scope) (cl : List (Str × Addr)) (target : Expr) (ifs : List Expr) (elt : Expr) (y : Str) (Q : Flow → Shared → Prop) (it : Value) (s₂ : Shared) : Prop
  | mk (I : Addr) (fp wr : List Addr) (n : Nat) (P : Nat → Value → Prop) (St : Nat → Heap → Prop) (R : Nat → Value → Out → Prop) (m : Str → Option Value) : it = .ref I → Walks prog w A I fp wr n P St → n ≤ sizeLine → St 0 s₂.heap → (∀ b ∈ fp, b < s₂.heap.objs.size) →
      (∀ i h, St i h → ∀ b ∈ wr, ∃ o, h.get? b = some o) → env.locals ∉ wr → s₂.heap.Ns env.locals m → CompTurn prog w A env scope cl target ifs elt wr P R s₂ → (∀ v, letOwnedTupleGo target (.ref I) v = pure ()) →
      (∀ D h' tk (outs : List Out), s₂.heap.get? D = none → h'.PlainList D (outY outs).toArray → outs.length = n → (∀ j o, outs[j]? = some o → ∃ v, P j v ∧ R j v o) →
        (∀ p ∈ outO outs, h'.get? p.1 = some p.2 ∧ s₂.heap.get? p.1 = none ∧ p.1 ≠ D) → h'.Ns env.locals (fun z => if z = y then some (.ref D) else m z) →
        (∀ b o, b ≠ env.locals → b ∉ wr → s₂.heap.get? b = some o → h'.get? b = some o) → Q .next { s₂ with heap := h', toks := tk }) → AsgAt prog w A env scope cl target ifs elt y Q it s₂
/-- a comprehension stored in a local name of its own line -/
theorem assign_comp {elt target iter : Expr} {ifs : List Expr} {y : Str} {py : Pos} {scope : Scope} {cl : List (Str × Addr)} {pos spos : Pos} {s : Shared} {Q : Flow → Shared → Prop}
    (hsw : swapsWith (.ListComp elt [⟨target, iter, ifs, 0⟩] scope pos) (some (.Name y py)) spos.line env = pure true)
    (hclos : closureFor scope env = pure cl) (hcell : ∀ y ∈ scope.names, y.2 ≠ .cell) (hkind : scope.kind = .function)
    (hnames : ∀ y ∈ scope.names, y.2 = .local → scope.names.lookup y.1 = some .local)
    (hy : env.kindOf y = some .local) (hp : (env.scope.kind == .class || (env.scope.kind == .module && env.locals != env.globals)) = false)
    (h : wpAny (model prog w) A (eval iter env) (fun xv s₁ => wpAny (model prog w) A (pyIter xv) (AsgAt prog w A env scope cl target ifs elt y Q) (fun _ _ => False) s₁) (fun _ _ => False) s)
    (hs : ∀ x, foldedSetIterable iter env x = pure x := by intro _; rfl) :
    wpAny (model prog w) A (exec (.Assign [.Name y py] (.ListComp elt [⟨target, iter, ifs, 0⟩] scope pos) spos) env) Q (fun _ _ => False) s := by
  rw [exec_Assign_Name_used _ _ _ _ hsw]
  refine wpAny_bind (wpAny_standAt (wpAny_bind ?_))
  show wpAny _ A (do let _ ← comprehension (.ListComp elt [⟨target, iter, ifs, 0⟩] scope pos) scope env _ (newList []) false (eval iter env) (some (assign (.Name y py) env))) _ _ s
  refine wpAny_bind (wpAny_mono (wpAny_comprehension_free (use := some (assign (.Name y py) env)) (Q := fun _ s' => Q .next s') rfl hs hclos hkind hnames
    (wpAny_mono h (fun xv s₁ h₁ => wpAny_mono h₁ (fun it s₂ h₂ => ?_) fun _ _ e => e) fun _ _ e => e)) (fun _ s' hq => wpAny_pure (wpAny_pure hq)) fun _ _ e => e)
  obtain ⟨I, fp, wr, n, P, St, R, m, rfl, W, hsz, hst, hfp, hal, hLf, hn, hq, ht, hQ⟩ := h₂
  refine comp_block (RR := fun acc C => compPost (model prog w) A (fun _ _ => False) (some (assign (.Name y py) env)) (fun _ s' => Q .next s') acc C) W hsz R hcell hkind hst hfp hal hq ht ?_
  intro D C h' tk m' outs hD hC hDC hnC hpl hlen hP hO hk
  have hLC : env.locals ≠ C := by rintro rfl; obtain ⟨o, _, _, ho, _⟩ := hn; rw [hC] at ho; cases ho
  have hLD : env.locals ≠ D := by rintro rfl; obtain ⟨o, _, _, ho, _⟩ := hn; rw [hD] at ho; cases ho
  show wpAny _ A (assign (.Name y py) env (.ref D)) _ _ _
  refine wpAny_assign_Name (wpAny_storeName_local hy (hn.at' fun o e => hk _ o hLf e) (fun h₂ hn₂ hs₂ => ?_) hp)
  refine ⟨m', hnC.sameBut hs₂ (Ne.symm hLC), fun h₃ hs₃ => ?_⟩
  have hnL : ∀ p ∈ outO outs, p.1 ≠ env.locals := fun p hp q => by
    obtain ⟨o, _, _, ho, _⟩ := hn
    rw [← q, (hO p hp).2.1] at ho; cases ho
  exact hQ D h₃ _ outs hD ((hpl.extBut hs₂.extBut (Ne.symm hLD)).extBut hs₃.extBut hDC) hlen hP (fun p hp => ⟨hs₃.extBut _ _ (hO p hp).2.2.1 (hs₂.extBut _ _ (hnL p hp) (hO p hp).1), (hO p hp).2.1, (hO p hp).2.2.2⟩) (hn₂.sameBut hs₃ hLC) fun b o hbL hbf e =>
    hs₃.extBut b o (by rintro rfl; rw [hC] at e; cases e) (hs₂.extBut b o hbL (hk b o hbf e))
/-- what «y = [..]» leaves -/
noncomputable def AsgDone (s : Shared) (L : Addr) (y : Str) (m : Str → Option Value) (p : Value → Bool) (R : Value → Value → List (Addr × Obj) → Prop) (vs : List Value) (Q : Flow → Shared → Prop) : Prop :=
  ∀ D h' tk (outs : List Out), s.heap.get? D = none → h'.PlainList D (outY outs).toArray → Paired (OutIs p R) vs outs → (∀ q ∈ outO outs, h'.get? q.1 = some q.2 ∧ s.heap.get? q.1 = none ∧ q.1 ≠ D) →
    h'.Ns L (fun z => if z = y then some (.ref D) else m z) → (∀ b o, b ≠ L → s.heap.get? b = some o → h'.get? b = some o) → Q .next { s with heap := h', toks := tk }
/-- what the comprehension asks of what its list expression gave -/
inductive SeqPost (prog : Program) (w : World) (A : Around) (env : Env) (scope : Scope) (cl : List (Str × Addr)) (x y : Str) (ifs : List Expr) (elt : Expr) (p : Value → Bool) (R : Value → Value → List (Addr × Obj) → Prop) (m : Str → Option Value) (Q : Flow → Shared → Prop) (xv : Value) (s : Shared) : Prop
  | mk (l : Addr) (vs : List Value) : xv = .ref l → vs.length ≤ 2097152 → SeqAtL s.heap l vs → s.heap.Ns env.locals m → TestsOf prog w A env scope cl x ifs p vs s → EltsOf prog w A env scope cl x elt p R vs s → AsgDone s env.locals y m p R vs Q → SeqPost prog w A env scope cl x y ifs elt p R m Q xv s
theorem assign_seqG {elt iter : Expr} {x y : Str} {px py : Pos} {ifs : List Expr} {scope : Scope} {cl : List (Str × Addr)} {pos spos : Pos} {s₀ : Shared} {Q : Flow → Shared → Prop} {m : Str → Option Value} (p : Value → Bool) (R : Value → Value → List (Addr × Obj) → Prop)
    (hsw : swapsWith (.ListComp elt [⟨.Name x px, iter, ifs, 0⟩] scope pos) (some (.Name y py)) spos.line env = pure true)
    (hh : A.handled = none) (hclos : closureFor scope env = pure cl) (hcell : ∀ y ∈ scope.names, y.2 ≠ .cell) (hkind : scope.kind = .function)
    (hnames : ∀ y ∈ scope.names, y.2 = .local → scope.names.lookup y.1 = some .local) (hx : scope.names.lookup x = some .local)
    (hy : env.kindOf y = some .local) (hp : (env.scope.kind == .class || (env.scope.kind == .module && env.locals != env.globals)) = false)
    (hiter : wpAny (model prog w) A (eval iter env) (SeqPost prog w A env scope cl x y ifs elt p R m Q) (fun _ _ => False) s₀)
    (hs : ∀ x, foldedSetIterable iter env x = pure x := by intro _; rfl) :
    wpAny (model prog w) A (exec (.Assign [.Name y py] (.ListComp elt [⟨.Name x px, iter, ifs, 0⟩] scope pos) spos) env) Q (fun _ _ => False) s₀ := by
  refine assign_comp hsw hclos hcell hkind hnames hy hp (wpAny_mono hiter (fun xv s hh4 => ?_) fun _ _ e => e) hs
  obtain ⟨l, vs, rfl, hsz, hl, hn, tests, helt, done⟩ := hh4
  refine src_iter hh hl fun h' St Y hsz' => ?_
  refine ⟨_, _, _, vs.length, _, St, _, m, rfl, Y.walk, small_size hsz, Y.st, Y.fits, Y.alive1, let ⟨_, _, _, hoL, _⟩ := hn; Y.off hoL, hn.keeps Y.up, src_turn p R Y rfl hsz' hkind hx tests helt, fun _ => rfl, ?_⟩
  intro D h2 tk outs hD hpl hlen' hP hO hns hk
  obtain ⟨q1, q2⟩ := src_done Y hlen' hP hO
  exact done D h2 tk outs (Y.old hD) hpl q1 q2 hns fun b o hb e => hk b o hb (Y.off e) (Y.up b o e)
theorem assign_seq {elt iter : Expr} {x y : Str} {px py : Pos} {ifs : List Expr} {scope : Scope} {cl : List (Str × Addr)} {pos spos : Pos} {s : Shared} {Q : Flow → Shared → Prop} {l : Addr} {vs : List Value} {m : Str → Option Value} (p : Value → Bool) (R : Value → Value → List (Addr × Obj) → Prop)
    (hsw : swapsWith (.ListComp elt [⟨.Name x px, iter, ifs, 0⟩] scope pos) (some (.Name y py)) spos.line env = pure true)
    (hh : A.handled = none) (hclos : closureFor scope env = pure cl) (hcell : ∀ y ∈ scope.names, y.2 ≠ .cell) (hkind : scope.kind = .function)
    (hnames : ∀ y ∈ scope.names, y.2 = .local → scope.names.lookup y.1 = some .local) (hx : scope.names.lookup x = some .local)
    (hy : env.kindOf y = some .local) (hp : (env.scope.kind == .class || (env.scope.kind == .module && env.locals != env.globals)) = false) (hn : s.heap.Ns env.locals m)
    (hiter : ∀ Q' : Value → Shared → Prop, Q' (.ref l) s → wpAny (model prog w) A (eval iter env) Q' (fun _ _ => False) s) (hl : SeqAtL s.heap l vs) (hsz : vs.length ≤ 2097152)
    (tests : TestsOf prog w A env scope cl x ifs p vs s) (helt : EltsOf prog w A env scope cl x elt p R vs s) (done : AsgDone s env.locals y m p R vs Q)
    (hs : ∀ x, foldedSetIterable iter env x = pure x := by intro _; rfl) :
    wpAny (model prog w) A (exec (.Assign [.Name y py] (.ListComp elt [⟨.Name x px, iter, ifs, 0⟩] scope pos) spos) env) Q (fun _ _ => False) s :=
  assign_seqG p R hsw hh hclos hcell hkind hnames hx hy hp (hiter _ ⟨l, vs, rfl, hsz, hl, hn, tests, helt, done⟩) hs
end

section
variable {prog : Program} {w : World} {A : Around} {E : Value → Shared → Prop} {s : Shared} {h₀ : Heap} {L d : Addr} {m : Str → Option Value} {news : List (Addr × Obj)} {n : Nat} {vs : List Value} {v : Value}
theorem news_tup (N : News h₀ L s.heap news) (hm : (d, ({ cls := .type "tuple", data := .seq vs.toArray n } : Obj)) ∈ news) : IsTup s.heap d vs.toArray := ⟨_, (N _ hm).1, rfl, n, rfl⟩
theorem truthy_tupN {Q : Bool → Shared → Prop} (N : News h₀ L s.heap news) (hm : (d, ({ cls := .type "tuple", data := .seq vs.toArray n } : Obj)) ∈ news) (hp : vs ≠ []) (hz : vs.length ≤ 2097152) (h : ∀ tk, Q true { s with toks := tk }) : wpAny (model prog w) A (truthy (.ref d)) Q E s := by
  refine truthy_tuple (news_tup N hm) (by simp; omega) ?_
  have e : (!vs.toArray.isEmpty) = true := by cases vs with | nil => exact absurd rfl hp | cons => simp
  rw [e]; exact h _
theorem item_tup0 {value slice : PySem.Expr} {t : Tok} {Q : Value → Shared → Prop} (N : News h₀ L s.heap news) (hm : (d, ({ cls := .type "tuple", data := .seq vs.toArray n } : Obj)) ∈ news) (hv : vs[0]? = some v) (h : Q v s)
    (hs : subscripted slice false (.ref d) (.int 0 t) = operate [.ref d, .int 0 t] (getItem (.ref d) (.int 0 t)) := by with_unfolding_all rfl) :
    wpAny (model prog w) A (subscriptTail value slice (.ref d) (.int 0 t)) Q E s :=
  item_tupleT (j := 0) (news_tup N hm) (by decide) (by decide) (by cases vs with | nil => cases hv | cons => simp [seqIndex?]) hv h hs
end

noncomputable abbrev setO (es : Array (Int × Value)) (ep : Nat) (t : SetTable) : Obj := { cls := .type "set", dict := none, data := .set es ep t }
/-- how the sets of this world are laid out -/
noncomputable def byT (w : World) : Bool := w.params.followText "set-order"
noncomputable abbrev T0 (b : Bool) : SetTable := .fresh 0 0 (!b)
noncomputable def T1 (b : Bool) : SetTable := ((T0 b).put 1).1
noncomputable abbrev trueS : Array (Int × Value) := #[(1, .bool true)]
theorem T1_fits (b : Bool) : (T1 b).fits trueS.size = true := by cases b <;> rfl
theorem T0_fits (b : Bool) : (T0 b).fits (#[] : Array (Int × Value)).size = true := by cases b <;> rfl
theorem layNew_T0 (b : Bool) : layNew (T0 b) #[] 1 (.bool true) = (trueS, T1 b, false, false) := by cases b <;> rfl
section
variable {prog : Program} {w : World} {A : Around} {E : Value → Shared → Prop} {s : Shared} {D : Addr} {ep : Nat}
theorem newSet_T {Q : Value → Shared → Prop} (h : Q (.ref s.heap.objs.size) { s with heap := s.heap.push (setO #[] 0 (T0 (byT w))) }) : wpAny (model prog w) A (newSet (.type "set")) Q E s := by
  unfold newSet setsByText
  refine wpAny_bind (wpAny_bind (wpAny_askSetting (wpAny_pure ?_)))
  dsimp only
  simp only [newObj]
  exact wpAny_bind (wpAny_alloc (wpAny_pure h))
theorem hash_true {Q : Int → Shared → Prop} (h : ∀ tk, Q 1 { s with toks := tk }) : wpAny (model prog w) A (pyHash (.bool true)) Q E s := by
  have hT : s.TypeIs (.bool true) "bool" := rfl
  unfold pyHash
  have hv : [Value.bool true].any Value.onHeap = false := rfl
  refine wpAny_bind ?_
  rw [cRoomFor, if_neg (by rw [hv]; exact Bool.false_ne_true)]; refine wpAny_pure ?_
  refine wpAny_bind (wpAny_specialOf hT PySem.F.slot_bool_hash.lookup ?_)
  show wpAny _ _ (if (some (Value.builtin "int.__hash__") == some Value.none) = true then _ else _) Q E s
  rw [if_neg (by rw [beq_builtin_none]; exact Bool.false_ne_true)]
  refine wpAny_bind (wpAny_specialOf hT PySem.F.slot_bool_hash.lookup ?_)
  show wpAny _ _ (callSpecialIfBoundUnlessNone? (.bool true) "__hash__" _ >>= _) Q E s
  refine wpAny_bind (wpAny_callSpecialIfBoundUnlessNone?_slot hT PySem.F.slot_bool_hash
    (wpAny_call_entry PySem.F.slot_bool_hash hT PySem.F.entry_int_hash
      (show wpAny _ _ (do ret (← mkInt (1 : Int))) _ _ s from wpAny_ret_mkInt ?_) (PySem.F.args_int_hash_1 _)))
  exact wpAny_pure (h _)
theorem eq_true {Q : Bool → Shared → Prop} (h : Q true s) : wpAny (model prog w) A (eqBool (.bool true) (.bool true)) Q E s := by
  unfold eqBool
  refine wpAny_holding ?_
  rw [if_pos (by decide)]
  exact wpAny_bind (wpAny_rule (wpAny_pure h))
theorem add_first {b : Bool} {Q : Value → Shared → Prop} (ho : s.heap.get? D = some (setO #[] ep (T0 b))) (h : ∀ h' tk, h'.get? D = some (setO trueS (ep + 1) (T1 b)) → Heap.SameBut D s.heap h' → Q .none { s with heap := h', toks := tk }) : wpAny (model prog w) A (call (.builtin "set.add") [.ref D, .bool true]) Q E s := by
  refine wpAny_call_entry PySem.F.slot_set_add ⟨_, ho, rfl⟩ PySem.F.entry_set_add ?_ (PySem.F.args_set_add_2 _ _)
  unfold Builtin.«set.add» Builtin.Frozenset.oneOther
  simp only [List.isEmpty_nil, bind_assoc]
  unfold Builtin.Frozenset.addrOf setAdd
  refine wpAny_bind (wpAny_pure (wpAny_bind (wpAny_pure (wpAny_bind (wpAny_holding (wpAny_bind (hash_true fun tk => ?_)))))))
  unfold setAddHashed
  refine wpAny_holding ?_
  show wpAny _ _ (setAddHashedIn D (.bool true) 1 (99999 + 1)) _ _ _
  unfold setAddHashedIn
  refine wpAny_bind (wpAny_setState_of (o := setO #[] ep (T0 b)) ho rfl (T0_fits b) ?_)
  dsimp only
  rw [if_pos (by decide +kernel)]
  refine wpAny_bind ?_
  unfold setAddByScan
  rw [layNew_T0]
  refine wpAny_bind (wpAny_rule (wpAny_bind ?_))
  show wpAny _ _ (setScanFrom D (.bool true) 1 true [] 0) _ _ _
  unfold setScanFrom
  refine wpAny_pure (wpAny_bind (wpAny_pure ?_))
  dsimp only
  refine wpAny_bind (wpAny_pure ?_)
  have e2 : (T1 b).tooFull = false := by cases b <;> rfl
  simp only [if_true, e2, Bool.not_false, Bool.and_false, Bool.false_eq_true, if_false]
  refine wpAny_bind (wpAny_storeSet_of (o := setO #[] ep (T0 b)) ho rfl ?_)
  refine wpAny_pure (wpAny_pure ?_)
  refine wpAny_pure ⟨_, rfl, h _ _ ?_ (Heap.SameBut.update ..)⟩
  exact Heap.get?_update_self _ ho rfl
theorem add_again {b : Bool} {Q : Value → Shared → Prop} (ho : s.heap.get? D = some (setO trueS ep (T1 b))) (h : ∀ tk, Q .none { s with toks := tk }) : wpAny (model prog w) A (call (.builtin "set.add") [.ref D, .bool true]) Q E s := by
  refine wpAny_call_entry PySem.F.slot_set_add ⟨_, ho, rfl⟩ PySem.F.entry_set_add ?_ (PySem.F.args_set_add_2 _ _)
  unfold Builtin.«set.add» Builtin.Frozenset.oneOther
  simp only [List.isEmpty_nil, bind_assoc]
  unfold Builtin.Frozenset.addrOf setAdd
  refine wpAny_bind (wpAny_pure (wpAny_bind (wpAny_pure (wpAny_bind (wpAny_holding (wpAny_bind (hash_true fun tk => ?_)))))))
  unfold setAddHashed
  refine wpAny_holding ?_
  show wpAny _ _ (setAddHashedIn D (.bool true) 1 (99999 + 1)) _ _ _
  unfold setAddHashedIn
  refine wpAny_bind (wpAny_setState_of (o := setO trueS ep (T1 b)) ho rfl (T1_fits b) ?_)
  dsimp only
  rw [if_pos (by decide +kernel)]
  refine wpAny_bind ?_
  unfold setAddByScan
  refine wpAny_bind (wpAny_rule (wpAny_bind ?_))
  show wpAny _ _ (setScanFrom D (.bool true) 1 true [(1, .bool true)] 0) _ _ _
  unfold setScanFrom
  rw [if_pos (by decide)]
  refine wpAny_bind (wpAny_setEpoch_of (o := setO trueS ep (T1 b)) ho rfl (T1_fits b) (wpAny_bind (eq_true ?_)))
  simp only [Bool.and_self, if_true]
  refine wpAny_pure (wpAny_pure (wpAny_pure ?_))
  exact wpAny_pure ⟨_, rfl, h _⟩
theorem entry_set_iter : entryFor table "set.__iter__" = some Builtin.«frozenset.__iter__» := entryFor_alias (id' := "frozenset.__iter__") (by kernel_rfl) rfl (by decide +kernel) (by kernel_rfl)
theorem slot_seti_next : Slot "set_iterator" "__next__" "set_iterator.__next__" := .of (owner := "set_iterator") (n := "__next__") (by rw [typeLookup_type, builtinLookup_eq_fast]; kernel_rfl) (by decide +kernel) (by decide +kernel) (by decide +kernel) (by first | exact .inl (by decide +kernel) | exact .inr (by decide +kernel)) (by rw [isSubtype_type]; kernel_rfl)
theorem entry_seti_next : entryFor table "set_iterator.__next__" = some Builtin.«set_iterator.__next__» := entryFor_of_tree (by kernel_rfl)
theorem args_seti_next (a : Value) : argsOk "set_iterator.__next__" ⟨[a], []⟩ := by unfold argsOk; kernel_rfl
noncomputable abbrev setI (D : Addr) (a b : Int) (ep : Nat) : Obj := { cls := .type "set_iterator", data := .fields #[rawInt a, rawInt b, .ref D, rawInt 1, rawInt ep] }
theorem iter_true {Q : Value → Shared → Prop} (ho : s.heap.get? D = some (setO trueS ep (T1 (byT w)))) (h : Q (.ref s.heap.objs.size) { s with heap := s.heap.push (setI D 0 0 ep) }) : wpAny (model prog w) A (pyIter (.ref D)) Q E s := by
  have hT : s.TypeIs (.ref D) "set" := ⟨_, ho, rfl⟩
  refine wpAny_pyIter_slot hT PySem.F.slot_set_iter (wpAny_call_entry PySem.F.slot_set_iter hT entry_set_iter ?_ (PySem.F.args_set_iter_1 _))
  unfold Builtin.«frozenset.__iter__» Builtin.Frozenset.slot0 slotArgs
  simp only [List.isEmpty_nil, Bool.not_true, Bool.false_eq_true, ↓reduceIte, bind_assoc, List.length_nil, bne_self_eq_false]
  unfold Builtin.Frozenset.addrOf Builtin.Frozenset.sizeOf
  refine wpAny_bind (wpAny_pure (wpAny_bind (wpAny_pure ?_)))
  refine wpAny_bind (wpAny_bind (wpAny_setEntries_of (o := setO trueS ep (T1 (byT w))) ho rfl (T1_fits _) (wpAny_pure ?_)))
  unfold setDrawn setsByText
  simp only [bind_assoc]
  refine wpAny_bind (wpAny_setState_of (o := setO trueS ep (T1 (byT w))) ho rfl (T1_fits _) ?_)
  dsimp only
  refine wpAny_bind (wpAny_askSetting (wpAny_bind (wpAny_pure (wpAny_bind (wpAny_pure ?_)))))
  split
  · rename_i hd
    have hd' : ((_ : Bool) && false) = true := hd
    rw [Bool.and_false] at hd'
    cases hd'
  refine wpAny_bind (wpAny_pure (wpAny_bind (wpAny_setEpoch_of (o := setO trueS ep (T1 (byT w))) ho rfl (T1_fits _) ?_)))
  refine wpAny_bind (wpAny_newObj_type ?_ (by size_fits))
  exact wpAny_pure ⟨_, rfl, _, _, ⟨_, Heap.get?_push_size _ rfl, rfl⟩, slot_seti_next.lookup, h⟩
noncomputable def nxS (b : Bool) : Nat := if b then 0 else 2
theorem pick_one (f : Nat → Nat) : pickOrder f trueS = trueS := by
  show pickOrder.go f 1 0 [(1, Value.bool true)] #[] = _
  simp [pickOrder.go, Nat.mod_one]
theorem setNext_1 {Q : Option (Value × Nat) → Shared → Prop} (ho : s.heap.get? D = some (setO trueS ep (T1 (byT w)))) (h : Q (some (.bool true, nxS (byT w))) s) : wpAny (model prog w) A (setNext D 0 0 ep) Q E s := by
  unfold setNext setsByText
  refine wpAny_bind (wpAny_setState_of (o := setO trueS ep (T1 (byT w))) ho rfl (T1_fits _) ?_)
  dsimp only
  refine wpAny_bind (wpAny_bind (wpAny_askSetting (wpAny_pure ?_)))
  show wpAny _ _ (if byT w = true then _ else _) _ _ _
  cases hb : byT w with
  | true =>
    rw [if_pos rfl, if_neg (by simp)]
    refine wpAny_bind ?_
    unfold setWalk setsByText
    rw [hb] at ho
    refine wpAny_bind (wpAny_setState_of (o := setO trueS ep (T1 true)) ho rfl (T1_fits _) ?_)
    dsimp only
    refine wpAny_bind (wpAny_bind (wpAny_askSetting (wpAny_pure ?_)))
    show wpAny _ _ (if byT w = true then _ else _) _ _ _
    rw [hb, if_pos rfl]
    refine wpAny_bind (wpAny_askSetting (wpAny_pure (wpAny_pure ?_)))
    rw [hb] at h
    rw [pick_one]
    exact h
  | false =>
    rw [if_neg (by decide)]
    split
    · rename_i hd
      exact absurd (show false = true from hd) (by decide)
    refine wpAny_bind (wpAny_pure (wpAny_pure ?_))
    rw [hb] at h
    exact h
theorem setNext_2 {Q : Option (Value × Nat) → Shared → Prop} (ho : s.heap.get? D = some (setO trueS ep (T1 (byT w)))) (h : Q none s) : wpAny (model prog w) A (setNext D (nxS (byT w)) 1 ep) Q E s := by
  unfold setNext setsByText
  refine wpAny_bind (wpAny_setState_of (o := setO trueS ep (T1 (byT w))) ho rfl (T1_fits _) ?_)
  dsimp only
  refine wpAny_bind (wpAny_bind (wpAny_askSetting (wpAny_pure ?_)))
  show wpAny _ _ (if byT w = true then _ else _) _ _ _
  cases hb : byT w with
  | true =>
    rw [if_pos rfl, if_neg (by simp)]
    refine wpAny_bind ?_
    unfold setWalk setsByText
    rw [hb] at ho
    refine wpAny_bind (wpAny_setState_of (o := setO trueS ep (T1 true)) ho rfl (T1_fits _) ?_)
    dsimp only
    refine wpAny_bind (wpAny_bind (wpAny_askSetting (wpAny_pure ?_)))
    show wpAny _ _ (if byT w = true then _ else _) _ _ _
    rw [hb, if_pos rfl]
    refine wpAny_bind (wpAny_askSetting (wpAny_pure (wpAny_pure ?_)))
    rw [pick_one]
    exact h
  | false =>
    rw [if_neg (by decide)]
    split
    · rename_i hd
      exact absurd (show false = true from hd) (by decide)
    refine wpAny_bind (wpAny_pure (wpAny_pure ?_))
    exact h
theorem seti_1 {I : Addr} {Q : Option Value → Shared → Prop} (ho : s.heap.get? D = some (setO trueS ep (T1 (byT w)))) (hI : s.heap.get? I = some (setI D 0 0 ep)) (h : ∀ h', h'.get? I = some (setI D (nxS (byT w)) 1 ep) → Heap.SameBut I s.heap h' → Q (some (.bool true)) { s with heap := h' }) : wpAny (model prog w) A (pyNext (.ref I)) Q E s := by
  have hT : s.TypeIs (.ref I) "set_iterator" := ⟨_, hI, rfl⟩
  unfold pyNext
  refine wpAny_bind (wpAny_attempt (wpAny_callSpecial?_slot (name := Str.ofString "__next__") hT slot_seti_next (wpAny_call_entry slot_seti_next hT entry_seti_next ?_ (args_seti_next _))))
  unfold Builtin.«set_iterator.__next__» slotArgs
  refine wpAny_bind (wpAny_pure (wpAny_bind (wpAny_fieldsOf hI rfl ?_)))
  dsimp only
  refine wpAny_bind (wpAny_setEntries_of (o := setO trueS ep (T1 (byT w))) ho rfl (T1_fits _) ?_)
  rw [if_neg (by decide)]
  dsimp only [rawInt]
  refine wpAny_bind (setNext_1 ho ?_)
  dsimp only
  refine wpAny_bind (wpAny_setField_rec hI (by simp) fun h1 e1 s1 => ?_)
  refine wpAny_bind (wpAny_setField_rec e1 (by simp) fun h2 e2 s2 => ?_)
  refine wpAny_pure ⟨_, rfl, wpAny_pure (h h2 ?_ ⟨s2.1.trans s1.1, fun b hb => (s2.2 b hb).trans (s1.2 b hb)⟩)⟩
  rw [e2]
  simp [rawInt]
theorem seti_2 {I : Addr} {Q : Option Value → Shared → Prop} (hh : A.handled = none) (ho : s.heap.get? D = some (setO trueS ep (T1 (byT w)))) (hI : s.heap.get? I = some (setI D (nxS (byT w)) 1 ep)) (h : ∀ h', Heap.ExtBut I s.heap h' → Q none { s with heap := h' }) : wpAny (model prog w) A (pyNext (.ref I)) Q E s := by
  have hT : s.TypeIs (.ref I) "set_iterator" := ⟨_, hI, rfl⟩
  unfold pyNext
  refine wpAny_bind (wpAny_attempt (wpAny_callSpecial?_slot (name := Str.ofString "__next__") hT slot_seti_next (wpAny_call_entry slot_seti_next hT entry_seti_next ?_ (args_seti_next _))))
  unfold Builtin.«set_iterator.__next__» slotArgs
  refine wpAny_bind (wpAny_pure (wpAny_bind (wpAny_fieldsOf hI rfl ?_)))
  dsimp only
  refine wpAny_bind (wpAny_setEntries_of (o := setO trueS ep (T1 (byT w))) ho rfl (T1_fits _) ?_)
  rw [if_neg (by decide)]
  dsimp only [rawInt]
  refine wpAny_bind (setNext_2 ho ?_)
  dsimp only
  refine wpAny_bind (wpAny_setField_rec hI (by simp) fun h1 e1 s1 => ?_)
  show wpAny _ _ (newExc (.type "StopIteration") [] >>= _) _ _ _
  refine wpAny_bind ?_
  simp only [newExc, newTuple]
  refine wpAny_bind (wpAny_newObj_type ?_ (by size_fits))
  refine wpAny_bind (m := firstArgMember _ _) (wpAny_of_eq (a := Value.none) (by first | rfl | (simp only [firstArgMember]; rfl)) ?_)
  refine wpAny_newObj_type ?_ (by size_fits)
  simp only [raiseNew]
  refine wpAny_bind (wpAny_handled ?_)
  rw [show A.in1.handled = none from hh]
  refine wpAny_bind (wpAny_pure (wpAny_throw ?_))
  refine wpAny_bind (wpAny_isInstance (T := "StopIteration") (b := true) ⟨_, Heap.get?_push_size _ rfl, rfl⟩ isSubtype_stop ?_)
  exact wpAny_pure (h _ ((s1.extBut.push _).push _))
theorem unpack_true {Q : List Value → Shared → Prop} (hh : A.handled = none) (ho : s.heap.get? D = some (setO trueS ep (T1 (byT w)))) (h : ∀ h', Keeps s.heap h' → Q [.bool true] { s with heap := h' }) : wpAny (model prog w) A (unpackItems (.ref D) 1 none) Q E s := by
  have hT : s.TypeIs (.ref D) "set" := ⟨_, ho, rfl⟩
  have hn : ∀ a : Addr, s.heap.objs.size ≤ a → s.heap.get? a = none := fun a ha => by
    cases e : s.heap.get? a with
    | none => rfl
    | some o => exact absurd (Heap.lt_size e) (Nat.not_lt.mpr ha)
  have hDI : D ≠ s.heap.objs.size := fun q => by rw [q, hn _ (Nat.le_refl _)] at ho; cases ho
  unfold unpackItems
  refine wpAny_bind ?_
  unfold notIterableAtAll
  refine wpAny_bind (wpAny_specialOf hT PySem.F.slot_set_iter.lookup (wpAny_pure ?_))
  simp only [Bool.false_eq_true, if_false]
  refine wpAny_bind (wpAny_holding (iter_true ho ?_))
  have up : Keeps s.heap (s.heap.push (setI D 0 0 ep)) := fun b o e => Heap.get?_push_of_some _ e
  refine wpAny_bind (wpAny_holding ?_)
  show wpAny _ _ (pyNext (.ref s.heap.objs.size) >>= _) _ _ _
  refine wpAny_bind (seti_1 (up _ _ ho) (Heap.get?_push_size _ rfl) fun h1 e1 s1 => ?_)
  have o1 := s1.extBut _ _ hDI (up _ _ ho)
  refine wpAny_bind (wpAny_holding (wpAny_pure (wpAny_pure ?_)))
  rw [if_neg (by simp)]
  refine wpAny_bind (wpAny_holding (seti_2 hh o1 e1 fun h2 x2 => ?_))
  rw [if_neg (by simp)]
  refine wpAny_pure (h h2 fun b o e => x2 b o ?_ (s1.extBut b o ?_ (up b o e)))
  · rintro rfl; rw [hn _ (Nat.le_refl _)] at e; cases e
  · rintro rfl; rw [hn _ (Nat.le_refl _)] at e; cases e
end

theorem compTurn_set (elt target iter : Expr) (scope : Scope) (pos : Pos) (it acc : Value) (env : Env) :
    compTurn (.SetComp elt [⟨target, iter, [], 0⟩] scope pos) 0 it acc env = (standAt iter.pos >>= fun _ => pyNext it >>= fun r => match r with
      | none => pure (.done .next)
      | some v => letOwnedTupleGo target it v >>= fun _ => assign target env v >>= fun _ =>
        (eval elt env >>= fun x => standAt elt.pos >>= fun _ => call (.builtin "set.add") [acc, x] >>= fun _ => pure ()) >>= fun _ =>
          again (.compLoop (.SetComp elt [⟨target, iter, [], 0⟩] scope pos) 0 it acc env)) := by rfl
section
variable {prog : Program} {w : World} {A : Around} {R : Result → Shared → Prop} {s : Shared}
theorem compStart_set {elt target iter : Expr} {scope : Scope} {pos : Pos} {it acc : Value} {env : Env}
    (h0 : codeAny (model prog w) A (.compLoop (.SetComp elt [⟨target, iter, [], 0⟩] scope pos) 0 it acc env) R s)
    (h : wpAny (model prog w) A (pyIter it) (fun it' s' => codeAny (model prog w) A (.compLoop (.SetComp elt [⟨target, iter, [], 0⟩] scope pos) 0 it' acc env) R s') (notedBy (model prog w) A env fun x s' => R (.error x) s') s) :
    codeAny (model prog w) A (.compStart (.SetComp elt [⟨target, iter, [], 0⟩] scope pos) 0 it acc env) R s := by
  refine codeAny_of_tree ?_
  show wpAny _ A ((compStart (.SetComp elt [⟨target, iter, [], 0⟩] scope pos) 0 it acc env).onRaise (fun x => do noteFrame x env; standAt theWindowsPlace)) _ _ s
  refine wpAny_notedAt ?_
  unfold compStart
  show wpAny _ A (ask >>= _) _ _ s
  refine wpAny_bind (wpAny_askSetting (wpAny_ite ?_))
  split
  · first
      | exact wpAny_bind (wpAny_pure (wpAny_pure (And.intro rfl h0)))
      | exact wpAny_pure (And.intro rfl h0)
  · first
      | exact wpAny_bind (wpAny_rule (wpAny_bind (wpAny_standAt (wpAny_bind (wpAny_mono h (fun it' s' h' => wpAny_pure (And.intro rfl h')) fun _ _ x => x)))))
      | (refine wpAny_bind (wpAny_rule ?_); show wpAny _ _ (standAt iter.pos >>= _) _ _ s; exact wpAny_bind (wpAny_standAt (wpAny_bind (wpAny_mono h (fun it' s' h' => wpAny_pure (And.intro rfl h')) fun _ _ x => x))))
theorem compLoop_set {elt target iter : Expr} {scope : Scope} {pos : Pos} {it acc : Value} {env : Env} (I : Nat → Shared → Prop)
    (turn : ∀ n s, I n s → wpAny (model prog w) A (pyNext it) (fun r s₁ => match r with
      | none => R (.ok .next) s₁
      | some v => wpAny (model prog w) A (assign target env v) (fun _ s₂ => wpAny (model prog w) A (eval elt env) (fun x s₃ =>
          wpAny (model prog w) A (call (.builtin "set.add") [acc, x]) (fun _ s₄ => ∃ m, m < n ∧ I m s₄) (notedBy (model prog w) A env fun e s' => R (.error e) s') s₃) (notedBy (model prog w) A env fun e s' => R (.error e) s') s₂) (notedBy (model prog w) A env fun e s' => R (.error e) s') s₁) (notedBy (model prog w) A env fun e s' => R (.error e) s') s)
    (n : Nat) (h : I n s) (ht : ∀ v, letOwnedTupleGo target it v = pure () := by intro _; rfl) :
    codeAny (model prog w) A (.compLoop (.SetComp elt [⟨target, iter, [], 0⟩] scope pos) 0 it acc env) R s := by
  refine codeAny_loop rfl I (fun n s hI => ?_) n h
  show wpAny _ A ((compTurn (.SetComp elt [⟨target, iter, [], 0⟩] scope pos) 0 it acc env).onRaise (fun x => do noteFrame x env; theTreesLotGoes x)) _ _ s
  refine wpAny_noted ?_
  rw [compTurn_set]
  refine wpAny_bind (wpAny_standAt (wpAny_bind (wpAny_mono (turn n s hI) (fun r s₁ h₁ => ?_) fun _ _ h' => h')))
  cases r with
  | none => exact wpAny_pure h₁
  | some v =>
    refine wpAny_bind (wpAny_of_eq (ht v) ?_)
    refine wpAny_bind (wpAny_mono h₁ (fun _ s₂ h₂ => wpAny_bind (wpAny_bind (wpAny_mono h₂ (fun x s₃ h₃ => wpAny_bind (wpAny_standAt (wpAny_bind (wpAny_mono h₃ (fun _ s₄ h₄ => wpAny_pure (wpAny_pure ⟨rfl, h₄⟩)) fun _ _ h' => h')))) fun _ _ h' => h'))) fun _ _ h' => h')
end
section
variable {prog : Program} {w : World} {A : Around} {env : Env}
/-- between its turns -/
inductive SetInv (w : World) (St : Nat → Heap → Prop) (C D : Addr) (n : Nat) (s : Shared) (k : Nat) (s' : Shared) : Prop
  | mk (h2 : Heap) (tk : Nat) (m' : Str → Option Value) (i : Nat) : s' = { s with heap := h2, toks := tk } → St i h2 → (i = 0 → h2.get? D = some (setO #[] 0 (T0 (byT w)))) → (0 < i → h2.get? D = some (setO trueS 1 (T1 (byT w)))) → h2.Ns C m' → i ≤ n → k = n + 1 - i → Keeps s.heap h2 → SetInv w St C D n s k s'
/-- a set comprehension whose elements are all True -/
theorem setcomp_true {elt iter : Expr} {x : Str} {px : Pos} {scope : Scope} {cl : List (Str × Addr)} {pos : Pos} {s : Shared} {Q : Value → Shared → Prop} {l : Addr} {vs : List Value}
    (hh : A.handled = none) (hclos : closureFor scope env = pure cl) (hcell : ∀ y ∈ scope.names, y.2 ≠ .cell) (hkind : scope.kind = .function)
    (hnames : ∀ y ∈ scope.names, y.2 = .local → scope.names.lookup y.1 = some .local) (hx : scope.names.lookup x = some .local)
    (hiter : ∀ Q' : Value → Shared → Prop, Q' (.ref l) s → wpAny (model prog w) A (eval iter env) Q' (fun _ _ => False) s) (hl : SeqAtL s.heap l vs) (hne : vs ≠ [])
    (helt : ∀ (C : Addr) (i : Nat) (v : Value) (s₄ : Shared) (m₄ : Str → Option Value), vs[i]? = some v → s.heap.objs.size < C → s₄.heap.Ns C m₄ → m₄ x = some v → PySem.Keeps s s₄ →
      wpAny (model prog w) A (eval elt (compEnvC scope cl C env)) (fun y s₅ => y = .bool true ∧ PySem.Keeps s₄ s₅) (fun _ _ => False) s₄)
    (done : ∀ D ep h' tk, h'.get? D = some (setO trueS ep (T1 (byT w))) → Keeps s.heap h' → Q (.ref D) { s with heap := h', toks := tk })
    (hs : ∀ x, foldedSetIterable iter env x = pure x := by intro _; rfl) :
    wpAny (model prog w) A (eval (.SetComp elt [⟨.Name x px, iter, [], 0⟩] scope pos) env) Q (fun _ _ => False) s := by
  rw [arm_eval_SetComp]
  refine wpAny_comprehension_free (use := none) rfl hs hclos hkind hnames (hiter _ (src_iter hh hl fun h' St Y hsz' => ?_))
  obtain ⟨ol, hol⟩ := hl.ex
  have hlt : l < s.heap.objs.size := Heap.lt_size hol
  have offI : ∀ b o, s.heap.get? b = some o → b ∉ [s.heap.objs.size] := fun b o e hm => absurd (Heap.lt_size e) ((List.mem_singleton.mp hm) ▸ Nat.lt_irrefl _)
  refine newSet_T (wpAny_newFunctionEnv hcell (by intro y hy; simp at hy) (fun h₁ hns₁ hsb₁ => ?_) hkind)
  dsimp only at hns₁ hsb₁ ⊢
  generalize hH2 : h'.push (setO #[] 0 (T0 (byT w))) = H2 at hns₁ hsb₁ ⊢
  have hC : H2.objs.size = h'.objs.size + 1 := by rw [← hH2, Heap.size_push]
  obtain ⟨D, hDe⟩ : ∃ D, h'.objs.size = D := ⟨_, rfl⟩
  obtain ⟨C, hCe⟩ : ∃ C, H2.objs.size = C := ⟨_, rfl⟩
  rw [hDe, hCe] at hC
  rw [hCe] at hns₁ hsb₁ ⊢
  rw [hDe] at hsz' ⊢
  obtain ⟨I, hIe⟩ : ∃ I, s.heap.objs.size = I := ⟨_, rfl⟩
  rw [hIe] at Y hsz' offI hlt ⊢
  have hDC : D ≠ C := by rw [hC]; exact Nat.ne_of_lt (Nat.lt_succ_self _)
  have hID : I ≠ D := by rw [hsz']; exact Nat.ne_of_lt (Nat.lt_succ_self _)
  have hIC : I ≠ C := by rw [hC, hsz']; exact Nat.ne_of_lt (Nat.lt_succ_of_lt (Nat.lt_succ_self _))
  have hlD : l ≠ D := Nat.ne_of_lt (by rw [hsz']; exact Nat.lt_succ_of_lt hlt)
  have hlC : l ≠ C := Nat.ne_of_lt (by rw [hC, hsz']; exact Nat.lt_succ_of_lt (Nat.lt_succ_of_lt hlt))
  have hset : h₁.get? D = some (setO #[] 0 (T0 (byT w))) := hsb₁.extBut _ _ hDC (Heap.get?_push_of_some _ (hH2 ▸ hDe ▸ Heap.get?_push_size _ rfl))
  have up1 : ∀ b o, b ≠ C → h'.get? b = some o → h₁.get? b = some o := fun b o hb e => hsb₁.extBut b o hb (Heap.get?_push_of_some _ (hH2 ▸ Heap.get?_push_of_some _ e))
  have fpC : ∀ b ∈ [I, l], b ≠ C ∧ b ≠ D := fun b hb => by
    rcases List.mem_cons.mp hb with rfl | hb
    · exact ⟨hIC, hID⟩
    · rw [List.mem_singleton.mp hb]; exact ⟨hlC, hlD⟩
  have old : ∀ b o, s.heap.get? b = some o → b ≠ C ∧ b ≠ D ∧ b ≠ I := fun b o e => by
    have hb := Heap.lt_size e
    rw [hIe] at hb
    exact ⟨Nat.ne_of_lt (by rw [hC, hsz']; exact Nat.lt_succ_of_lt (Nat.lt_succ_of_lt hb)), Nat.ne_of_lt (by rw [hsz']; exact Nat.lt_succ_of_lt hb), Nat.ne_of_lt hb⟩
  have st1 : St 0 h₁ := Y.walk.frame _ _ _ Y.st fun b hb o e => up1 b o (fpC b hb).1 e
  have keep1 : Keeps s.heap h₁ := fun b o e => up1 b o (old b o e).1 (Y.up b o e)
  have loop : codeAny (model prog w) A (.compLoop (.SetComp elt [⟨.Name x px, iter, [], 0⟩] scope pos) 0 (.ref I) (.ref D) (compEnvC scope cl C env)) (compPost (model prog w) A (fun _ _ => False) none Q (.ref D) C) { s with heap := h₁, toks := s.toks + ([] : List (Str × Value)).length } := by
    refine compLoop_set (SetInv w St C D vs.length s) ?_ (vs.length + 1)
      ⟨h₁, _, _, 0, rfl, st1, fun _ => hset, fun h => absurd h (Nat.lt_irrefl _), hns₁, Nat.zero_le _, rfl, keep1⟩ fun _ => rfl
    rintro k s' ⟨H, tk, m', i, rfl, hst', hz, hp, hn', hi, rfl, hk⟩
    by_cases hlt : i < vs.length
    · refine Y.walk.item i _ _ _ hlt hst' fun v h₂ tk₂ hPv hst₂ hk₂ => ?_
      have offw : ∀ b, b ≠ I → b ∉ [I] := fun b hb hm => hb (List.mem_singleton.mp hm)
      have hn₂ : h₂.Ns C m' := hn'.at' fun o e => hk₂ _ o (offw _ (Ne.symm hIC)) e
      refine wpAny_assign_Name (wpAny_storeName_local (lookup_relabel_local hx) hn₂ (fun h₃ hn₃ hs₃ => ?_) (by simp [compEnvC, relabel, hkind]))
      have up3 : ∀ b o, b ≠ C → b ≠ I → H.get? b = some o → h₃.get? b = some o := fun b o hb hbI e => (hs₃.2 b hb).trans (hk₂ b o (offw b hbI) e)
      have k3 : Keeps s.heap h₃ := fun b o e => up3 b o (old b o e).1 (old b o e).2.2 (hk b o e)
      have st3 : St (i + 1) h₃ := Y.walk.frame _ _ _ hst₂ fun b hb o e => (hs₃.2 b (fpC b hb).1).trans e
      refine wpAny_mono (helt C i v { s with heap := h₃, toks := tk₂ + 1 } _ hPv (by rw [hIe, hC, hsz']; exact Nat.lt_succ_of_lt (Nat.lt_succ_self _)) hn₃ (by simp) ⟨_, _, rfl, k3⟩) (fun y s₄ h₄ => ?_) fun _ _ e => e.elim
      obtain ⟨rfl, h4, tk4, rfl, k4⟩ := h₄
      have st4 : St (i + 1) h4 := Y.walk.frame _ _ _ st3 fun b _ o e => k4 b o e
      have fin : ∀ h5 tk5, h5.get? D = some (setO trueS 1 (T1 (byT w))) → (∀ b o, b ≠ D → h4.get? b = some o → h5.get? b = some o) → ∃ m, m < vs.length + 1 - i ∧ SetInv w St C D vs.length s m { s with heap := h5, toks := tk5 } := fun h5 tk5 hD5 k5 =>
        ⟨vs.length + 1 - (i + 1), step_lt hlt, h5, tk5, _, i + 1, rfl, Y.walk.frame _ _ _ st4 fun b hb o e => k5 b o (fpC b hb).2 e, fun h => absurd h (Nat.succ_ne_zero _), fun _ => hD5, (hn₃.keeps k4).at' fun o e => k5 _ o (Ne.symm hDC) e, hlt, rfl, fun b o e => k5 b o (old b o e).2.1 (k4 b o (k3 b o e))⟩
      rcases Nat.eq_zero_or_pos i with hi0 | hi0
      · have hD4 := k4 _ _ (up3 _ _ hDC (Ne.symm hID) (hz hi0))
        exact add_first hD4 fun h5 tk5 e5 s5 => fin h5 tk5 e5 fun b o hb e => s5.extBut b o hb e
      · have hD4 := k4 _ _ (up3 _ _ hDC (Ne.symm hID) (hp hi0))
        exact add_again hD4 fun tk5 => fin h4 tk5 hD4 fun b o _ e => e
    · have hin : i = vs.length := Nat.le_antisymm hi (Nat.not_lt.mp hlt)
      subst hin
      have hpos : 0 < vs.length := by cases vs with | nil => exact absurd rfl hne | cons => exact Nat.succ_pos _
      refine Y.walk.done _ _ _ hst' fun h₂ tk₂ hk₂ => ?_
      have offw : ∀ b, b ≠ I → b ∉ [I] := fun b hb hm => hb (List.mem_singleton.mp hm)
      refine ⟨m', hn'.at' fun o e => hk₂ _ o (offw _ (Ne.symm hIC)) e, fun h3 hs3 => ?_⟩
      exact done D 1 h3 _ (hs3.extBut _ _ hDC (hk₂ _ _ (offw _ (Ne.symm hID)) (hp hpos))) fun b o e => hs3.extBut b o (old b o e).1 (hk₂ b o (offw _ (old b o e).2.2) (hk b o e))
  exact compStart_set loop (Y.walk.self 0 _ _ _ st1 loop)
end

noncomputable def ltS (x y : Str) : Bool := decide (x.cps.toList < y.cps.toList)
/-- the order of lists of texts -/
noncomputable def ltL : List Str → List Str → Bool
  | x :: xs, y :: ys => if x = y then ltL xs ys else ltS x y
  | [], _ :: _ => true
  | _, [] => false
theorem ltL_drop {la lb : List Str} {i : Nat} {x y : Str} (hx : la[i]? = some x) (hy : lb[i]? = some y) : ltL (la.drop i) (lb.drop i) = if x = y then ltL (la.drop (i + 1)) (lb.drop (i + 1)) else ltS x y := by
  obtain ⟨h1, e1⟩ := List.getElem?_eq_some_iff.mp hx
  obtain ⟨h2, e2⟩ := List.getElem?_eq_some_iff.mp hy
  rw [List.drop_eq_getElem_cons h1, List.drop_eq_getElem_cons h2, e1, e2]
  rfl
theorem ltL_end {la lb : List Str} {i : Nat} (hi : i ≤ la.length) (hj : i ≤ lb.length) (h : la.length = i ∨ lb.length = i) : ltL (la.drop i) (lb.drop i) = decide (la.length < lb.length) := by
  rcases h with h | h
  · rw [List.drop_of_length_le (by omega)]
    cases e : lb.drop i with
    | nil =>
      have : lb.length ≤ i := by simpa using e
      simp [ltL]; omega
    | cons y r =>
      have : (lb.drop i).length = r.length + 1 := by rw [e]; rfl
      rw [List.length_drop] at this
      simp [ltL]; omega
  · rw [List.drop_of_length_le (l := lb) (by omega)]
    cases e : la.drop i with
    | nil => simp [ltL]; omega
    | cons y r => simp [ltL]; omega
theorem vget_some {l : List (Str × Tok)} {i : Nat} {x : Str} {t : Tok} (h : l[i]? = some (x, t)) : (strValues l).toArray[i]? = some (.str x t) := by unfold strValues; simp [h]
theorem vget_none {l : List (Str × Tok)} {i : Nat} (h : l.length ≤ i) : (strValues l).toArray[i]? = none := by unfold strValues; simp [h]
section
variable {prog : Program} {w : World} {A : Around} {E : Value → Shared → Prop} {s : Shared} {a b : Addr} {l k : List (Str × Tok)} {oa ob : Obj} {na nb : Nat} {R : Result → Shared → Prop}
theorem lt_loop (ha : s.heap.get? a = some oa) (da : oa.data = .seq (strValues l).toArray na) (hb : s.heap.get? b = some ob) (db : ob.data = .seq (strValues k).toArray nb) :
    ∀ (f i : Nat), l.length - i = f → i ≤ l.length → i ≤ k.length → R (.ok (.ret (.bool (ltL ((l.map (·.1)).drop i) ((k.map (·.1)).drop i))))) s → codeAny (model prog w) A (.builtin "list.__eq__.loop" ⟨[.ref a, .ref b, rawInt i, rawInt 0], []⟩) R s := by
  intro f
  induction f with
  | zero =>
    intro i hf h1 h2 h
    have hl : l.length = i := (sub_zero hf h1).symm
    refine codeAny_builtin PySem.MeetsSeq3.entry_eq_loop ?_
    rw [Around.under_plainId PySem.MeetsSeq3.plain_eq_loop _]
    show wpAny _ _ (Builtin.List.listItems (.ref a) >>= _) _ _ _
    refine wpAny_bind (wpAny_listItems ha da ?_)
    refine wpAny_bind (wpAny_listItems hb db ?_)
    dsimp only [rawInt]
    rw [Int.toNat_natCast, vget_none (Nat.le_of_eq hl)]
    refine wpAny_bind (wpAny_listItems ha da (wpAny_bind (wpAny_listItems hb db ?_)))
    rw [ltL_end (by simpa using h1) (by simpa using h2) (.inl (by simpa using hl))] at h
    have e : (decide ((strValues l).toArray.size < (strValues k).toArray.size)) = decide ((l.map (·.1)).length < (k.map (·.1)).length) := by simp [strValues]
    rw [← e] at h
    exact wpAny_pure h
  | succ f ih =>
    intro i hf h1 h2 h
    have hil : i < l.length := sub_lt1 hf
    refine codeAny_builtin PySem.MeetsSeq3.entry_eq_loop ?_
    rw [Around.under_plainId PySem.MeetsSeq3.plain_eq_loop _]
    show wpAny _ _ (Builtin.List.listItems (.ref a) >>= _) _ _ _
    refine wpAny_bind (wpAny_listItems ha da ?_)
    refine wpAny_bind (wpAny_listItems hb db ?_)
    dsimp only [rawInt]
    obtain ⟨⟨x, t⟩, hx0⟩ : ∃ q, l[i]? = some q := ⟨_, List.getElem?_eq_getElem hil⟩
    rw [Int.toNat_natCast, vget_some hx0]
    have hx : (l.map (·.1))[i]? = some x := by rw [List.getElem?_map, hx0]; rfl
    by_cases hk : i < k.length
    · obtain ⟨⟨y, u⟩, hy0⟩ : ∃ q, k[i]? = some q := ⟨_, List.getElem?_eq_getElem hk⟩
      have hy : (k.map (·.1))[i]? = some y := by rw [List.getElem?_map, hy0]; rfl
      rw [vget_some hy0]
      dsimp only
      rw [ltL_drop hx hy] at h
      refine wpAny_bind (wpAny_eqBool_str ?_)
      by_cases hxy : x = y
      · subst hxy
        rw [if_pos rfl] at h
        simp only [decide_true, if_true]
        refine wpAny_bind (wpAny_pure (wpAny_pure ⟨plainId_quiet PySem.MeetsSeq3.plain_eq_loop _, ?_⟩))
        have e : (rawInt ((i : Int) + 1)) = rawInt ((i + 1 : Nat) : Int) := rfl
        rw [show (Value.int ((i : Int) + 1) 0) = rawInt ((i + 1 : Nat) : Int) from rfl]
        exact ih (i + 1) (sub_succ hf) hil hk h
      · rw [if_neg hxy] at h
        simp only [decide_eq_false hxy, Bool.false_eq_true, if_false]
        refine wpAny_bind (wpAny_listItems ha da (wpAny_bind (wpAny_listItems hb db ?_)))
        rw [vget_some hx0, vget_some hy0]
        dsimp only
        refine wpAny_bind (richCompare_gives (op := .Lt) (T := "str") rfl rfl PySem.F.slot_str_lt PySem.F.entry_str_lt (PySem.F.args_str_lt_2 _ _) (gives_str_lt x y t u) (fun x => nomatch x) ?_)
        exact wpAny_pure h
    · have hk' : k.length = i := Nat.le_antisymm (Nat.not_lt.mp hk) h2
      rw [vget_none (Nat.le_of_eq hk')]
      dsimp only
      refine wpAny_bind (wpAny_listItems ha da (wpAny_bind (wpAny_listItems hb db ?_)))
      rw [ltL_end (by simpa using h1) (by simpa using h2) (.inr (by simpa using hk'))] at h
      have e : (decide ((strValues l).toArray.size < (strValues k).toArray.size)) = decide ((l.map (·.1)).length < (k.map (·.1)).length) := by simp [strValues]
      rw [← e] at h
      exact wpAny_pure h
theorem lt_lists {Q : Value → Shared → Prop} (ha : s.heap.IsList a (strValues l).toArray) (hb : s.heap.IsList b (strValues k).toArray) (hu : A.units < cLine) (h : Q (.bool (ltL (l.map (·.1)) (k.map (·.1)))) s) : wpAny (model prog w) A (richCompare .Lt (.ref a) (.ref b)) Q E s := by
  obtain ⟨oa, ha, ca, na, da⟩ := ha
  obtain ⟨ob, hb, cb, nb, db⟩ := hb
  have hTb : s.TypeIs (.ref b) "list" := ⟨ob, hb, cb⟩
  refine wpAny_richCompare_same_room (op := .Lt) ⟨oa, ha, ca⟩ hTb PySem.F.slot_list_lt ?_ hu
  refine wpAny_call (codeAny_call_builtin PySem.F.slot_list_lt.plain PySem.F.entry_list_lt (PySem.F.slot_list_lt.check _ _ _ _ _ _ _ _ ⟨oa, ha, ca⟩ (PySem.F.args_list_lt_2 _ _) ?_))
  show wpAny _ _ (isInstance (.ref b) (.type "list") >>= _) _ _ _
  refine wpAny_bind (wpAny_isInstance (T := "list") (b := true) hTb sub_list_self ?_)
  rw [if_neg (by decide), if_neg (by decide)]
  refine wpAny_pure ⟨plainId_quiet PySem.MeetsSeq3.plain_eq_loop _, ?_⟩
  refine lt_loop ha da hb db l.length 0 rfl (Nat.zero_le _) (Nat.zero_le _) ?_
  rw [List.drop_zero, List.drop_zero]
  exact ⟨(fun x => nomatch x), h⟩
end
section
variable {prog : Program} {w : World} {A : Around} {E : Value → Shared → Prop} {s : Shared} {a b : Addr} {l k : List (Str × Tok)} {oa ob : Obj} {na nb : Nat} {R : Result → Shared → Prop}
theorem gt_loop (ha : s.heap.get? a = some oa) (da : oa.data = .seq (strValues l).toArray na) (hb : s.heap.get? b = some ob) (db : ob.data = .seq (strValues k).toArray nb) :
    ∀ (f i : Nat), l.length - i = f → i ≤ l.length → i ≤ k.length → R (.ok (.ret (.bool (ltL ((k.map (·.1)).drop i) ((l.map (·.1)).drop i))))) s → codeAny (model prog w) A (.builtin "list.__eq__.loop" ⟨[.ref a, .ref b, rawInt i, rawInt 4], []⟩) R s := by
  intro f
  induction f with
  | zero =>
    intro i hf h1 h2 h
    have hl : l.length = i := (sub_zero hf h1).symm
    refine codeAny_builtin PySem.MeetsSeq3.entry_eq_loop ?_
    rw [Around.under_plainId PySem.MeetsSeq3.plain_eq_loop _]
    show wpAny _ _ (Builtin.List.listItems (.ref a) >>= _) _ _ _
    refine wpAny_bind (wpAny_listItems ha da ?_)
    refine wpAny_bind (wpAny_listItems hb db ?_)
    dsimp only [rawInt]
    rw [Int.toNat_natCast, vget_none (Nat.le_of_eq hl)]
    refine wpAny_bind (wpAny_listItems ha da (wpAny_bind (wpAny_listItems hb db ?_)))
    rw [ltL_end (by simpa using h2) (by simpa using h1) (.inr (by simpa using hl))] at h
    have e : (decide ((strValues k).toArray.size < (strValues l).toArray.size)) = decide ((k.map (·.1)).length < (l.map (·.1)).length) := by simp [strValues]
    rw [← e] at h
    exact wpAny_pure h
  | succ f ih =>
    intro i hf h1 h2 h
    have hil : i < l.length := sub_lt1 hf
    refine codeAny_builtin PySem.MeetsSeq3.entry_eq_loop ?_
    rw [Around.under_plainId PySem.MeetsSeq3.plain_eq_loop _]
    show wpAny _ _ (Builtin.List.listItems (.ref a) >>= _) _ _ _
    refine wpAny_bind (wpAny_listItems ha da ?_)
    refine wpAny_bind (wpAny_listItems hb db ?_)
    dsimp only [rawInt]
    obtain ⟨⟨x, t⟩, hx0⟩ : ∃ q, l[i]? = some q := ⟨_, List.getElem?_eq_getElem hil⟩
    rw [Int.toNat_natCast, vget_some hx0]
    have hx : (l.map (·.1))[i]? = some x := by rw [List.getElem?_map, hx0]; rfl
    by_cases hk : i < k.length
    · obtain ⟨⟨y, u⟩, hy0⟩ : ∃ q, k[i]? = some q := ⟨_, List.getElem?_eq_getElem hk⟩
      have hy : (k.map (·.1))[i]? = some y := by rw [List.getElem?_map, hy0]; rfl
      rw [vget_some hy0]
      dsimp only
      rw [ltL_drop hy hx] at h
      refine wpAny_bind (wpAny_eqBool_str ?_)
      by_cases hxy : x = y
      · subst hxy
        rw [if_pos rfl] at h
        simp only [decide_true, if_true]
        refine wpAny_bind (wpAny_pure (wpAny_pure ⟨plainId_quiet PySem.MeetsSeq3.plain_eq_loop _, ?_⟩))
        have e : (rawInt ((i : Int) + 1)) = rawInt ((i + 1 : Nat) : Int) := rfl
        rw [show (Value.int ((i : Int) + 1) 0) = rawInt ((i + 1 : Nat) : Int) from rfl]
        exact ih (i + 1) (sub_succ hf) hil hk h
      · rw [if_neg (Ne.symm hxy)] at h
        simp only [decide_eq_false hxy, Bool.false_eq_true, if_false]
        refine wpAny_bind (wpAny_listItems ha da (wpAny_bind (wpAny_listItems hb db ?_)))
        rw [vget_some hx0, vget_some hy0]
        dsimp only
        refine wpAny_bind (richCompare_gives (op := .Gt) (T := "str") rfl rfl PySem.F.slot_str_gt PySem.F.entry_str_gt (PySem.F.args_str_gt_2 _ _) (gives_str_gt x y t u) (fun x => nomatch x) ?_)
        exact wpAny_pure h
    · have hk' : k.length = i := Nat.le_antisymm (Nat.not_lt.mp hk) h2
      rw [vget_none (Nat.le_of_eq hk')]
      dsimp only
      refine wpAny_bind (wpAny_listItems ha da (wpAny_bind (wpAny_listItems hb db ?_)))
      rw [ltL_end (by simpa using h2) (by simpa using h1) (.inl (by simpa using hk'))] at h
      have e : (decide ((strValues k).toArray.size < (strValues l).toArray.size)) = decide ((k.map (·.1)).length < (l.map (·.1)).length) := by simp [strValues]
      rw [← e] at h
      exact wpAny_pure h
theorem gt_lists {Q : Value → Shared → Prop} (ha : s.heap.IsList a (strValues l).toArray) (hb : s.heap.IsList b (strValues k).toArray) (hu : A.units < cLine) (h : Q (.bool (ltL (k.map (·.1)) (l.map (·.1)))) s) : wpAny (model prog w) A (richCompare .Gt (.ref a) (.ref b)) Q E s := by
  obtain ⟨oa, ha, ca, na, da⟩ := ha
  obtain ⟨ob, hb, cb, nb, db⟩ := hb
  have hTb : s.TypeIs (.ref b) "list" := ⟨ob, hb, cb⟩
  refine wpAny_richCompare_same_room (op := .Gt) ⟨oa, ha, ca⟩ hTb PySem.F.slot_list_gt ?_ hu
  refine wpAny_call (codeAny_call_builtin PySem.F.slot_list_gt.plain PySem.F.entry_list_gt (PySem.F.slot_list_gt.check _ _ _ _ _ _ _ _ ⟨oa, ha, ca⟩ (PySem.F.args_list_gt_2 _ _) ?_))
  show wpAny _ _ (isInstance (.ref b) (.type "list") >>= _) _ _ _
  refine wpAny_bind (wpAny_isInstance (T := "list") (b := true) hTb sub_list_self ?_)
  rw [if_neg (by decide), if_neg (by decide)]
  refine wpAny_pure ⟨plainId_quiet PySem.MeetsSeq3.plain_eq_loop _, ?_⟩
  refine gt_loop ha da hb db l.length 0 rfl (Nat.zero_le _) (Nat.zero_le _) ?_
  rw [List.drop_zero, List.drop_zero]
  exact ⟨(fun x => nomatch x), h⟩
end

/-- a walk beside which other things stand still -/
theorem walks_plus {prog : Program} {w : World} {A : Around} {I : Addr} {fp wr fp2 : List Addr} {n : Nat} {P : Nat → Value → Prop} {St : Nat → Heap → Prop} {B : Heap → Prop} (W : Walks prog w A I fp wr n P St)
    (hB : ∀ h h', B h → (∀ b ∈ fp2, ∀ o, h.get? b = some o → h'.get? b = some o) → B h') (hsep : ∀ b ∈ fp2, b ∉ wr) : Walks prog w A I (fp ++ fp2) wr n P (fun i h => St i h ∧ B h) where
  sub := fun b hb => List.mem_append_left _ (W.sub b hb)
  frame := fun i h h' st hk => ⟨W.frame i h h' st.1 fun b hb => hk b (List.mem_append_left _ hb), hB h h' st.2 fun b hb => hk b (List.mem_append_right _ hb)⟩
  item := fun i s Q E hi st hQ => W.item i s Q E hi st.1 fun v h' tk hP st' hk => hQ v h' tk hP ⟨st', hB _ _ st.2 fun b hb o e => hk b o (hsep b hb) e⟩ hk
  done := fun s Q E st hQ => W.done s Q E st.1 hQ
  self := fun i s Q E st hQ => W.self i s Q E st.1 hQ
section
variable {prog : Program} {w : World} {A : Around} {R : Result → Shared → Prop} {I : Addr} {fp wr : List Addr} {n : Nat} {P : Nat → Value → Prop} {St : Nat → Heap → Prop}
/-- as the library's, of items that are compared by what stands on the heap -/
theorem min_go (W : Walks prog w A.in1 I fp wr n P St) (bt : Nat → Nat → Bool) (hcmp : ∀ k i j vi vj (s : Shared) (Q : Value → Shared → Prop) (E : Value → Shared → Prop), St k s.heap → P i vi → P j vj → Q (.bool (bt i j)) s → wpAny (model prog w) A.in1 (richCompare .Lt vi vj) Q E s) (S : Addr) (hSf : S ∉ fp) :
    ∀ (d k : Nat) (s : Shared) (old : List Value) (c : Nat), n - k = d → k ≤ n → 0 < n → St k s.heap → (k = 0 → old = []) → (∀ j, k = j + 1 → ∃ vb, old = [vb, vb] ∧ P (argBest bt j) vb) →
    s.heap.get? S = some { cls := .type "list", dict := none, data := .seq old.toArray c, slots := #[] } →
    (∀ v h' tk, P (argBest bt (n - 1)) v → (∀ b o, b ∉ wr → b ≠ S → s.heap.get? b = some o → h'.get? b = some o) → R (.ok (.ret v)) { s with heap := h', toks := tk }) →
    codeAny (model prog w) A (.builtin "min.loop" ⟨[.ref I, .none, .ref S], []⟩) R s := by
  have hSw : S ∉ wr := fun h => hSf (W.sub _ h)
  have hname : (toString "min" ++ toString ".loop" : String) = "min.loop" := by decide
  intro d
  induction d with
  | zero =>
    intro k s old c hk hkn hn hst h0 h1 hS hR
    have hkk : k = n := sub_zero hk hkn
    subst hkk
    obtain ⟨j, rfl⟩ : ∃ j, k = j + 1 := ⟨k - 1, (Nat.sub_add_cancel hn).symm⟩
    obtain ⟨vb, rfl, hPb⟩ := h1 j rfl
    refine codeAny_builtin PySem.F.entry_min_loop ?_
    rw [Around.under_plainId PySem.F.plain_min_loop _]
    show wpAny _ A.in1 (seqItems? (.ref S) >>= _) _ _ s
    refine wpAny_bind (wpAny_seqItems hS rfl ?_)
    show wpAny _ A.in1 (tryCatch (pyNext (.ref I)) _ >>= _) _ _ s
    refine wpAny_bind (wpAny_tryCatch (W.done s _ _ hst fun h' tk hk' => ?_))
    have hS' := hk' S _ hSw hS
    show wpAny _ A.in1 (updateSeq S (fun _ => #[]) >>= _) _ _ _
    refine wpAny_bind ?_
    refine wpAny_updateSeq hS' rfl (wpAny_bind (wpAny_letGo (wpAny_pure ?_)))
    exact hR vb _ tk hPb fun b o hbw hbS e => (Heap.get?_update_other _ _ (Ne.symm hbS)).trans (hk' b o hbw e)
  | succ d ih =>
    intro k s old c hk hkn hn hst h0 h1 hS hR
    have hlt : k < n := sub_lt1 hk
    refine codeAny_builtin PySem.F.entry_min_loop ?_
    rw [Around.under_plainId PySem.F.plain_min_loop _]
    show wpAny _ A.in1 (seqItems? (.ref S) >>= _) _ _ s
    refine wpAny_bind (wpAny_seqItems hS rfl ?_)
    show wpAny _ A.in1 (tryCatch (pyNext (.ref I)) _ >>= _) _ _ s
    refine wpAny_bind (wpAny_tryCatch (W.item k s _ _ hlt hst fun v h' tk hP hst' hk' => ?_))
    have hS' := hk' S _ hSw hS
    have upd : ∀ (h2 : Heap), Heap.SameBut S h' h2 → St (k + 1) h2 := fun h2 sb => W.frame _ _ _ hst' fun b hbf o e => (sb.2 b (fun q => hSf (q ▸ hbf))).trans e
    have back : ∀ (h2 : Heap), Heap.SameBut S h' h2 → ∀ v' h'' tk'', P (argBest bt (n - 1)) v' → (∀ b o, b ∉ wr → b ≠ S → h2.get? b = some o → h''.get? b = some o) → R (.ok (.ret v')) { s with heap := h'', toks := tk'' } :=
      fun h2 sb v' h'' tk'' hP' hk'' => hR v' h'' tk'' hP' fun b o hbw hbS e => hk'' b o hbw hbS ((sb.2 b hbS).trans (hk' b o hbw e))
    rcases Nat.eq_zero_or_pos k with rfl | hkp
    · obtain rfl := h0 rfl
      show wpAny _ A.in1 (updateSeq S (fun _ => #[v, v]) >>= _) _ _ _
      refine wpAny_bind ?_
      refine wpAny_updateSeq hS' rfl ?_
      rw [hname]
      refine wpAny_pure ⟨plainId_quiet PySem.F.plain_min_loop _, ih 1 _ [v, v] _ (sub_succ hk) hlt hn (upd _ (Heap.SameBut.update ..)) (fun h => absurd h (by decide)) (fun j hj => ⟨v, rfl, ?_⟩) (Heap.get?_update_self _ hS' rfl) (back _ (Heap.SameBut.update ..))⟩
      have : j = 0 := (Nat.succ.inj hj).symm
      subst this
      exact hP
    · obtain ⟨j, rfl⟩ : ∃ j, k = j + 1 := ⟨k - 1, (Nat.sub_add_cancel hkp).symm⟩
      obtain ⟨vb, rfl, hPb⟩ := h1 j rfl
      show wpAny _ A.in1 (tryCatch (holding [v, v] (richCompare .Lt v vb >>= _)) _ >>= _) _ _ _
      refine wpAny_bind (wpAny_tryCatch (wpAny_holding (wpAny_bind (hcmp (j + 1 + 1) (j + 1) (argBest bt j) v vb { s with heap := h', toks := tk } _ _ hst' hP hPb ?_))))
      refine wpAny_bind (wpAny_holding (wpAny_truthy_bool ?_))
      refine wpAny_bind (wpAny_letGo (wpAny_pure ?_))
      cases hb : bt (j + 1) (argBest bt j) with
      | true =>
        simp only [if_true]
        refine wpAny_bind ?_
        refine wpAny_updateSeq hS' rfl (wpAny_bind (wpAny_letGo ?_))
        rw [hname]
        refine wpAny_pure ⟨plainId_quiet PySem.F.plain_min_loop _, ih (j + 1 + 1) _ [v, v] _ (sub_succ hk) hlt hn (upd _ (Heap.SameBut.update ..)) (fun h => absurd h (Nat.succ_ne_zero _)) (fun i hi => ⟨v, rfl, ?_⟩) (Heap.get?_update_self _ hS' rfl) (back _ (Heap.SameBut.update ..))⟩
        have : i = j + 1 := (Nat.succ.inj hi).symm
        subst this
        simp only [argBest, hb, if_true]
        exact hP
      | false =>
        simp only [Bool.false_eq_true, if_false]
        refine wpAny_bind (wpAny_letGo ?_)
        rw [hname]
        refine wpAny_pure ⟨plainId_quiet PySem.F.plain_min_loop _, ih (j + 1 + 1) _ [vb, vb] c (sub_succ hk) hlt hn hst' (fun h => absurd h (Nat.succ_ne_zero _)) (fun i hi => ⟨vb, rfl, ?_⟩) hS' (back h' (Heap.SameBut.refl ..))⟩
        have : i = j + 1 := (Nat.succ.inj hi).symm
        subst this
        simp only [argBest, hb, Bool.false_eq_true, if_false]
        exact hPb
end
section
variable {prog : Program} {w : World} {A : Around} {E : Value → Shared → Prop} {s : Shared}
theorem call_min_lists {l : Addr} {rs : List (Addr × List (Str × Tok))} {Q : Value → Shared → Prop} (hh : A.handled = none) (hl : s.heap.IsList l (rs.map fun r => Value.ref r.1).toArray) (hrs : ∀ r ∈ rs, s.heap.IsList r.1 (strValues r.2).toArray) (hne : rs ≠ []) (hu : A.in1.units < cLine)
    (h : ∀ (r : Addr × List (Str × Tok)) h' tk, rs[argBest (fun i j => ltL ((rs.getD i default).2.map (·.1)) ((rs.getD j default).2.map (·.1))) (rs.length - 1)]? = some r → Keeps s.heap h' → Q (.ref r.1) { s with heap := h', toks := tk }) :
    wpAny (model prog w) A (call (.builtin "min") [.ref l]) Q E s := by
  have hname : (toString "min" ++ toString ".loop" : String) = "min.loop" := by decide
  refine call_function_tree PySem.F.kind_min PySem.F.plain_min PySem.F.entry_min (PySem.F.args_min1 _) ?_
  show wpAny _ A.in1 (Builtin.Builtins.bindParams "min" ["key", "default"] 0 ⟨[], []⟩ >>= _) _ _ s
  refine wpAny_bind (wpAny_of_eq (show Builtin.Builtins.bindParams "min" ["key", "default"] 0 ⟨[], []⟩ = pure [none, none] from rfl) ?_)
  refine wpAny_bind (wpAny_pure ?_)
  refine wpAny_bind (src_iter (A := A.in1) hh (.inl hl) fun h' St Y hsz => ?_)
  refine wpAny_bind (wpAny_newObj_type ?_)
  rw [hname]
  have hn : 0 < rs.length := by cases rs with | nil => exact absurd rfl hne | cons => exact Nat.succ_pos _
  have ltI : ∀ r ∈ rs, r.1 < s.heap.objs.size := fun r hr => let ⟨o, ho, _⟩ := hrs r hr; Heap.lt_size ho
  have W := walks_plus (B := fun h => ∀ r ∈ rs, h.IsList r.1 (strValues r.2).toArray) (fp2 := rs.map (·.1)) Y.walk (fun h1 h2 hb hk r hr => (hb r hr).at fun o e => hk r.1 (List.mem_map_of_mem hr) o e) (fun b hb hm => by
    obtain ⟨r, hr, rfl⟩ := List.mem_map.mp hb
    exact absurd (ltI r hr) ((List.mem_singleton.mp hm) ▸ Nat.lt_irrefl _))
  have hSf : h'.objs.size ∉ [s.heap.objs.size, l] ++ rs.map (·.1) := fun hm => by
    rw [hsz] at hm
    rcases List.mem_append.mp hm with hm | hm
    · rcases List.mem_cons.mp hm with q | hm
      · exact absurd q (Nat.succ_ne_self _)
      · obtain ⟨ol, hol, _⟩ := hl
        have := Heap.lt_size hol
        rw [← List.mem_singleton.mp hm] at this
        exact absurd this (Nat.not_lt.mpr (Nat.le_succ _))
    · obtain ⟨r, hr, q⟩ := List.mem_map.mp hm
      have := ltI r hr
      rw [q] at this
      exact absurd this (Nat.not_lt.mpr (Nat.le_succ _))
  rw [List.length_map] at W
  have hB : ∀ r ∈ rs, h'.IsList r.1 (strValues r.2).toArray := fun r hr => (hrs r hr).at fun o e => Y.up _ o e
  refine wpAny_pure ⟨plainId_quiet PySem.F.plain_min_loop _, min_go (A := A) W (fun i j => ltL ((rs.getD i default).2.map (·.1)) ((rs.getD j default).2.map (·.1))) ?_ h'.objs.size hSf rs.length 0 _ [] 0 rfl (Nat.zero_le _) hn (W.frame _ _ _ ⟨Y.st, hB⟩ fun b _ o e => Heap.get?_push_of_some _ e) (fun _ => rfl) (fun j hj => absurd hj (Nat.succ_ne_zero _).symm) (Heap.get?_push_size _ rfl) ?_⟩
  · intro k i j vi vj s1 Q1 E1 st hi hj hq
    rw [List.getElem?_map] at hi hj
    obtain ⟨r1, e1, rfl⟩ := Option.map_eq_some_iff.mp hi
    obtain ⟨r2, e2, rfl⟩ := Option.map_eq_some_iff.mp hj
    have g1 : rs.getD i default = r1 := by rw [List.getD_eq_getElem?_getD, e1]; rfl
    have g2 : rs.getD j default = r2 := by rw [List.getD_eq_getElem?_getD, e2]; rfl
    rw [g1, g2] at hq
    exact lt_lists (st.2 r1 (List.mem_of_getElem? e1)) (st.2 r2 (List.mem_of_getElem? e2)) hu hq
  · intro v h2 tk2 hP hk2
    rw [List.getElem?_map] at hP
    obtain ⟨r, e1, rfl⟩ := Option.map_eq_some_iff.mp hP
    refine h r h2 tk2 e1 fun b o e => hk2 b o (fun q => absurd (Heap.lt_size e) ((List.mem_singleton.mp q) ▸ Nat.lt_irrefl _)) (fun q => ?_) (Heap.get?_push_of_some _ (Y.up b o e))
    have := Heap.lt_size e
    rw [q, hsz] at this
    exact absurd this (Nat.not_lt.mpr (Nat.le_succ _))
end
section
variable {prog : Program} {w : World} {A : Around} {R : Result → Shared → Prop} {I : Addr} {fp wr : List Addr} {n : Nat} {P : Nat → Value → Prop} {St : Nat → Heap → Prop}
/-- as the library's, of items that are compared by what stands on the heap -/
theorem max_go (W : Walks prog w A.in1 I fp wr n P St) (bt : Nat → Nat → Bool) (hcmp : ∀ k i j vi vj (s : Shared) (Q : Value → Shared → Prop) (E : Value → Shared → Prop), St k s.heap → P i vi → P j vj → Q (.bool (bt i j)) s → wpAny (model prog w) A.in1 (richCompare .Gt vi vj) Q E s) (S : Addr) (hSf : S ∉ fp) :
    ∀ (d k : Nat) (s : Shared) (old : List Value) (c : Nat), n - k = d → k ≤ n → 0 < n → St k s.heap → (k = 0 → old = []) → (∀ j, k = j + 1 → ∃ vb, old = [vb, vb] ∧ P (argBest bt j) vb) →
    s.heap.get? S = some { cls := .type "list", dict := none, data := .seq old.toArray c, slots := #[] } →
    (∀ v h' tk, P (argBest bt (n - 1)) v → (∀ b o, b ∉ wr → b ≠ S → s.heap.get? b = some o → h'.get? b = some o) → R (.ok (.ret v)) { s with heap := h', toks := tk }) →
    codeAny (model prog w) A (.builtin "max.loop" ⟨[.ref I, .none, .ref S], []⟩) R s := by
  have hSw : S ∉ wr := fun h => hSf (W.sub _ h)
  have hname : (toString "max" ++ toString ".loop" : String) = "max.loop" := by decide
  intro d
  induction d with
  | zero =>
    intro k s old c hk hkn hn hst h0 h1 hS hR
    have hkk : k = n := sub_zero hk hkn
    subst hkk
    obtain ⟨j, rfl⟩ : ∃ j, k = j + 1 := ⟨k - 1, (Nat.sub_add_cancel hn).symm⟩
    obtain ⟨vb, rfl, hPb⟩ := h1 j rfl
    refine codeAny_builtin PySem.F.entry_max_loop ?_
    rw [Around.under_plainId PySem.F.plain_max_loop _]
    show wpAny _ A.in1 (seqItems? (.ref S) >>= _) _ _ s
    refine wpAny_bind (wpAny_seqItems hS rfl ?_)
    show wpAny _ A.in1 (tryCatch (pyNext (.ref I)) _ >>= _) _ _ s
    refine wpAny_bind (wpAny_tryCatch (W.done s _ _ hst fun h' tk hk' => ?_))
    have hS' := hk' S _ hSw hS
    show wpAny _ A.in1 (updateSeq S (fun _ => #[]) >>= _) _ _ _
    refine wpAny_bind ?_
    refine wpAny_updateSeq hS' rfl (wpAny_bind (wpAny_letGo (wpAny_pure ?_)))
    exact hR vb _ tk hPb fun b o hbw hbS e => (Heap.get?_update_other _ _ (Ne.symm hbS)).trans (hk' b o hbw e)
  | succ d ih =>
    intro k s old c hk hkn hn hst h0 h1 hS hR
    have hlt : k < n := sub_lt1 hk
    refine codeAny_builtin PySem.F.entry_max_loop ?_
    rw [Around.under_plainId PySem.F.plain_max_loop _]
    show wpAny _ A.in1 (seqItems? (.ref S) >>= _) _ _ s
    refine wpAny_bind (wpAny_seqItems hS rfl ?_)
    show wpAny _ A.in1 (tryCatch (pyNext (.ref I)) _ >>= _) _ _ s
    refine wpAny_bind (wpAny_tryCatch (W.item k s _ _ hlt hst fun v h' tk hP hst' hk' => ?_))
    have hS' := hk' S _ hSw hS
    have upd : ∀ (h2 : Heap), Heap.SameBut S h' h2 → St (k + 1) h2 := fun h2 sb => W.frame _ _ _ hst' fun b hbf o e => (sb.2 b (fun q => hSf (q ▸ hbf))).trans e
    have back : ∀ (h2 : Heap), Heap.SameBut S h' h2 → ∀ v' h'' tk'', P (argBest bt (n - 1)) v' → (∀ b o, b ∉ wr → b ≠ S → h2.get? b = some o → h''.get? b = some o) → R (.ok (.ret v')) { s with heap := h'', toks := tk'' } :=
      fun h2 sb v' h'' tk'' hP' hk'' => hR v' h'' tk'' hP' fun b o hbw hbS e => hk'' b o hbw hbS ((sb.2 b hbS).trans (hk' b o hbw e))
    rcases Nat.eq_zero_or_pos k with rfl | hkp
    · obtain rfl := h0 rfl
      show wpAny _ A.in1 (updateSeq S (fun _ => #[v, v]) >>= _) _ _ _
      refine wpAny_bind ?_
      refine wpAny_updateSeq hS' rfl ?_
      rw [hname]
      refine wpAny_pure ⟨plainId_quiet PySem.F.plain_max_loop _, ih 1 _ [v, v] _ (sub_succ hk) hlt hn (upd _ (Heap.SameBut.update ..)) (fun h => absurd h (by decide)) (fun j hj => ⟨v, rfl, ?_⟩) (Heap.get?_update_self _ hS' rfl) (back _ (Heap.SameBut.update ..))⟩
      have : j = 0 := (Nat.succ.inj hj).symm
      subst this
      exact hP
    · obtain ⟨j, rfl⟩ : ∃ j, k = j + 1 := ⟨k - 1, (Nat.sub_add_cancel hkp).symm⟩
      obtain ⟨vb, rfl, hPb⟩ := h1 j rfl
      show wpAny _ A.in1 (tryCatch (holding [v, v] (richCompare .Gt v vb >>= _)) _ >>= _) _ _ _
      refine wpAny_bind (wpAny_tryCatch (wpAny_holding (wpAny_bind (hcmp (j + 1 + 1) (j + 1) (argBest bt j) v vb { s with heap := h', toks := tk } _ _ hst' hP hPb ?_))))
      refine wpAny_bind (wpAny_holding (wpAny_truthy_bool ?_))
      refine wpAny_bind (wpAny_letGo (wpAny_pure ?_))
      cases hb : bt (j + 1) (argBest bt j) with
      | true =>
        simp only [if_true]
        refine wpAny_bind ?_
        refine wpAny_updateSeq hS' rfl (wpAny_bind (wpAny_letGo ?_))
        rw [hname]
        refine wpAny_pure ⟨plainId_quiet PySem.F.plain_max_loop _, ih (j + 1 + 1) _ [v, v] _ (sub_succ hk) hlt hn (upd _ (Heap.SameBut.update ..)) (fun h => absurd h (Nat.succ_ne_zero _)) (fun i hi => ⟨v, rfl, ?_⟩) (Heap.get?_update_self _ hS' rfl) (back _ (Heap.SameBut.update ..))⟩
        have : i = j + 1 := (Nat.succ.inj hi).symm
        subst this
        simp only [argBest, hb, if_true]
        exact hP
      | false =>
        simp only [Bool.false_eq_true, if_false]
        refine wpAny_bind (wpAny_letGo ?_)
        rw [hname]
        refine wpAny_pure ⟨plainId_quiet PySem.F.plain_max_loop _, ih (j + 1 + 1) _ [vb, vb] c (sub_succ hk) hlt hn hst' (fun h => absurd h (Nat.succ_ne_zero _)) (fun i hi => ⟨vb, rfl, ?_⟩) hS' (back h' (Heap.SameBut.refl ..))⟩
        have : i = j + 1 := (Nat.succ.inj hi).symm
        subst this
        simp only [argBest, hb, Bool.false_eq_true, if_false]
        exact hPb
end
section
variable {prog : Program} {w : World} {A : Around} {E : Value → Shared → Prop} {s : Shared}
theorem call_max_lists {l : Addr} {rs : List (Addr × List (Str × Tok))} {Q : Value → Shared → Prop} (hh : A.handled = none) (hl : s.heap.IsList l (rs.map fun r => Value.ref r.1).toArray) (hrs : ∀ r ∈ rs, s.heap.IsList r.1 (strValues r.2).toArray) (hne : rs ≠ []) (hu : A.in1.units < cLine)
    (h : ∀ (r : Addr × List (Str × Tok)) h' tk, rs[argBest (fun i j => ltL ((rs.getD j default).2.map (·.1)) ((rs.getD i default).2.map (·.1))) (rs.length - 1)]? = some r → Keeps s.heap h' → Q (.ref r.1) { s with heap := h', toks := tk }) :
    wpAny (model prog w) A (call (.builtin "max") [.ref l]) Q E s := by
  have hname : (toString "max" ++ toString ".loop" : String) = "max.loop" := by decide
  refine call_function_tree PySem.F.kind_max PySem.F.plain_max PySem.F.entry_max (PySem.F.args_max1 _) ?_
  show wpAny _ A.in1 (Builtin.Builtins.bindParams "max" ["key", "default"] 0 ⟨[], []⟩ >>= _) _ _ s
  refine wpAny_bind (wpAny_of_eq (show Builtin.Builtins.bindParams "max" ["key", "default"] 0 ⟨[], []⟩ = pure [none, none] from rfl) ?_)
  refine wpAny_bind (wpAny_pure ?_)
  refine wpAny_bind (src_iter (A := A.in1) hh (.inl hl) fun h' St Y hsz => ?_)
  refine wpAny_bind (wpAny_newObj_type ?_)
  rw [hname]
  have hn : 0 < rs.length := by cases rs with | nil => exact absurd rfl hne | cons => exact Nat.succ_pos _
  have ltI : ∀ r ∈ rs, r.1 < s.heap.objs.size := fun r hr => let ⟨o, ho, _⟩ := hrs r hr; Heap.lt_size ho
  have W := walks_plus (B := fun h => ∀ r ∈ rs, h.IsList r.1 (strValues r.2).toArray) (fp2 := rs.map (·.1)) Y.walk (fun h1 h2 hb hk r hr => (hb r hr).at fun o e => hk r.1 (List.mem_map_of_mem hr) o e) (fun b hb hm => by
    obtain ⟨r, hr, rfl⟩ := List.mem_map.mp hb
    exact absurd (ltI r hr) ((List.mem_singleton.mp hm) ▸ Nat.lt_irrefl _))
  have hSf : h'.objs.size ∉ [s.heap.objs.size, l] ++ rs.map (·.1) := fun hm => by
    rw [hsz] at hm
    rcases List.mem_append.mp hm with hm | hm
    · rcases List.mem_cons.mp hm with q | hm
      · exact absurd q (Nat.succ_ne_self _)
      · obtain ⟨ol, hol, _⟩ := hl
        have := Heap.lt_size hol
        rw [← List.mem_singleton.mp hm] at this
        exact absurd this (Nat.not_lt.mpr (Nat.le_succ _))
    · obtain ⟨r, hr, q⟩ := List.mem_map.mp hm
      have := ltI r hr
      rw [q] at this
      exact absurd this (Nat.not_lt.mpr (Nat.le_succ _))
  rw [List.length_map] at W
  have hB : ∀ r ∈ rs, h'.IsList r.1 (strValues r.2).toArray := fun r hr => (hrs r hr).at fun o e => Y.up _ o e
  refine wpAny_pure ⟨plainId_quiet PySem.F.plain_max_loop _, max_go (A := A) W (fun i j => ltL ((rs.getD j default).2.map (·.1)) ((rs.getD i default).2.map (·.1))) ?_ h'.objs.size hSf rs.length 0 _ [] 0 rfl (Nat.zero_le _) hn (W.frame _ _ _ ⟨Y.st, hB⟩ fun b _ o e => Heap.get?_push_of_some _ e) (fun _ => rfl) (fun j hj => absurd hj (Nat.succ_ne_zero _).symm) (Heap.get?_push_size _ rfl) ?_⟩
  · intro k i j vi vj s1 Q1 E1 st hi hj hq
    rw [List.getElem?_map] at hi hj
    obtain ⟨r1, e1, rfl⟩ := Option.map_eq_some_iff.mp hi
    obtain ⟨r2, e2, rfl⟩ := Option.map_eq_some_iff.mp hj
    have g1 : rs.getD i default = r1 := by rw [List.getD_eq_getElem?_getD, e1]; rfl
    have g2 : rs.getD j default = r2 := by rw [List.getD_eq_getElem?_getD, e2]; rfl
    rw [g1, g2] at hq
    exact gt_lists (st.2 r1 (List.mem_of_getElem? e1)) (st.2 r2 (List.mem_of_getElem? e2)) hu hq
  · intro v h2 tk2 hP hk2
    rw [List.getElem?_map] at hP
    obtain ⟨r, e1, rfl⟩ := Option.map_eq_some_iff.mp hP
    refine h r h2 tk2 e1 fun b o e => hk2 b o (fun q => absurd (Heap.lt_size e) ((List.mem_singleton.mp q) ▸ Nat.lt_irrefl _)) (fun q => ?_) (Heap.get?_push_of_some _ (Y.up b o e))
    have := Heap.lt_size e
    rw [q, hsz] at this
    exact absurd this (Nat.not_lt.mpr (Nat.le_succ _))
end

section
variable {prog : Program} {w : World} {A : Around} {env : Env} {h₀ : Heap}
/-- a for over pairs, with two names -/
inductive PairsAt (prog : Program) (w : World) (A : Around) (h₀ : Heap) (env : Env) (xk xv : Str) (body : List Stmt) (Q : Flow → Shared → Prop) (it : Value) (s₂ : Shared) : Prop
  | mk (I : Addr) (fp wr : List Addr) (n : Nat) (Pt : Nat → Array Value → Prop) (St : Nat → Heap → Prop) (Mid : Nat → Addr → Heap → Prop) (m : Str → Option Value) (news : List (Addr × Obj)) (J : Nat → (Str → Option Value) → List (Addr × Obj) → Prop) :
    it = .ref I → WalksU prog w A I fp wr n Pt St Mid → env.locals ∉ fp → (∀ b ∈ wr, h₀.get? b = none) → (∀ p ∈ news, p.1 ∉ wr) → St 0 s₂.heap → (∀ i h, St i h → ∀ b ∈ wr, ∃ o, h.get? b = some o) → Fr h₀ env.locals s₂.heap m → News h₀ env.locals s₂.heap news → J 0 m news →
    (∀ i vals, Pt i vals → ∃ a b, vals = #[a, b]) →
    (∀ i a b m₁ news₁ h tk own, i < n → Pt i #[a, b] → J i m₁ news₁ → (∀ p ∈ own, p.1 ∈ fp) → (∀ p ∈ news₁, p.1 ∉ wr) → Fr h₀ env.locals h (fun y => if y = xv then some b else if y = xk then some a else m₁ y) → News h₀ env.locals h (news₁ ++ own) →
      wpAny (model prog w) A (execs body env) (TurnPost h₀ env.locals own news₁ (J (i + 1)) { s₂ with heap := h, toks := tk } Q) (fun _ _ => False) { s₂ with heap := h, toks := tk }) →
    (∀ h' tk m' news', Fr h₀ env.locals h' m' → News h₀ env.locals h' news' → J n m' news' → Q .next { s₂ with heap := h', toks := tk }) → PairsAt prog w A h₀ env xk xv body Q it s₂
/-- between the turns -/
inductive PairsInv (St : Nat → Heap → Prop) (J : Nat → (Str → Option Value) → List (Addr × Obj) → Prop) (h₀ : Heap) (L : Addr) (wr : List Addr) (n : Nat) (s₂ : Shared) (k : Nat) (s' : Shared) : Prop
  | mk (h' : Heap) (tk : Nat) (m' : Str → Option Value) (news' : List (Addr × Obj)) (i : Nat) : s' = { s₂ with heap := h', toks := tk } → St i h' → Fr h₀ L h' m' → News h₀ L h' news' → (∀ p ∈ news', p.1 ∉ wr) → J i m' news' → i ≤ n → k = n + 1 - i → PairsInv St J h₀ L wr n s₂ k s'
theorem for_pairs {s : Shared} {xk xv : Str} {pk pv pt pos : Pos} {x1 : Nat} {iter : Expr} {body : List Stmt} {Q : Flow → Shared → Prop} (hh : A.handled = none) (hxk : env.kindOf xk = some .local) (hxv : env.kindOf xv = some .local)
    (hp : (env.scope.kind == .class || (env.scope.kind == .module && env.locals != env.globals)) = false)
    (h : wpAny (model prog w) A (eval iter env) (fun xval s₁ => wpAny (model prog w) A (pyIter xval) (fun it s₂ => PairsAt prog w A h₀ env xk xv body Q it s₂) (fun _ _ => False) s₁) (fun _ _ => False) s)
    (hs : ∀ x, foldedSetIterable iter env x = pure x := by intro _; rfl) :
    wpAny (model prog w) A (exec (.For (.Tuple [.Name xk pk, .Name xv pv] x1 pt) iter body [] pos) env) Q (fun _ _ => False) s := by
  refine wpAny_For (wpAny_mono h (fun xval s₁ h₁ => wpAny_mono h₁ (fun it s₂ h₂ => ?_) fun _ _ e => e) fun _ _ e => e) hs
  obtain ⟨I, fp, wr, n, Pt, St, Mid, m, news, J, rfl, W, hLf, hwr, hnw, hst, hal, F, N, h0, h2, turn, done⟩ := h₂
  have hLw : env.locals ∉ wr := fun h => hLf (W.sub _ h)
  have old : ∀ b o, h₀.get? b = some o → b ∉ wr := fun b o e hb => by rw [hwr b hb] at e; cases e
  refine codeAny_forLoop_any
    (PairsInv St J h₀ env.locals wr n s₂) ?_ (n + 1)
    ⟨s₂.heap, s₂.toks, m, news, 0, rfl, hst, F, N, hnw, h0, Nat.zero_le _, rfl⟩
  rintro k s' ⟨h', tk, m', news', i, rfl, hst', F', N', hnw', hJ, hi, rfl⟩
  have next : ∀ h₁ : Heap, (∀ b o, b ∉ wr → h'.get? b = some o → h₁.get? b = some o) → Fr h₀ env.locals h₁ m' ∧ News h₀ env.locals h₁ news' := fun h₁ hk₁ =>
    ⟨⟨F'.ns.at' fun o e => hk₁ _ o hLw e, fun b o e => hk₁ b o (old b o e) (F'.keep b o e), F'.above⟩, fun p hp => ⟨hk₁ _ _ (hnw' p hp) (N' p hp).1, (N' p hp).2⟩⟩
  by_cases hlt : i < n
  · refine W.item i _ _ _ hlt hst' fun T vals h₁ tk₁ hPt hT hMid hk₁ => ?_
    obtain ⟨a, b, rfl⟩ := h2 i vals hPt
    refine W.go _ _ _ i T _ _ _ hMid fun h₂ hst₂ hk₂ => ?_
    have hT₂ : h₂.IsTuple T #[a, b] := hT.at fun o e => hk₂ _ o (W.apart i T h₁ hMid) e
    obtain ⟨F₂, N₂⟩ := next h₂ fun b o hb e => hk₂ b o hb (hk₁ b o hb e)
    refine wpAny_assign_Tuple (s := { s₂ with heap := h₂, toks := tk₁ }) hh hT₂ rfl rfl fun h₃ hx₃ => ?_
    replace hx₃ : Heap.ExtBut h₂.objs.size h₂ h₃ := hx₃
    have up₃ : ∀ b o, h₂.get? b = some o → h₃.get? b = some o := fun b o e => hx₃ b o (Nat.ne_of_lt (Heap.lt_size e)) e
    have F₃ := fr_keeps F₂ up₃
    have N₃ := news_keeps N₂ up₃
    have st₃ : St (i + 1) h₃ := W.frame _ _ _ hst₂ fun b _ o e => up₃ b o e
    show wpAny _ _ (do holding [b] (assign (.Name xk pk) env a); do holding [] (assign (.Name xv pv) env b); pure ()) _ _ _
    refine wpAny_bind (wpAny_holding (wpAny_assign_Name (wpAny_storeName_local hxk F₃.ns (fun h₄ hn₄ hs₄ => ?_) hp)))
    replace hs₄ : Heap.SameBut env.locals h₃ h₄ := hs₄
    have F₄ := F₃.set hn₄ hs₄
    refine wpAny_bind (wpAny_holding (wpAny_assign_Name (wpAny_storeName_local hxv F₄.ns (fun h₅ hn₅ hs₅ => wpAny_pure ?_) hp)))
    replace hs₅ : Heap.SameBut env.locals h₄ h₅ := hs₅
    have F₅ := F₄.set hn₅ hs₅
    have N₅ : News h₀ env.locals h₅ news' := (N₃.set hs₄).set hs₅
    have st₅ : St (i + 1) h₅ := W.frame _ _ _ st₃ fun b hb o e => (hs₅.2 b fun q => hLf (q ▸ hb)).trans ((hs₄.2 b fun q => hLf (q ▸ hb)).trans e)
    have Nown : News h₀ env.locals h₅ (ownOf h₀ fp h₅) := news_ownOf hLf
    have Nall : News h₀ env.locals h₅ (news' ++ ownOf h₀ fp h₅) := fun p hp => (List.mem_append.mp hp).elim (N₅ p) (Nown p)
    refine wpAny_mono (turn i a b m' news' h₅ _ (ownOf h₀ fp h₅) hlt hPt hJ ownOf_sub hnw' F₅ Nall) (fun f s₃ h₆ => ?_) fun _ _ e => e.elim
    have fin : TurnEnd h₀ env.locals (ownOf h₀ fp h₅) news' (J (i + 1)) { s₂ with heap := h₅, toks := tk₁ + 1 + 1 } s₃ → ∃ mm, mm < n + 1 - i ∧ PairsInv St J h₀ env.locals wr n s₂ mm s₃ := by
      rintro ⟨H6, tk₆, m₆, nx, rfl, F₆, N₆, ha₆, hJ₆⟩
      refine ⟨n + 1 - (i + 1), step_lt hlt, H6, tk₆, m₆, nx, i + 1, rfl, ?_, F₆, fun p hp => N₆ p (List.mem_append_left _ hp), fun p hp hw => ?_, hJ₆, hlt, rfl⟩
      · refine W.frame _ _ _ st₅ fun b hb o e => ?_
        cases hn : h₀.get? b with
        | some o₀ =>
          have : o₀ = o := by have := F₅.keep b o₀ hn; rw [e] at this; exact (Option.some.inj this).symm
          exact this ▸ F₆.keep b o₀ hn
        | none => exact (N₆ _ (List.mem_append_right _ (mem_ownOf hb hn e))).1
      · rcases ha₆ p hp with h1 | h1
        · obtain ⟨q, hq1, hq2⟩ := List.mem_map.mp h1
          exact hnw' q hq1 (by rw [hq2]; exact hw)
        · obtain ⟨o, ho⟩ := hal _ _ st₅ _ hw
          have h1' : h₅.get? p.1 = none := h1
          rw [ho] at h1'; cases h1'
    cases f with
    | ret v => exact h₆
    | brk => exact h₆
    | next => exact fin h₆
    | cont => exact fin h₆
  · have hin : i = n := Nat.le_antisymm hi (Nat.not_lt.mp hlt)
    subst hin
    refine W.done _ _ _ hst' fun h₁ tk₁ hk₁ => wpAny_execs_nil ?_
    obtain ⟨F₁, N₁⟩ := next h₁ hk₁
    exact done h₁ tk₁ m' news' F₁ N₁ hJ
end

section
variable {prog : Program} {w : World} {A : Around} {E : Value → Shared → Prop} {s : Shared} {env : Env} {x y n1 n2 attr : Str} {id : String} {t u : Tok} {p1 p2 p3 p6 : Pos} {Q : Value → Shared → Prop}
/-- «a.m(b)» of two names that hold texts -/
theorem meth_names (hline : (p2.endLine == p6.line) = true) (slot : Slot "str" attr id) (hty : typeOf (.builtin id) = pure (.type "method_descriptor")) (h1 : ∀ Q' : Value → Shared → Prop, Q' (.str x t) s → wpAny (model prog w) A (eval (.Name n1 p1) env) Q' E s) (h2 : ∀ Q' : Value → Shared → Prop, Q' (.str y u) s → wpAny (model prog w) A (eval (.Name n2 p3) env) Q' E s)
    (h : wpAny (model prog w) A (call (.builtin id) [.str x t, .str y u]) Q E s) : wpAny (model prog w) A (eval (.Call (.Attribute (.Name n1 p1) attr p2) [.Name n2 p3] [] p6) env) Q E s := by
  refine wpAny_Call_method (T := "str") (id := id) rfl rfl hline PySem.F.plainAttrs_str slot hty (h1 _ ⟨typeIs_str _ _ _, ⟨(fun _ e => nomatch e), ?_⟩⟩)
  refine callWith_method1 ?_
  show wpAny (model prog w) A (spliced (backTo p6 [(false, _)])) _ _ _
  exact Calls.spliced_cons (h2 _ (Calls.spliced_nil h))
/-- what a text is split into -/
theorem split_new (hy : (y.length == 0) = false) (hz : x.length + 2 ≤ sizeLine) (h : ∀ l k, l.map (·.1) = Txt.split x y → Q (.ref s.heap.objs.size) { s with heap := s.heap.push (W.listOf (strValues l).toArray 0), toks := k }) : wpAny (model prog w) A (call (.builtin "str.split") [.str x t, .str y u]) Q E s := by
  have hn : (Builtin.Str.partsBetween x (Builtin.Str.occurrences x y 0 x.length (x.length + 1)) y.length).length ≤ sizeLine := by
    have e1 := StrLaws.occ_length_le x y 0 x.length (x.length + 1)
    rw [length_partsBetween]; omega
  cases h1 : (decide (x.length < y.length) || decide (Builtin.Str.strKind x < Builtin.Str.strKind y))
  · cases hf : (Builtin.Str.occurrences x y 0 x.length (x.length + 1)).isEmpty
    · refine call_meets PySem.F.slot_str_split (typeIs_str _ _ _) PySem.F.entry_str_split (PySem.F.args_str_split_2 _ _) (meets_str_split_sep x y t u h1 hy hf (by omega) hn) ?_
      show wants Q E _ { s with toks := _, heap := s.heap.push { cls := .type "list", data := .seq (strsFrom s.toks (Builtin.Str.partsBetween x (Builtin.Str.occurrences x y 0 x.length (x.length + 1)) y.length)).toArray } }
      rw [strsFrom_eq]
      exact h (numbered s.toks _) _ ((numbered_texts _ _).trans ((if_neg (ne_true_of_eq_false h1)).trans (if_neg (ne_true_of_eq_false hf))).symm)
    · exact call_meets PySem.F.slot_str_split (typeIs_str _ _ _) PySem.F.entry_str_split (PySem.F.args_str_split_2 _ _) (meets_str_split_not_found x y t u h1 hy hf) (h [(x, t)] s.toks ((if_neg (ne_true_of_eq_false h1)).trans (if_pos hf)).symm)
  · exact call_meets PySem.F.slot_str_split (typeIs_str _ _ _) PySem.F.entry_str_split (PySem.F.args_str_split_2 _ _) (meets_str_split_cannot_occur x y t u h1) (h [(x, t)] s.toks (if_pos h1).symm)
end
/-- texts split, item by item: the new lists and their objects -/
noncomputable def SplitR (sep : Str) (v y : Value) (os : List (Addr × Obj)) : Prop := ∃ x t D l, v = .str x t ∧ y = .ref D ∧ os = [(D, W.listOf (strValues l).toArray 0)] ∧ l.map (·.1) = Txt.split x sep
theorem split_outs {sep : Str} {vs : List Value} {outs : List Out} (h : Paired (OutIs (fun _ => true) (SplitR sep)) vs outs) :
    ∀ l : List (Str × Tok), vs = strValues l → ∃ rs : List (Addr × List (Str × Tok)), outY outs = rs.map (fun r => Value.ref r.1) ∧ outO outs = rs.map (fun r => (r.1, W.listOf (strValues r.2).toArray 0)) ∧ rs.map (fun r => r.2.map (·.1)) = (l.map (·.1)).map fun x => Txt.split x sep := by
  induction h with
  | nil =>
    intro l e
    cases l with
    | nil => exact ⟨[], rfl, rfl, rfl⟩
    | cons => cases e
  | cons h _ ih =>
    intro l e
    cases l with
    | nil => cases e
    | cons a r =>
      obtain ⟨b, bt⟩ := a
      have e' := List.cons.inj e
      obtain ⟨rs, h1, h2, h3⟩ := ih r e'.2
      rcases h with ⟨_, y, os, rfl, x, t, D, l', hx, rfl, rfl, hl⟩ | ⟨hf, _⟩
      · rw [e'.1] at hx
        cases hx
        refine ⟨(D, l') :: rs, ?_, ?_, ?_⟩
        · show _ :: outY _ = _; rw [h1]; rfl
        · show [_] ++ outO _ = _; rw [h2]; rfl
        · rw [List.map_cons, h3, hl]; rfl
      · cases hf
/-- lists of texts filtered, item by item -/
noncomputable def FiltR (q : Str → Bool) (rs : List (Addr × List (Str × Tok))) (v y : Value) (os : List (Addr × Obj)) : Prop := ∃ r D l n, r ∈ rs ∧ v = .ref r.1 ∧ y = .ref D ∧ os = [(D, W.listOf (strValues l).toArray n)] ∧ l.map (·.1) = (r.2.map (·.1)).filter q
theorem filt_outs {q : Str → Bool} {h : Heap} {all : List (Addr × List (Str × Tok))} (hall : ∀ r ∈ all, h.IsList r.1 (strValues r.2).toArray) {vs : List Value} {outs : List Out} (hp : Paired (OutIs (fun _ => true) (FiltR q all)) vs outs) :
    ∀ rs : List (Addr × List (Str × Tok)), (∀ r ∈ rs, r ∈ all) → vs = rs.map (fun r => Value.ref r.1) → ∃ rs' : List (Addr × List (Str × Tok) × Nat), outY outs = rs'.map (fun r => Value.ref r.1) ∧ outO outs = rs'.map (fun r => (r.1, W.listOf (strValues r.2.1).toArray r.2.2)) ∧ rs'.map (fun r => r.2.1.map (·.1)) = rs.map fun r => (r.2.map (·.1)).filter q := by
  induction hp with
  | nil =>
    intro l _ e
    cases l with
    | nil => exact ⟨[], rfl, rfl, rfl⟩
    | cons => cases e
  | cons h1 _ ih =>
    intro l hsub e
    cases l with
    | nil => cases e
    | cons a r =>
      have e' := List.cons.inj e
      obtain ⟨rs', i1, i2, i3⟩ := ih r (fun x hx => hsub x (.tail _ hx)) e'.2
      rcases h1 with ⟨_, y, os, rfl, r0, D, l', n, hr0, hx, rfl, rfl, hl⟩ | ⟨hf, _⟩
      · rw [e'.1] at hx
        have ea : a.1 = r0.1 := by injection hx
        have eq : a.2.map (·.1) = r0.2.map (·.1) := by
          obtain ⟨o, ho, _, n1, d1⟩ := hall a (hsub a (.head _))
          obtain ⟨o', ho', _, n2, d2⟩ := hall r0 hr0
          rw [ea, ho'] at ho
          cases ho
          rw [d1] at d2
          injection d2 with z _
          have z2 : strValues a.2 = strValues r0.2 := by simpa using z
          have := congrArg (List.map fun v => match v with | .str x _ => x | _ => Str.empty) z2
          unfold strValues at this
          rw [List.map_map, List.map_map] at this
          exact this
        refine ⟨(D, l', n) :: rs', ?_, ?_, ?_⟩
        · show _ :: outY _ = _; rw [i1]; rfl
        · show [_] ++ outO _ = _; rw [i2]; rfl
        · rw [List.map_cons, i3, hl, List.map_cons, eq]
      · cases hf
/-- what «y = [..]» leaves, as a frame and a ledger -/
theorem asg_news {h₀ : Heap} {L : Addr} {s : Shared} {m m' : Str → Option Value} {news os : List (Addr × Obj)} {D : Addr} {h' : Heap} {vs : List Value} (F : Fr h₀ L s.heap m) (N : News h₀ L s.heap news) (hD : s.heap.get? D = none) (hpl : h'.PlainList D vs.toArray)
    (hO : ∀ q ∈ os, h'.get? q.1 = some q.2 ∧ s.heap.get? q.1 = none ∧ q.1 ≠ D) (hns : h'.Ns L m') (hk : ∀ b o, b ≠ L → s.heap.get? b = some o → h'.get? b = some o) :
    ∃ n, Fr h₀ L h' m' ∧ News h₀ L h' ((D, W.listOf vs.toArray n) :: (news ++ os)) := by
  obtain ⟨n, hDo⟩ := hpl
  have new : ∀ a : Addr, s.heap.get? a = none → a ≠ L ∧ h₀.get? a = none := fun a ha => by
    constructor
    · rintro rfl
      obtain ⟨o, _, _, ho, _⟩ := F.ns
      rw [ha] at ho; cases ho
    · cases e : h₀.get? a with
      | none => rfl
      | some o => have := F.keep _ _ e; rw [ha] at this; cases this
  refine ⟨n, ⟨hns, fun b o e => hk b o (fun q => ?_) (F.keep b o e), F.above⟩, fun p hp => ?_⟩
  · have h1 := Heap.lt_size e
    rw [q] at h1
    exact absurd h1 (Nat.not_lt.mpr F.above)
  · rcases List.mem_cons.mp hp with rfl | hp
    · exact ⟨hDo, new _ hD⟩
    · rcases List.mem_append.mp hp with hp | hp
      · exact ⟨hk _ _ (N p hp).2.1 (N p hp).1, (N p hp).2⟩
      · exact ⟨(hO p hp).1, new _ (hO p hp).2.1⟩
/-- «x, = d» where d is the set of True -/
theorem assign_true1 {prog : Program} {w : World} {A : Around} {E : Value → Shared → Prop} {s : Shared} {env : Env} {D : Addr} {ep : Nat} {x : Str} {px pt : Pos} {x1 : Nat} {m : Str → Option Value} {Q : Unit → Shared → Prop} (hh : A.handled = none) (ho : s.heap.get? D = some (setO trueS ep (T1 (byT w)))) (hx : env.kindOf x = some .local)
    (hp : (env.scope.kind == .class || (env.scope.kind == .module && env.locals != env.globals)) = false) (hn : s.heap.Ns env.locals m)
    (h : ∀ h' tk, h'.Ns env.locals (fun y => if y = x then some (.bool true) else m y) → (∀ b o, b ≠ env.locals → s.heap.get? b = some o → h'.get? b = some o) → Q () { s with heap := h', toks := tk }) : wpAny (model prog w) A (assign (.Tuple [.Name x px] x1 pt) env (.ref D)) Q E s := by
  rw [arm_assign_Tuple]
  refine wpAny_bind (wpAny_standAt ?_)
  unfold unpack
  refine wpAny_bind (wpAny_holding (unpack_true hh ho fun h1 k1 => ?_))
  show wpAny _ _ (do holding [] (assign (.Name x px) env (.bool true)); pure ()) _ _ _
  refine wpAny_bind (wpAny_holding (wpAny_assign_Name (wpAny_storeName_local hx (hn.keeps k1) (fun h2 hn2 hs2 => wpAny_pure ?_) hp)))
  exact h h2 _ hn2 fun b o hb e => hs2.extBut b o hb (k1 b o e)
/-- the frame and the ledger, where the frame's names alone were written -/
theorem own_news {h₀ h h' : Heap} {L : Addr} {m m' : Str → Option Value} {news : List (Addr × Obj)} (F : Fr h₀ L h m) (N : News h₀ L h news) (hns : h'.Ns L m') (hk : ∀ b o, b ≠ L → h.get? b = some o → h'.get? b = some o) : Fr h₀ L h' m' ∧ News h₀ L h' news := by
  refine ⟨⟨hns, fun b o e => hk b o (fun q => ?_) (F.keep b o e), F.above⟩, fun p hp => ⟨hk _ _ (N p hp).2.1 (N p hp).1, (N p hp).2⟩⟩
  have h1 := Heap.lt_size e
  rw [q] at h1
  exact absurd h1 (Nat.not_lt.mpr F.above)
/-- the names of a road that count -/
noncomputable def keepC (x : Str) : Bool := ((x.length : Int) != 0) && (x != Str.ofString ".")
noncomputable def keepV (v : Value) : Bool := match v with | .str x _ => keepC x | _ => false
theorem keep_outs {vs : List Value} {outs : List Out} (h : Paired (OutIs keepV fun v y os => y = v ∧ os = []) vs outs) : ∀ l : List (Str × Tok), vs = strValues l → ∃ l' : List (Str × Tok), outY outs = strValues l' ∧ outO outs = [] ∧ l'.map (·.1) = (l.map (·.1)).filter keepC := by
  induction h with
  | nil =>
    intro l e
    cases l with
    | nil => exact ⟨[], rfl, rfl, rfl⟩
    | cons => cases e
  | cons h _ ih =>
    intro l e
    cases l with
    | nil => cases e
    | cons a r =>
      obtain ⟨b, bt⟩ := a
      have e' := List.cons.inj e
      obtain ⟨l', h1, h2, h3⟩ := ih r e'.2
      have ev := e'.1
      rcases h with ⟨hp, y, os, rfl, rfl, rfl⟩ | ⟨hf, rfl⟩
      · rw [ev] at hp ⊢
        have hp' : keepC b = true := hp
        refine ⟨(b, bt) :: l', ?_, ?_, ?_⟩
        · show _ :: outY _ = _; rw [h1]; rfl
        · show [] ++ outO _ = _; rw [h2]; rfl
        · rw [List.map_cons, h3, List.map_cons, List.filter_cons_of_pos hp']
      · rw [ev] at hf
        have hf' : keepC b = false := hf
        exact ⟨l', h1, h2, by rw [h3, List.map_cons, List.filter_cons_of_neg (by rw [hf']; exact Bool.false_ne_true)]⟩
/-- «a[:k]» of a list of texts: the new list is new -/
theorem slice_uptoN {prog : Program} {w : World} {A : Around} {s : Shared} {env : Env} {E : Value → Shared → Prop} {value kE : Expr} {p pos : Pos} {a : Addr} {l : List (Str × Tok)} {i : Nat} {t : Tok} {Q : Value → Shared → Prop} (hv : ∀ Q' : Value → Shared → Prop, Q' (.ref a) s → wpAny (model prog w) A (eval value env) Q' E s) (hk : ∀ Q' : Value → Shared → Prop, (∀ tk, Q' (.int (i : Int) t) { s with toks := tk }) → wpAny (model prog w) A (eval kE env) Q' E s)
    (ha : s.heap.IsList a (strValues l).toArray) (hz : l.length ≤ 1000) (ht : ∀ o r, letTemporaryGo value o r = pure ())
    (h : ∀ D h' tk, s.heap.get? D = none → h'.get? D = some (W.listOf (strValues (l.take i)).toArray 0) → Keeps s.heap h' → Q (.ref D) { s with heap := h', toks := tk }) : wpAny (model prog w) A (eval (.Subscript value (.Slice none (some kE) none p) pos) env) Q E s := by
  refine wpAny_Subscript_list_slice (hv _ ?_) ht
  rw [evalPart_none]
  refine wpAny_pure ?_
  show wpAny (model prog w) A (evalPart (some kE) env) _ E s
  have hp : wpAny (model prog w) A (evalPart (some kE) env) (fun vu s₃ => vu = .int (i : Int) t ∧ ∃ tk, s₃ = { s with toks := tk }) E s := by
    unfold evalPart
    exact hk _ fun tk => ⟨rfl, tk, rfl⟩
  refine wpAny_mono hp (fun vu s₃ h₃ => ?_) fun _ _ e => e
  obtain ⟨rfl, tk, rfl⟩ := h₃
  refine ⟨a, (strValues l).toArray, none, some (i : Int), rfl, ha, ?_, .none, .int _ _, ?_⟩
  · unfold strValues; simp; rw [sizeLine_eq]; omega
  · rw [pick_upto, take_strs]
    refine h _ _ _ ?_ (by rw [← Heap.size_push]; exact Heap.get?_push_size _ rfl) fun b o e => Heap.get?_push_of_some _ (Heap.get?_push_of_some _ e)
    cases e : s.heap.get? _ with
    | none => rfl
    | some o => exact absurd (Heap.lt_size e) (by simp)

theorem ltS_irrefl (x : Str) : ltS x x = false := by
  unfold ltS
  exact decide_eq_false (List.lt_irrefl _)
theorem ltS_trans {x y z : Str} (h1 : ltS x y = true) (h2 : ltS y z = true) : ltS x z = true := by
  unfold ltS at *
  exact decide_eq_true (List.lt_trans (of_decide_eq_true h1) (of_decide_eq_true h2))
theorem ltS_total {x y : Str} (h1 : ltS x y = false) (h2 : ltS y x = false) : x = y := by
  unfold ltS at *
  have a := of_decide_eq_false h1
  have b := of_decide_eq_false h2
  cases x; cases y
  simp only [Str.mk.injEq]
  exact Array.toList_inj.mp (List.le_antisymm (List.not_lt.mp b) (List.not_lt.mp a))
theorem ltS_asymm {x y : Str} (h : ltS x y = true) : ltS y x = false := by
  cases e : ltS y x with
  | false => rfl
  | true => have := ltS_trans h e; rw [ltS_irrefl] at this; cases this
theorem ltL_irrefl : ∀ l : List Str, ltL l l = false
  | [] => rfl
  | x :: r => by show (if x = x then ltL r r else ltS x x) = false; rw [if_pos rfl]; exact ltL_irrefl r
theorem ltL_cons (x y : Str) (a b : List Str) : ltL (x :: a) (y :: b) = if x = y then ltL a b else ltS x y := rfl
theorem ltL_trans : ∀ {a b c : List Str}, ltL a b = true → ltL b c = true → ltL a c = true
  | [], [], _, h, _ => by cases h
  | [], _ :: _, [], _, h => by cases h
  | [], _ :: _, _ :: _, _, _ => rfl
  | _ :: _, [], _, h, _ => by cases h
  | _ :: _, _ :: _, [], _, h => by cases h
  | x :: a, y :: b, z :: c, h1, h2 => by
    rw [ltL_cons] at h1 h2 ⊢
    by_cases e1 : x = y
    · subst e1
      rw [if_pos rfl] at h1
      by_cases e2 : x = z
      · subst e2
        rw [if_pos rfl] at h2 ⊢
        exact ltL_trans h1 h2
      · rw [if_neg e2] at h2 ⊢
        exact h2
    · rw [if_neg e1] at h1
      by_cases e2 : y = z
      · subst e2
        rw [if_neg e1]; exact h1
      · rw [if_neg e2] at h2
        have h3 := ltS_trans h1 h2
        by_cases e3 : x = z
        · subst e3
          rw [ltS_irrefl] at h3; cases h3
        · rw [if_neg e3]; exact h3
/-- nothing is better than the best -/
theorem argBest_none {bt : Nat → Nat → Bool} (hi : ∀ a, bt a a = false) (ht : ∀ a b c, bt a b = true → bt b c = true → bt a c = true) : ∀ n k, k ≤ n → bt k (argBest bt n) = false
  | 0, k, hk => by
    obtain rfl : k = 0 := by omega
    exact hi 0
  | n + 1, k, hk => by
    have ih := argBest_none hi ht n
    cases hb : bt (n + 1) (argBest bt n) with
    | true =>
      simp only [argBest, hb, if_true]
      by_cases hkn : k = n + 1
      · subst hkn; exact hi _
      · cases e : bt k (n + 1) with
        | false => rfl
        | true => have := ht _ _ _ e hb; rw [ih k (by omega)] at this; cases this
    | false =>
      simp only [argBest, hb, Bool.false_eq_true, if_false]
      by_cases hkn : k = n + 1
      · subst hkn; exact hb
      · exact ih k (by omega)
/-- where two lists of texts part -/
noncomputable def lcpL : List Str → List Str → List Str
  | x :: a, y :: b => if x = y then x :: lcpL a b else []
  | _, _ => []
theorem lcpL_take : ∀ (a b : List Str) (i : Nat), i ≤ a.length → a.take i = b.take i → (a[i]? ≠ b[i]? ∨ a.length = i) → i ≤ b.length → lcpL a b = a.take i
  | [], b, i, h, _, _, _ => by
    have : i = 0 := by simpa using h
    subst this
    cases b <;> rfl
  | x :: a, [], i, _, _, _, hb => by
    have : i = 0 := by simpa using hb
    subst this; rfl
  | x :: a, y :: b, 0, _, _, hd, _ => by
    rcases hd with hd | hd
    · have : x ≠ y := fun q => hd (by simp [q])
      show (if x = y then _ else _) = _
      rw [if_neg this]; rfl
    · simp at hd
  | x :: a, y :: b, i + 1, ha, ht, hd, hb => by
    rw [List.take_succ_cons, List.take_succ_cons] at ht
    have e := List.cons.inj ht
    show (if x = y then x :: lcpL a b else []) = x :: a.take i
    rw [if_pos e.1, lcpL_take a b i (by simpa using ha) e.2 (by simpa using hd) (by simpa using hb)]
/-- if a is not above b, b goes at least as far as they agree -/
theorem len_of_le : ∀ (a b : List Str) (i : Nat), ltL b a = false → i < a.length → a.take i = b.take i → i < b.length
  | [], _, _, _, h, _ => by simp at h
  | x :: a, [], _, h, _, _ => by cases h
  | x :: a, y :: b, 0, _, _, _ => Nat.succ_pos _
  | x :: a, y :: b, i + 1, h, hi, ht => by
    rw [List.take_succ_cons, List.take_succ_cons] at ht
    have e := List.cons.inj ht
    rw [ltL_cons, if_pos e.1.symm] at h
    have := len_of_le a b i h (by simpa using hi) e.2
    simpa using this

noncomputable def newsOf {h₀ h : Heap} {L : Addr} {news : List (Addr × Obj)} (_ : News h₀ L h news) : List (Addr × Obj) := news
noncomputable def frameOf {h₀ h : Heap} {L : Addr} {m : Str → Option Value} (_ : Fr h₀ L h m) : Str → Option Value := m
noncomputable def locOf {h₀ h : Heap} {L : Addr} {m : Str → Option Value} (_ : Fr h₀ L h m) : Addr := L
noncomputable def btMin (rz : List (Addr × List (Str × Tok))) (i j : Nat) : Bool := ltL ((rz.getD i default).2.map (·.1)) ((rz.getD j default).2.map (·.1))
noncomputable def btMax (rz : List (Addr × List (Str × Tok))) (i j : Nat) : Bool := ltL ((rz.getD j default).2.map (·.1)) ((rz.getD i default).2.map (·.1))
theorem best_le {rz : List (Addr × List (Str × Tok))} {r1 r2 : Addr × List (Str × Tok)} (h1 : rz[argBest (btMin rz) (rz.length - 1)]? = some r1) (h2 : r2 ∈ rz) : ltL (r2.2.map (·.1)) (r1.2.map (·.1)) = false := by
  obtain ⟨k, hk⟩ := List.getElem?_of_mem h2
  have hkl := (List.getElem?_eq_some_iff.mp hk).1
  have := argBest_none (bt := btMin rz) (fun a => ltL_irrefl _) (fun a b c x y => ltL_trans x y) (rz.length - 1) k (Nat.le_sub_one_of_lt hkl)
  unfold btMin at this h1
  rw [List.getD_eq_getElem?_getD, List.getD_eq_getElem?_getD, hk, h1] at this
  exact this
theorem best_ge {rz : List (Addr × List (Str × Tok))} {r1 r2 : Addr × List (Str × Tok)} (h1 : rz[argBest (btMax rz) (rz.length - 1)]? = some r1) (h2 : r2 ∈ rz) : ltL (r1.2.map (·.1)) (r2.2.map (·.1)) = false := by
  obtain ⟨k, hk⟩ := List.getElem?_of_mem h2
  have hkl := (List.getElem?_eq_some_iff.mp hk).1
  have := argBest_none (bt := btMax rz) (fun a => ltL_irrefl _) (fun a b c x y => ltL_trans y x) (rz.length - 1) k (Nat.le_sub_one_of_lt hkl)
  unfold btMax at this h1
  rw [List.getD_eq_getElem?_getD, List.getD_eq_getElem?_getD, hk, h1] at this
  exact this
/-- behind the loop of commonpath -/
inductive CommonEnd (s : Shared) (L : Addr) (m : Str → Option Value) (news : List (Addr × Obj)) (l1 l2 : List (Str × Tok)) (f : Flow) (s' : Shared) : Prop
  | mk (e : f = .next) (h : Heap) (tk : Nat) (Dc : Addr) (lc : List (Str × Tok)) (cv iv : Option Value) (nc : Nat) : s' = { s with heap := h, toks := tk } → Fr s.heap L h (fun y => if y = Str.ofString "common" then some (.ref Dc) else if y = Str.ofString "c" then cv else if y = Str.ofString "i" then iv else m y) → News s.heap L h ((Dc, W.listOf (strValues lc).toArray nc) :: news) → lc.length ≤ 102 → (∀ x ∈ lc, x.1.length ≤ 100) → lc.map (·.1) = lcpL (l1.map (·.1)) (l2.map (·.1)) → CommonEnd s L m news l1 l2 f s'
/-- between the turns -/
inductive CommonTurn (m : Str → Option Value) (news : List (Addr × Obj)) (l1 l2 : List (Str × Tok)) (i : Nat) (m' : Str → Option Value) (nx : List (Addr × Obj)) : Prop
  | mk : (∀ y, y ≠ Str.ofString "i" → y ≠ Str.ofString "c" → m' y = m y) → nx = news → (l1.map (·.1)).take i = (l2.map (·.1)).take i → CommonTurn m news l1 l2 i m' nx
section
local macro_rules | `(tactic| k_enter) => `(tactic| (refine' enterC (by k_asm) (by exact TopRead.nolimit (by k_asm)) (by k_is) (by k_is) (by k_room) (by exact BindsTo.of_eq rfl) (by (intro n x hx; cases hx with | head => exact .inl rfl | tail _ hx => cases hx)) (by decide +kernel) ?_ (by exact rfl) (by exact rfl) (by exact rfl); k_whole; intro L' h' tk' cells' F' N' Y'; k_cells Y'; (try dsimp only)))
local macro_rules | `(tactic| walk_at "call type:map") => `(tactic| (k_here; refine Hold.out ?_))
local macro_rules | `(tactic| walk_at "call type:tuple") => `(tactic| (k_here; refine Hold.out ?_))
local macro_rules | `(tactic| walk_at "exec Assign cons ListComp") => `(tactic| (k_here; refine Hold.out ?_))
local macro_rules | `(tactic| walk_at "exec Assign cons SetComp") => `(tactic| (k_here; refine Hold.out ?_))
local macro_rules | `(tactic| walk_at "eval Subscript") => `(tactic| (k_here; (with_reducible show wpAny _ _ (eval (PySem.Expr.Subscript _ (PySem.Expr.Slice _ _ _ _) _) _) _ _ _); refine Hold.out ?_))
local macro_rules | `(tactic| walk_at "call type:enumerate") => `(tactic| (k_here; refine Hold.out ?_))
local macro_rules | `(tactic| walk_at "call builtin:str.join") => `(tactic| (k_here; refine Hold.out ?_))
local macro_rules | `(tactic| walk_at "call builtin:min") => `(tactic| (k_here; refine Hold.out ?_))
local macro_rules | `(tactic| walk_at "call builtin:max") => `(tactic| (k_here; refine Hold.out ?_))
local macro_rules | `(tactic| walk_at "exec For Tuple Call") => `(tactic| (k_here; refine Hold.out ?_))
local macro_rules | `(tactic| walk_at "truthy ref") => `(tactic| (k_here; (with_reducible show wpAny _ _ (truthy (Value.ref _)) _ _ _); k_dflt (refine' truthy_tupN (by k_asm) (by k_mem) (by assumption) (by assumption) ?_; intro tk'; k_whole)))
local macro_rules | `(tactic| walk_at "subscriptTail") => `(tactic| (k_here; (with_reducible show wpAny _ _ (subscriptTail _ _ (Value.ref _) (Value.int 0 _)) _ _ _); k_dflt (refine' item_tup0 (by k_asm) (by k_mem) (by assumption) ?_; k_whole)))
local macro_rules | `(tactic| walk_at "subscriptTail") => `(tactic| (k_here; (with_reducible show wpAny _ _ (subscriptTail _ _ (Value.ref _) (Value.int _ _)) _ _ _); k_dflt (refine' item_at (by k_asm) (by assumption) (by assumption) (by assumption) ?_; k_whole)))
/-- what commonpath tells of the places -/
inductive IsCommon (ps : List (Str × Tok)) (c : Str) : Prop
  | mk (a b : List Str) : a ∈ (ps.map fun p => (Txt.split p.1 (Str.ofString "/")).filter keepC) → b ∈ (ps.map fun p => (Txt.split p.1 (Str.ofString "/")).filter keepC) →
      (∀ c ∈ (ps.map fun p => (Txt.split p.1 (Str.ofString "/")).filter keepC), ltL c a = false ∧ ltL b c = false) → c = Str.ofString "/" ++ Txt.join (Str.ofString "/") (lcpL a b) → IsCommon ps c
inductive CommonR (ps : List (Str × Tok)) (r : Value) : Prop
  | mk (c : Str) (t : Tok) : r = .str c t → IsCommon ps c → CommonR ps r
set_option maxHeartbeats 4000000 in
theorem common_c (w : World) (R₀ : Addr) (ps : List (Str × Tok)) (hne : ps ≠ []) (hl : ps.length ≤ 100) (hb : ∀ x ∈ ps, x.1.length ≤ 100) (hst : ∀ x ∈ ps, Txt.startswith x.1 (Str.ofString "/") = true) :
    PureC w 246 [.ref R₀] 890 3900 (fun h => h.IsList R₀ (strValues ps).toArray)
    (fun _ r _ => CommonR ps r) := by
  unfold PureC PG LW VW
  k_fill
  intro outer s mg mb Q E X T hR hret
  have hnv : strValues ps ≠ [] := by cases ps with | nil => exact absurd rfl hne | cons => simp [strValues]
  have hzv : (strValues ps).length ≤ 2097152 := by unfold strValues; rw [List.length_map]; exact Nat.le_trans hl (by decide)
  refine ex2_1 (by cases ps with | nil => exact absurd rfl hne | cons a r => exact ⟨a.1, a.2, rfl⟩ : ∃ x0 t0, (strValues ps)[0]? = some (.str x0 t0)) fun x0 t0 hv0 => ?_
  refine wpAny_call ?_
  k_dflt k_enter
  k_steps
  with_reducible show Hold _
  rename Fr _ _ _ _ => F
  rename News _ _ _ _ => N
  refine map_fsp (ps := ps) F N hR ?_
  intro M T' I oI h1 c1 c2 hMI hTI hlI hnI F1 N1
  k_steps
  with_reducible show Hold _
  refine tuple_fsp F1 N1 X T hR c1 c2 hMI hTI hlI hnI (Nat.le_trans hl (by decide)) rfl ?_
  intro D h2 tk2 F2 N2 l2
  clear F N F1 N1
  replace l2 := allLt_of l2
  simp only [AllLt, and_true] at l2
  k_steps
  with_reducible show Hold _
  rename Fr _ _ _ _ => F3
  rename News _ _ _ _ => N3
  have c1 := (N3 _ (.tail _ (.tail _ (.head _)))).1
  refine assign_seq (l := D) (vs := strValues ps) (fun _ => true) (SplitR (Str.ofString "/")) rfl rfl rfl (by decide) rfl (by decide) rfl rfl rfl F3.ns ?_ (.inr ⟨_, (N3 _ (.head _)).1, rfl, _, rfl⟩) hzv ?_ ?_ ?_
  · intro Q' hq
    k_steps
    exact hq
  · intro C i v s₄ m₄ hv hC hn hm kp
    exact wpAny_pure (TestEnd.go rfl fun _ _ e => e)
  · intro C i v s₄ m₄ hv hC hn hm kp _
    refine ex2_2 (strValues_get hv) fun x t eq2 hx => ?_
    subst eq2
    refine ex2_2 (kp) fun h4 tk4 eq2 k4 => ?_
    subst eq2
    refine meth_names rfl PySem.F.slot_str_split PySem.F.type_str_split (fun Q' hq => gname_local rfl rfl hn hm hq (by decide)) (fun Q' hq => gname_cell rfl rfl rfl ⟨_, k4 _ _ c1, by assumption⟩ hq (by decide)) ?_
    refine split_new (by decide) (by have := hb _ (List.mem_of_getElem? hx); rw [sizeLine_eq]; dsimp only at this; omega) ?_
    intro l' k' hl'
    have hfr : h4.get? h4.objs.size = none := by
      cases e : h4.get? h4.objs.size with
      | none => rfl
      | some o => exact absurd (Heap.lt_size e) (Nat.lt_irrefl _)
    refine ⟨[(h4.objs.size, W.listOf (strValues l').toArray 0)], ⟨x, t, _, l', rfl, rfl, rfl, hl'⟩, ⟨_, _, rfl, fun b o e => Heap.get?_push_of_some _ e⟩, fun q hq => ?_⟩
    rw [List.mem_singleton.mp hq]
    exact ⟨hfr, Heap.get?_push_size _ rfl⟩
  · intro D2 h3 tk3 outs hD2 hpl hP hO hns hk
    refine ex1_3 (split_outs hP ps rfl) fun rs e1 e2 e3 => ?_
    rw [e1] at hpl
    rw [e2] at hO
    refine ex1_2 (asg_news F3 N3 hD2 hpl hO hns hk) fun n2 F4 N4 => ?_
    clear hns hk hO hpl F3 N3 c1 hP e1 e2
    replace N4 := N4
    simp only [List.cons_append, List.nil_append] at N4
    k_steps
    with_reducible show Hold _
    have c1 := (N4 _ (.tail _ (.tail _ (.tail _ (.head _))))).1
    have hT := (N4 _ (.tail _ (.head _))).1
    refine Assign_Tuple (setcomp_true (l := D) (vs := strValues ps) rfl rfl (by decide) rfl (by decide) rfl ?_ (.inr ⟨_, hT, rfl, _, rfl⟩) hnv ?_ ?_) rfl rfl
    · intro Q' hq
      k_steps
      exact hq
    · intro C i v s₄ m₄ hv hC hn hm kp
      refine ex2_2 (strValues_get hv) fun x t eq2 hx => ?_
      subst eq2
      refine ex2_2 (kp) fun h4 tk4 eq2 k4 => ?_
      subst eq2
      refine meth_names rfl PySem.F.slot_str_startswith PySem.F.type_str_startswith (fun Q' hq => gname_local rfl rfl hn hm hq (by decide)) (fun Q' hq => gname_cell rfl rfl rfl ⟨_, k4 _ _ c1, by assumption⟩ hq (by decide)) ?_
      refine PySem.SC.startswith ?_
      rw [hst _ (List.mem_of_getElem? hx)]
      exact ⟨rfl, _, _, rfl, fun _ _ e => e⟩
    · intro D5 ep h5 tk5 hset k5
      have F5 := fr_keeps F4 k5
      have N5 := news_keeps N4 k5
      refine assign_true1 rfl hset rfl rfl F5.ns ?_
      intro h6 tk6 hns6 k6
      refine ex0_2 (own_news F5 N5 hns6 k6) fun F6 N6 => ?_
      clear F4 N4 F5 N5 hns6 k6 k5 hset c1 hT
      k_steps
      with_reducible show Hold _
      have c1 := (N6 _ (.tail _ (.tail _ (.head _)))).1
      have hrs : ∀ r ∈ rs, h6.IsList r.1 (strValues r.2).toArray := fun r hr => ⟨_, (N6 _ (.tail _ (.tail _ (.tail _ (.tail _ (List.mem_map.mpr ⟨r, hr, rfl⟩)))))).1, rfl, _, rfl⟩
      have hlen : rs.length = ps.length := by have := congrArg List.length e3; simpa using this
      have hpart : ∀ r ∈ rs, r.2.length ≤ 102 ∧ ∀ x ∈ r.2, x.1.length ≤ 100 := fun r hr => by
        have hm : r.2.map (·.1) ∈ rs.map (fun r => r.2.map (·.1)) := List.mem_map.mpr ⟨r, hr, rfl⟩
        rw [e3] at hm
        obtain ⟨z, hz, ez⟩ := List.mem_map.mp hm
        obtain ⟨z', hz', rfl⟩ := List.mem_map.mp hz
        have hb' := hb z' hz'
        constructor
        · have := PyProof.Rows.split_le z'.1 (Str.ofString "/")
          rw [ez, List.length_map] at this
          exact Nat.le_trans this (Nat.add_le_add_right hb' 2)
        · intro x hx
          have : x.1 ∈ Txt.split z'.1 (Str.ofString "/") := by rw [ez]; exact List.mem_map_of_mem hx
          exact Nat.le_trans (PyProof.Rows.part_short this) hb'
      refine assign_seq (l := D2) (vs := rs.map fun r => Value.ref r.1) (fun _ => true) (FiltR keepC rs) rfl rfl rfl (by decide) rfl (by decide) rfl rfl rfl F6.ns ?_ (.inl ⟨_, (N6 _ (.head _)).1, rfl, _, rfl⟩) (by rw [List.length_map]; omega) ?_ ?_ ?_
      · intro Q' hq
        k_steps
        exact hq
      · intro C i v s₄ m₄ hv hC hn hm kp
        exact wpAny_pure (TestEnd.go rfl fun _ _ e => e)
      · intro C i v s₄ m₄ hv hC hn hm kp _
        rw [List.getElem?_map] at hv
        refine ex1_2 (Option.map_eq_some_iff.mp hv) fun r hr eq2 => ?_
        subst eq2
        have hrm := List.mem_of_getElem? hr
        refine ex2_2 (kp) fun h4 tk4 eq2 k4 => ?_
        subst eq2
        refine comp_list keepV (fun v y os => y = v ∧ os = []) (l := r.1) (vs := strValues r.2) rfl rfl (by decide) rfl (by decide) rfl (fun Q' hq => gname_local rfl rfl hn hm hq (by decide)) ((hrs r hrm).at fun o e => k4 _ o e) (by unfold strValues; rw [List.length_map]; have := (hpart r hrm).1; omega) ?_ ?_ ?_
        · intro C2 j v s₅ m₅ hv2 hC2 hn2 hm2 kp2
          refine ex2_2 (strValues_get hv2) fun x t eq2 hx => ?_
          subst eq2
          have hxl := (hpart r hrm).2 _ (List.mem_of_getElem? hx)
          dsimp only at hxl
          refine ex2_2 (kp2) fun h5' tk5' eq2 k5' => ?_
          subst eq2
          simp only [List.forIn_cons, List.forIn_nil, if_true]
          refine wpAny_bind (wpAny_bind (isTrue_and (isTrue_plain (gname_local rfl rfl hn2 hm2 (PySem.P.truthy_str (by omega) ?_) (by decide)))))
          cases hz : ((x.length : Int) != 0) with
          | false =>
            rw [if_neg (by decide)]
            refine wpAny_pure (wpAny_pure ⟨?_, _, _, rfl, fun _ _ e => e⟩)
            show false = (((x.length : Int) != 0) && (x != Str.ofString "."))
            rw [hz]; rfl
          | true =>
            rw [if_pos rfl]
            refine isTrue_and (wpAny_isTrue_Compare1 (gname_local rfl rfl hn2 hm2 (gname_cell rfl rfl rfl ⟨_, k5' _ _ (k4 _ _ c1), by assumption⟩ (PyProof.Rows.ne_str (wpAny_truthy_bool ?_)) (by decide)) (by decide)))
            cases hd : (x != Str.ofString ".") with
            | false =>
              rw [if_neg (by decide)]
              refine wpAny_pure (wpAny_pure ⟨?_, _, _, rfl, fun _ _ e => e⟩)
              show false = (((x.length : Int) != 0) && (x != Str.ofString "."))
              rw [hz, hd]; rfl
            | true =>
              rw [if_pos rfl]
              refine isTrue_and_nil (wpAny_pure (wpAny_pure ⟨?_, _, _, rfl, fun _ _ e => e⟩))
              show true = (((x.length : Int) != 0) && (x != Str.ofString "."))
              rw [hz, hd]; rfl
        · intro C2 j v s₅ m₅ hv2 hC2 hn2 hm2 kp2 _
          refine gname_local rfl rfl hn2 hm2 ?_ (by decide)
          exact ⟨[], ⟨rfl, rfl⟩, ⟨s₅.heap, s₅.toks, rfl, fun _ _ e => e⟩, fun _ hq => nomatch hq⟩
        · intro D7 h7 tk7 outs7 hD7 hpl7 hP7 hO7 hk7
          refine ex1_3 (keep_outs hP7 r.2 rfl) fun l' i1 i2 i3 => ?_
          rw [i1] at hpl7
          refine ex1_1 (hpl7) fun n7 hDo => ?_
          refine ⟨[(D7, W.listOf (strValues l').toArray n7)], ⟨r, D7, l', n7, hrm, rfl, rfl, rfl, i3⟩, ⟨h7, tk7, rfl, hk7⟩, fun q hq => ?_⟩
          rw [List.mem_singleton.mp hq]
          exact ⟨hD7, hDo⟩
      · intro D7 h7 tk7 outs7 hD7 hpl hP hO hns hk
        refine ex1_3 (filt_outs hrs hP rs (fun _ h => h) rfl) fun rs' e1 e2 e4 => ?_
        rw [e1] at hpl
        rw [e2] at hO
        refine ex1_2 (asg_news F6 N6 hD7 hpl hO hns hk) fun n7 F7 N7 => ?_
        clear hns hk hO hpl F6 N6 c1 hP e1 e2 hrs
        simp only [List.cons_append] at N7
        k_steps
        with_reducible show Hold _
        refine ex1_1 (⟨_, rfl⟩ : ∃ rz : List (Addr × List (Str × Tok)), rz = rs'.map fun r => (r.1, r.2.1)) fun rz erz => ?_
        have ez1 : (rs'.map fun r => Value.ref r.1) = rz.map fun r => Value.ref r.1 := by rw [erz, List.map_map]; rfl
        have ez2 : rz.map (fun r => r.2.map (·.1)) = rs.map fun r => (r.2.map (·.1)).filter keepC := by rw [← e4, erz, List.map_map]; rfl
        have hmem : ∀ r ∈ rz, ∃ n, (r.1, W.listOf (strValues r.2).toArray n) ∈ newsOf N7 := fun r hr => by
          rw [erz] at hr
          obtain ⟨r', hr', rfl⟩ := List.mem_map.mp hr
          exact ⟨_, .tail _ (.tail _ (.tail _ (.tail _ (.tail _ (List.mem_append_right _ (List.mem_map.mpr ⟨r', hr', rfl⟩))))))⟩
        have hnz : rz ≠ [] := fun q => by
          have h2 := congrArg List.length ez2
          rw [q, List.length_map, List.length_map, hlen] at h2
          exact hne (List.length_eq_zero_iff.mp h2.symm)
        have hzpart : ∀ r ∈ rz, r.2.length ≤ 102 ∧ ∀ x ∈ r.2, x.1.length ≤ 100 := fun r hr => by
          have hm : r.2.map (·.1) ∈ rz.map (fun r => r.2.map (·.1)) := List.mem_map.mpr ⟨r, hr, rfl⟩
          rw [ez2] at hm
          obtain ⟨z, hz, ez⟩ := List.mem_map.mp hm
          have hp := hpart z hz
          constructor
          · have := congrArg List.length ez
            rw [List.length_map] at this
            rw [← this]
            exact Nat.le_trans (List.length_filter_le _ _) (by rw [List.length_map]; exact hp.1)
          · intro x hx
            have : x.1 ∈ (z.2.map (·.1)).filter keepC := by rw [ez]; exact List.mem_map_of_mem hx
            obtain ⟨y, hy, ey⟩ := List.mem_map.mp (List.mem_filter.mp this).1
            rw [← ey]; exact hp.2 y hy
        refine call_min_lists rfl ⟨_, (N7 _ (.head _)).1, rfl, _, by rw [ez1]⟩ (fun r hr => let ⟨_, q⟩ := hmem r hr; ⟨_, (N7 _ q).1, rfl, _, rfl⟩) hnz (Nat.le_of_ble_eq_true rfl) ?_
        intro r1 h8 tk8 hr1 k8
        have F8 := fr_keeps F7 k8
        have N8 := news_keeps N7 k8
        clear F7
        k_steps
        with_reducible show Hold _
        rename Fr _ _ _ _ => F9
        rename News _ _ _ _ => N9
        refine call_max_lists rfl ⟨_, (N9 _ (.head _)).1, rfl, _, by rw [ez1]⟩ (fun r hr => let ⟨_, q⟩ := hmem r hr; ⟨_, (N9 _ q).1, rfl, _, rfl⟩) hnz (Nat.le_of_ble_eq_true rfl) ?_
        intro r2 h10 tk10 hr2 k10
        have F10 := fr_keeps F9 k10
        have N10 := news_keeps N9 k10
        clear F9 F8 N8
        k_steps
        with_reducible show Hold _
        rename Fr _ _ _ _ => F11
        rename News _ _ _ _ => N11
        dsimp only at F11
        have hm1 := List.mem_of_getElem? hr1
        have hm2 := List.mem_of_getElem? hr2
        refine ex1_1 (hmem r1 hm1) fun nn1 hmem1 => ?_
        refine ex1_1 (hmem r2 hm2) fun nn2 hmem2 => ?_
        have hl1 : r1.2.length ≤ 102 ∧ ∀ x ∈ r1.2, x.1.length ≤ 100 := hzpart r1 hm1
        have hl2 : r2.2.length ≤ 102 ∧ ∀ x ∈ r2.2, x.1.length ≤ 100 := hzpart r2 hm2
        have hle : ltL (r2.2.map (·.1)) (r1.2.map (·.1)) = false := best_le hr1 hm2
        refine wpAny_mono (Q := CommonEnd s (locOf F11) (frameOf F11) (newsOf N11) r1.2 r2.2) ?loop ?after (fun _ _ e => e)
        case loop =>
          refine for_pairs (h₀ := s.heap) rfl rfl rfl rfl ?_
          k_steps
          with_reducible show Hold _
          refine call_enumerate_1 (N11 _ hmem1).1 ?_
          intro h12 he hit hsz12 k12
          dsimp only
          refine wpAny_pyIter_enum he ?_
          have hL11 := F11.ns.lt
          have hls1 := Heap.lt_size (N11 _ hmem1).1
          have ltB : ∀ b o, s.heap.get? b = some o → _ := fun b o e => Heap.lt_size (F11.keep b o e)
          have hmI : ∀ {b : Addr} {z : Nat}, b < z → b ∉ [z + 1, z] := fun hb hm => by
            rcases List.mem_cons.mp hm with q | q
            · exact absurd hb (q ▸ Nat.not_lt.mpr (Nat.le_succ _))
            · exact absurd hb ((List.mem_singleton.mp q) ▸ Nat.lt_irrefl _)
          refine ⟨_, _, _, _, _, _, _, _, newsOf N11, CommonTurn (frameOf F11) (newsOf N11) r1.2 r2.2, rfl,
            (WalksT.enumerate (prog := PG) (w := w) rfl _ _ r1.1 (Nat.succ_ne_self _) (Nat.ne_of_lt (Nat.lt_succ_of_lt hls1)) (Nat.ne_of_lt hls1) (strValues r1.2).toArray).toU, ?hLf, ?hwr, ?hnw, ⟨⟨_, he⟩, hit, ⟨_, k12 _ _ (N11 _ hmem1).1, rfl, _, rfl⟩⟩, ?hal, fr_keeps F11 k12, news_keeps N11 k12, ⟨fun _ _ _ => rfl, rfl, rfl⟩, ?h2, ?turn, ?done⟩
          case hLf =>
            intro hm
            rcases List.mem_cons.mp hm with q | hm
            · exact absurd hL11 (Nat.not_lt.mpr (Nat.le_trans (Nat.le_succ _) (Nat.le_of_eq q.symm)))
            · rcases List.mem_cons.mp hm with q | hm
              · exact absurd hL11 (Nat.not_lt.mpr (Nat.le_of_eq q.symm))
              · exact (N11 _ hmem1).2.1 (List.mem_singleton.mp hm).symm
          case hwr =>
            intro b hb
            cases e : s.heap.get? b with
            | none => rfl
            | some o => exact absurd hb (hmI (ltB b o e))
          case hnw => exact fun p hp => hmI (Heap.lt_size (N11 p hp).1)
          case hal =>
            rintro i h ⟨⟨old, h1⟩, ⟨o, ho, _⟩, _⟩ b hb
            rcases List.mem_cons.mp hb with rfl | hb
            · exact ⟨_, h1⟩
            · exact ⟨o, (List.mem_singleton.mp hb) ▸ ho⟩
          case h2 =>
            rintro i vals ⟨t, x, _, rfl⟩
            exact ⟨_, _, rfl⟩
          case turn =>
            rintro i a b m₁ news₁ h13 tk13 own hi ⟨t, x, hx, ev⟩ ⟨hm, rfl, htk⟩ hown hnw13 F13 N13
            obtain ⟨rfl, rfl⟩ : a = .int (i : Int) t ∧ b = x := by simpa using congrArg Array.toList ev
            refine ex2_2 (strValues_get (by simpa using hx)) fun c u eq2 hc => ?_
            subst eq2
            have hi1 : i < r1.2.length := (List.getElem?_eq_some_iff.mp hc).1
            have hi2 : i < r2.2.length := by
              have := len_of_le (r1.2.map (·.1)) (r2.2.map (·.1)) i hle (by rw [List.length_map]; exact hi1) htk
              rwa [List.length_map] at this
            obtain ⟨⟨y, u2⟩, hy⟩ : ∃ q, r2.2[i]? = some q := ⟨_, List.getElem?_eq_getElem hi2⟩
            have hvy : (strValues r2.2)[i]? = some (.str y u2) := by unfold strValues; rw [List.getElem?_map, hy]; rfl
            have hz2 : (strValues r2.2).length ≤ 2097152 := by unfold strValues; rw [List.length_map]; exact Nat.le_trans hl2.1 (by decide)
            have hm2' := List.mem_append_left own hmem2
            have hm1' := List.mem_append_left own hmem1
            have em : (fun y => if y = Str.ofString "c" then some (Value.str c u) else if y = Str.ofString "i" then some (Value.int (i : Int) t) else m₁ y) = fun y => if y = Str.ofString "c" then some (Value.str c u) else if y = Str.ofString "i" then some (Value.int (i : Int) t) else frameOf F11 y := by
              funext y
              by_cases q1 : y = Str.ofString "c"
              · simp [q1]
              · by_cases q2 : y = Str.ofString "i"
                · simp [q2]
                · rw [if_neg q1, if_neg q2, if_neg q1, if_neg q2]; exact hm y q2 q1
            rw [em] at F13
            unfold frameOf at F13
            clear em hm ev hx k12 hit he
            k_steps
            · with_reducible show Hold _
              rename (c != y) = true => hcy
              refine slice_uptoN (a := r1.1) (l := r1.2) (i := i) (t := t) (fun Q' hq => gname_local rfl rfl F13.ns rfl hq (by decide)) (fun Q' hq => gname_local rfl rfl F13.ns rfl (hq _) (by decide)) ⟨_, (N13 _ hm1').1, rfl, _, rfl⟩ (Nat.le_trans hl1.1 (by decide)) (fun _ _ => rfl) ?_
              intro D14 h14 tk14 hD14 hDo k14
              have F14 := fr_keeps F13 k14
              have N14 := (news_fresh F13 N13 k14 hD14 hDo).1
              clear F13 N13
              k_steps
              rename Fr _ _ _ _ => F15
              rename News _ _ _ _ => N15
              dsimp only [TurnPost]
              refine ⟨rfl, _, _, D14, r1.2.take i, some (.str c u), some (.int (i : Int) t), 0, rfl, F15, fun p hp => (List.mem_cons.mp hp).elim (fun q => q ▸ N15 _ (.head _)) fun hp => N15 p (.tail _ (List.mem_append_left _ hp)), by rw [List.length_take]; exact Nat.le_trans (Nat.min_le_right _ _) hl1.1, fun x hx => hl1.2 x (List.mem_of_mem_take hx), ?_⟩
              rw [List.map_take, lcpL_take _ _ i (by rw [List.length_map]; exact Nat.le_of_lt hi1) htk (.inl ?_) (by rw [List.length_map]; exact Nat.le_of_lt hi2)]
              rw [List.getElem?_map, List.getElem?_map, hc, hy]
              intro q
              have q' : c = y := Option.some.inj q
              rw [q'] at hcy
              simp at hcy
            · rename (c != y) = false => hcy
              have hcy' : c = y := by simpa using hcy
              subst hcy'
              dsimp only [TurnPost]
              refine ⟨h13, tk13, _, newsOf N11, rfl, F13, N13, fun p hp => .inl (List.mem_map_of_mem hp), fun y h1 h2 => ?_, rfl, ?_⟩
              · dsimp only; rw [if_neg h2, if_neg h1]; rfl
              · rw [List.take_add_one, List.take_add_one, htk, List.getElem?_map, List.getElem?_map, hc, hy]
                rfl
          case done =>
            rintro h16 tk16 m16 news16 F16 N16 ⟨hm, rfl, htk⟩
            have hsz : (strValues r1.2).toArray.size = r1.2.length := by simp [strValues]
            rw [hsz] at htk
            have em : (fun y => if y = Str.ofString "common" then some (Value.ref r1.1) else if y = Str.ofString "c" then m16 (Str.ofString "c") else if y = Str.ofString "i" then m16 (Str.ofString "i") else frameOf F11 y) = m16 := by
              funext y
              by_cases q0 : y = Str.ofString "common"
              · rw [if_pos q0, q0, hm _ (by decide) (by decide)]; rfl
              · rw [if_neg q0]
                by_cases q1 : y = Str.ofString "c"
                · rw [if_pos q1, q1]
                · rw [if_neg q1]
                  by_cases q2 : y = Str.ofString "i"
                  · rw [if_pos q2, q2]
                  · rw [if_neg q2, hm y q2 q1]
            refine ⟨rfl, h16, tk16, r1.1, r1.2, m16 (Str.ofString "c"), m16 (Str.ofString "i"), nn1, rfl, em.symm ▸ F16, fun p hp => (List.mem_cons.mp hp).elim (fun q => q ▸ N16 _ hmem1) (N16 p), hl1.1, hl1.2, ?_⟩
            have hlen2 : r1.2.length ≤ r2.2.length := by
              have q := congrArg List.length htk
              rw [List.length_take, List.length_take, List.length_map, List.length_map, Nat.min_self] at q
              rw [q]; exact Nat.min_le_right _ _
            rw [lcpL_take _ _ r1.2.length (by rw [List.length_map]; exact Nat.le_refl _) htk (.inr (List.length_map ..)) (by rw [List.length_map]; exact hlen2)]
            rw [List.take_of_length_le (by rw [List.length_map]; exact Nat.le_refl _)]
        case after =>
          rintro f s' ⟨rfl, h17, tk17, Dc, lc, cv, iv, nc, rfl, F17, N17, hlc, hlb, hlcp⟩
          unfold frameOf locOf at F17
          unfold newsOf locOf at N17
          clear F11
          dsimp only
          k_steps
          with_reducible show Hold _
          rename Fr _ _ _ _ => F18
          rename News _ _ _ _ => N18
          have hb' : ∀ a ∈ lc.map (·.1), a.length ≤ 1000 := fun a ha => by
            obtain ⟨z, hz, rfl⟩ := List.mem_map.mp ha
            exact Nat.le_trans (hlb z hz) (by decide)
          have hjl : (Txt.join (Str.ofString "/") (lc.map (·.1))).length ≤ 1048576 := Nat.le_trans (join_len _ _) (small_join2 (by rw [List.length_map]; omega) hb' (by decide))
          refine join_list ⟨_, (N18 _ (.head _)).1, rfl, _, rfl⟩ (strsAre_of lc) (small_join (by rw [List.length_map]; omega) hb' (by decide)) ?_
          intro t' k'
          k_steps
          dsimp only
          have hC : rz.map (fun r => r.2.map (·.1)) = ps.map fun p => (Txt.split p.1 (Str.ofString "/")).filter keepC := by
            rw [ez2]
            have : rs.map (fun r => (r.2.map (·.1)).filter keepC) = (rs.map fun r => r.2.map (·.1)).map fun z => z.filter keepC := by rw [List.map_map]; rfl
            rw [this, e3, List.map_map, List.map_map]; rfl
          refine hret _ _ _ ⟨_, _, rfl, r1.2.map (·.1), r2.2.map (·.1), ?_, ?_, ?_, by rw [hlcp]⟩ (Fr.keep (by with_reducible assumption))
          · rw [← hC]; exact List.mem_map.mpr ⟨r1, hm1, rfl⟩
          · rw [← hC]; exact List.mem_map.mpr ⟨r2, hm2, rfl⟩
          · intro c hc
            rw [← hC] at hc
            obtain ⟨r, hr, rfl⟩ := List.mem_map.mp hc
            exact ⟨best_le hr1 hr, best_ge hr2 hr⟩
end

/-- a turn's end, where generators may have run -/
inductive TurnEndG (h₀ : Heap) (L : Addr) (own news₁ : List (Addr × Obj)) (J' : (Str → Option Value) → List (Addr × Obj) → Prop) (s₁ s₂ : Shared) : Prop
  | mk (h' : Heap) (tk : Nat) (gs : Array GenState) (m' : Str → Option Value) (nx : List (Addr × Obj)) : s₂ = { s₁ with heap := h', toks := tk, gens := gs } → Fr h₀ L h' m' → News h₀ L h' (nx ++ own) → (∀ p ∈ nx, ∀ q ∈ own, p.1 ≠ q.1) → (AllBare s₁.gens → AllBare gs) → J' m' nx → TurnEndG h₀ L own news₁ J' s₁ s₂
/-- between the turns -/
inductive RangeInv (J : Nat → (Str → Option Value) → List (Addr × Obj) → Prop) (h₀ : Heap) (L I : Addr) (n : Nat) (s : Shared) (k : Nat) (s' : Shared) : Prop
  | mk (h2 : Heap) (tk : Nat) (gs : Array GenState) (m' : Str → Option Value) (news' : List (Addr × Obj)) (i : Nat) : s' = { s with heap := h2, toks := tk, gens := gs } → IsRangeIter h2 I (0 + (i : Int) * 1) ((n : Int) - (i : Int)) 1 → Fr h₀ L h2 m' → News h₀ L h2 news' → (∀ p ∈ news', p.1 ≠ I) → J i m' news' → i ≤ n → k = n + 1 - i → (AllBare s.gens → AllBare gs) → RangeInv J h₀ L I n s k s'
noncomputable def TurnPostG (h₀ : Heap) (L : Addr) (own news₁ : List (Addr × Obj)) (J' : (Str → Option Value) → List (Addr × Obj) → Prop) (s₁ : Shared) (Q : Flow → Shared → Prop) (f : Flow) (s₂ : Shared) : Prop :=
  match f with
  | .ret v => Q (.ret v) s₂
  | .brk => Q .next s₂
  | _ => TurnEndG h₀ L own news₁ J' s₁ s₂
section
variable {prog : Program} {w : World} {A : Around} {s : Shared} {env : Env} {h₀ : Heap} {x : Str} {px pos : Pos} {iter : Expr} {body : List Stmt} {Q : Flow → Shared → Prop}
/-- a for over a range that begins at nought -/
theorem for_range {n : Nat} {m₀ : Str → Option Value} {news : List (Addr × Obj)} (J : Nat → (Str → Option Value) → List (Addr × Obj) → Prop)
    (hh : A.handled = none) (hiter : ∀ Q' : Value → Shared → Prop, (∀ tk h' R t₁ u₁ v₁, IsRange h' R 0 (n : Int) 1 t₁ u₁ v₁ → Keeps s.heap h' → Q' (.ref R) { s with heap := h', toks := tk }) → wpAny (model prog w) A (eval iter env) Q' (fun _ _ => False) s)
    (hn : n ≤ 1000) (hx : env.kindOf x = some .local)
    (hp : (env.scope.kind == .class || (env.scope.kind == .module && env.locals != env.globals)) = false)
    (F : Fr h₀ env.locals s.heap m₀) (N : News h₀ env.locals s.heap news) (hj : J 0 m₀ news)
    (turn : ∀ i t m₁ news₁ h tk gs own, (AllBare s.gens → AllBare gs) → i < n → J i m₁ news₁ → (∀ p ∈ own, ∀ q ∈ news₁, p.1 ≠ q.1) → Fr h₀ env.locals h (fun y => if y = x then some (.int (i : Int) t) else m₁ y) → News h₀ env.locals h (news₁ ++ own) →
      wpAny (model prog w) A (execs body env) (TurnPostG h₀ env.locals own news₁ (J (i + 1)) { s with heap := h, toks := tk, gens := gs } Q) (fun _ _ => False) { s with heap := h, toks := tk, gens := gs })
    (done : ∀ m₁ news₁ h tk gs, (AllBare s.gens → AllBare gs) → J n m₁ news₁ → Fr h₀ env.locals h m₁ → News h₀ env.locals h news₁ → Q .next { s with heap := h, toks := tk, gens := gs })
    (hs : ∀ x, foldedSetIterable iter env x = pure x := by intro _; rfl) :
    wpAny (model prog w) A (exec (.For (.Name x px) iter body [] pos) env) Q (fun _ _ => False) s := by
  refine wpAny_For (hiter _ fun tk h' R t₁ u₁ v₁ hR k => ?_) hs
  refine wpAny_pyIter_range hR (small_one (by decide) (by decide) (by omega) (by omega)) ?_
  have F' := fr_keeps F k
  have N' := news_keeps N k
  have hsz : Builtin.Range.rangeSize 0 (n : Int) 1 = ((n : Nat) : Int) := by rw [rangeSize_nat]; omega
  have up : Keeps h' (h'.push { cls := .type "range_iterator", data := .fields #[rawInt 0, rawInt (Builtin.Range.rangeSize 0 (n : Int) 1), rawInt 1] }) := fun b o e => Heap.get?_push_of_some _ e
  have hst : IsRangeIter (h'.push { cls := .type "range_iterator", data := .fields #[rawInt 0, rawInt (Builtin.Range.rangeSize 0 (n : Int) 1), rawInt 1] }) h'.objs.size (0 + ((0 : Nat) : Int) * 1) ((n : Int) - ((0 : Nat) : Int)) 1 := by
    show _ = some _
    rw [Heap.get?_push_size _ rfl, hsz]
    simp [rawInt]
  have W := Walks.range (prog := prog) (w := w) (A := A) hh h'.objs.size 0 1 n
  have hIL : env.locals ≠ h'.objs.size := Nat.ne_of_lt F'.ns.lt
  have hI0 : h₀.get? h'.objs.size = none := next_is_new F'
  have hIn : ∀ p ∈ news, p.1 ≠ h'.objs.size := fun p hp => Nat.ne_of_lt (Heap.lt_size (N' p hp).1)
  dsimp only
  generalize h'.push { cls := .type "range_iterator", data := .fields #[rawInt 0, rawInt (Builtin.Range.rangeSize 0 (n : Int) 1), rawInt 1] } = H at up hst ⊢
  generalize h'.objs.size = I at W hst hIL hI0 hIn ⊢
  have old : ∀ b o, h₀.get? b = some o → b ∉ [I] := fun b o e hb => by rw [List.mem_singleton.mp hb, hI0] at e; cases e
  have offI : ∀ b, b ≠ I → b ∉ [I] := fun b hb hm => hb (List.mem_singleton.mp hm)
  refine codeAny_forLoop_any
    (RangeInv J h₀ env.locals I n s) ?_ (n + 1)
    ⟨H, _, _, m₀, news, 0, rfl, hst, fr_keeps F' up, news_keeps N' up, hIn, hj, Nat.zero_le _, rfl, id⟩
  rintro k s' ⟨h2, tk2, gs2, m', news', i, rfl, hst', F2, N2, hnI, hJ, hi, rfl, hB⟩
  have next : ∀ h₁ : Heap, (∀ b o, b ∉ [I] → h2.get? b = some o → h₁.get? b = some o) → Fr h₀ env.locals h₁ m' ∧ News h₀ env.locals h₁ news' := fun h₁ hk₁ =>
    ⟨⟨F2.ns.at' fun o e => hk₁ _ o (offI _ hIL) e, fun b o e => hk₁ b o (old b o e) (F2.keep b o e), F2.above⟩, fun p hp => ⟨hk₁ _ _ (offI _ (hnI p hp)) (N2 p hp).1, (N2 p hp).2⟩⟩
  by_cases hlt : i < n
  · refine W.item i _ _ _ hlt hst' fun v h₁ tk₁ hP hst₁ hk₁ => ?_
    obtain ⟨t, rfl⟩ := hP
    obtain ⟨F3, N3⟩ := next h₁ hk₁
    have ei : (0 : Int) + (i : Int) * 1 = (i : Int) := zero_step i
    rw [ei]
    refine wpAny_of_eq (a := ()) rfl ?_
    refine wpAny_assign_Name (wpAny_storeName_local hx F3.ns (fun h₅ hn₅ hs₅ => ?_) hp)
    have F₅ := F3.set hn₅ hs₅
    have N₅ : News h₀ env.locals h₅ news' := N3.set hs₅
    have st₅ : IsRangeIter h₅ I (0 + ((i + 1 : Nat) : Int) * 1) ((n : Int) - ((i + 1 : Nat) : Int)) 1 := W.frame _ _ _ hst₁ fun b hb o e => (hs₅.2 b fun q => hIL (q ▸ List.mem_singleton.mp hb)).trans e
    have Nown : News h₀ env.locals h₅ [(I, ({ cls := .type "range_iterator", data := .fields #[rawInt (0 + ((i + 1 : Nat) : Int) * 1), rawInt ((n : Int) - ((i + 1 : Nat) : Int)), rawInt 1] } : Obj))] := fun p hp => by
      rw [List.mem_singleton.mp hp]
      exact ⟨st₅, Ne.symm hIL, hI0⟩
    have Nall : News h₀ env.locals h₅ (news' ++ [(I, ({ cls := .type "range_iterator", data := .fields #[rawInt (0 + ((i + 1 : Nat) : Int) * 1), rawInt ((n : Int) - ((i + 1 : Nat) : Int)), rawInt 1] } : Obj))]) := fun p hp => (List.mem_append.mp hp).elim (N₅ p) (Nown p)
    refine wpAny_mono (turn i t m' news' h₅ _ _ _ hB hlt hJ (fun p hp q hq => by rw [List.mem_singleton.mp hp]; exact Ne.symm (hnI q hq)) F₅ Nall) (fun f s₃ h₆ => ?_) fun _ _ e => e.elim
    have fin : TurnEndG h₀ env.locals [(I, ({ cls := .type "range_iterator", data := .fields #[rawInt (0 + ((i + 1 : Nat) : Int) * 1), rawInt ((n : Int) - ((i + 1 : Nat) : Int)), rawInt 1] } : Obj))] news' (J (i + 1)) { s with heap := h₅, toks := tk₁ + 1, gens := gs2 } s₃ → ∃ mm, mm < n + 1 - i ∧ RangeInv J h₀ env.locals I n s mm s₃ := by
      rintro ⟨H6, tk₆, gs₆, m₆, nx, rfl, F₆, N₆, ha₆, hB₆, hJ₆⟩
      refine ⟨n + 1 - (i + 1), step_lt hlt, H6, tk₆, gs₆, m₆, nx, i + 1, rfl, (N₆ _ (List.mem_append_right _ (.head _))).1, F₆, fun p hp => N₆ p (List.mem_append_left _ hp), fun p hp hw => ha₆ p hp _ (.head _) hw, hJ₆, hlt, rfl, fun B => hB₆ (hB B)⟩
    cases f with
    | ret v => exact h₆
    | brk => exact h₆
    | next => exact fin h₆
    | cont => exact fin h₆
  · have hin : i = n := Nat.le_antisymm hi (Nat.not_lt.mp hlt)
    subst hin
    refine W.done _ _ _ hst' fun h₁ tk₁ hk₁ => wpAny_execs_nil ?_
    obtain ⟨F₁, N₁⟩ := next h₁ hk₁
    exact done m' news' h₁ tk₁ gs2 hB hJ F₁ N₁
end

/-- the body of the first for of a def -/
noncomputable def turnOf (b : List Stmt) : List Stmt := (b.findSome? fun st => match st with | .For _ _ body _ _ => some body | _ => none).getD []
noncomputable def bodyO (o : Obj) : List Stmt := match o.data with
  | .func f => (match f.body with | .stmts b => b | _ => [])
  | _ => []
noncomputable def envO (o : Obj) (L : Addr) : Env := match o.data with
  | .func f => envX f.qualname f.scope L 268 f.code f.closure
  | _ => envX Str.empty default L 268 .none []
theorem execs_append (a b : List Stmt) (env : Env) : execs (a ++ b) env = (execs a env).bind fun f => match f with | .next => execs b env | f => .pure f := by
  induction a with
  | nil =>
    rw [show execs [] env = Sem.pure Flow.next from arm_execs_nil env]
    rfl
  | cons x a ih =>
    rw [List.cons_append, arm_execs_cons, arm_execs_cons]
    show Sem.bind _ _ = Sem.bind (Sem.bind _ _) _
    rw [Sem.bind_assoc]
    congr 1
    funext f
    cases f with
    | next => exact ih
    | _ => rfl
theorem execs_split {M : Model} {A : Around} {b : List Stmt} (n : Nat) {env : Env} {Q : Flow → Shared → Prop} {E : Value → Shared → Prop} {s : Shared}
    (h : wpAny M A (execs (b.take n) env) (fun f s' => match f with | .next => wpAny M A (execs (b.drop n) env) Q E s' | f => Q f s') E s) : wpAny M A (execs b env) Q E s := by
  have e : execs b env = execs (b.take n ++ b.drop n) env := by rw [List.take_append_drop]
  rw [e, execs_append]
  refine wpAny_bind (wpAny_mono h (fun f s' x => ?_) fun _ _ x => x)
  cases f with
  | next => exact x
  | _ => exact wpAny_pure x
/-- the names of the frame of _law_walk_holds in a turn -/
structure WM (m : Str → Option Value) (i : Nat) (t : Tok) (S ta pa ra na sa : Addr) (way : Str) (wt : Tok) (z : Int) (zt : Tok) : Prop where
  now : m (Str.ofString "now") = some (.int (i : Int) t)
  stack : m (Str.ofString "stack") = some (.ref S)
  tops : m (Str.ofString "tops") = some (.ref ta)
  places : m (Str.ofString "places") = some (.ref pa)
  rows : m (Str.ofString "rows") = some (.ref ra)
  names : m (Str.ofString "names") = some (.ref na)
  way : m (Str.ofString "way") = some (.str way wt)
  steps : m (Str.ofString "steps") = some (.ref sa)
  size : m (Str.ofString "size") = some (.int z zt)
/-- a step whose text is known -/
theorem item_txt {prog : Program} {w : World} {A : Around} {E : Value → Shared → Prop} {s : Shared} {h₀ : Heap} {L d : Addr} {m : Str → Option Value} {k : Nat} {sl : List (Str × Tok)} {c : Str} {ct t : Tok} {value slice : PySem.Expr} {Q : Value → Shared → Prop} (F : Fr h₀ L s.heap m) (hl : h₀.IsList d (strValues sl).toArray) (hv : sl[k]? = some (c, ct)) (hz : sl.length ≤ 1000) (h : Q (.str c ct) s)
    (hs : subscripted slice false (.ref d) (.int (k : Int) t) = operate [.ref d, .int (k : Int) t] (getItem (.ref d) (.int (k : Int) t)) := by with_unfolding_all rfl) :
    wpAny (model prog w) A (subscriptTail value slice (.ref d) (.int (k : Int) t)) Q E s :=
  item_isl F hl (v := .str c ct) (by unfold strValues; rw [List.getElem?_map, hv]; rfl) (by unfold strValues; rw [List.length_map]; omega) h hs
theorem allLt_mem {d : Addr} {l : List (Addr × Obj)} (h : AllLt d l) : ∀ p ∈ l, p.1 ≠ d := by
  induction l with
  | nil => intro p hp; cases hp
  | cons a r ih =>
    intro p hp
    rcases List.mem_cons.mp hp with e | e
    · rw [e]; exact Nat.ne_of_lt h.1
    · exact ih h.2 p e
theorem gnNe_mem {d : Addr} {l : List (Addr × Obj)} (h : GnNe d l) : ∀ p ∈ l, p.1 ≠ d := by
  induction l with
  | nil => intro p hp; cases hp
  | cons a r ih =>
    intro p hp
    rcases List.mem_cons.mp hp with e | e
    · rw [e]; exact h.1
    · exact ih h.2 p e
/-- what is added to the old stands apart from it -/
noncomputable def Apart (add old : List (Addr × Obj)) : Prop := ∀ p ∈ add, ∀ q ∈ old, p.1 ≠ q.1
local macro_rules | `(tactic| walk_at "eval Name") => `(tactic| (k_here; k_dflt (refine' ld (by k_asm) (by first | exact rfl | assumption) ?_; k_whole)))
local macro_rules | `(tactic| walk_at "subscriptTail") => `(tactic| (k_here; (with_reducible show wpAny _ _ (subscriptTail _ _ (Value.ref _) (Value.int ((_ : Nat) : Int) _)) _ _ _); k_dflt (refine' item_txt (by k_asm) (by assumption) (by assumption) (by assumption) ?_; k_whole)))
local macro_rules | `(tactic| k_mem) => `(tactic| first | exact List.Mem.head _ | assumption | (refine' List.Mem.tail _ ?_; k_mem))

open PySem.SeqAt
theorem pick_init (vs : List Value) : slicePick vs.toArray none (some (-1)) none = vs.dropLast.toArray := by
  have e : sliceBounds none (some (-1)) none vs.toArray.size = (((0 : Nat) : Int), ((vs.length - 1 : Nat) : Int), 1) := by
    simp only [sliceBounds, Option.getD_none, show (-1 : Int) < 0 by decide, if_true, show (1 : Int) > 0 by decide, List.size_toArray]
    congr 1
    congr 1
    omega
  rw [kmk_pick_nat vs.toArray e]
  congr 1
  rw [Nat.sub_zero, List.drop_zero, List.dropLast_eq_take]
theorem pick_tail (vs : List Value) (z : Nat) (hz : 0 < z) : slicePick vs.toArray (some (-(z : Int))) none none = (vs.drop (vs.length - z)).toArray := by
  have e : sliceBounds (some (-(z : Int))) none none vs.toArray.size = (((vs.length - z : Nat) : Int), ((vs.length : Nat) : Int), 1) := by
    have h1 : (-(z : Int)) < 0 := by omega
    simp only [sliceBounds, Option.getD_none, h1, if_true, show (1 : Int) > 0 by decide, List.size_toArray]
    congr 1
    omega
  rw [kmk_pick_nat vs.toArray e]
  congr 1
  rw [List.take_of_length_le (by simp)]
section
variable {prog : Program} {w : World} {A : Around} {E : Value → Shared → Prop} {s : Shared} {env : Env} {value : Expr} {lower upper : Option Expr} {p pos : Pos} {a b : Addr} {vl vu : Value} {lo hi : Option Int} {vs ws : List Value} {Q : Value → Shared → Prop}
/-- a slice of a list, step 1: the new list is new -/
theorem slice_any (hv : ∀ Q' : Value → Shared → Prop, Q' (.ref a) s → wpAny (model prog w) A (eval value env) Q' E s)
    (hlo : ∀ Q' : Value → Shared → Prop, (∀ v tk, IsPart v lo → Q' v { s with toks := tk }) → wpAny (model prog w) A (evalPart lower env) Q' E s)
    (hhi : ∀ (tk₀ : Nat) (Q' : Value → Shared → Prop), (∀ v tk, IsPart v hi → Q' v { s with toks := tk }) → wpAny (model prog w) A (evalPart upper env) Q' E { s with toks := tk₀ })
    (ha : s.heap.IsList a vs.toArray) (hz : vs.length ≤ 2097152) (hp : slicePick vs.toArray lo hi none = ws.toArray) (ht : ∀ o r, letTemporaryGo value o r = pure ())
    (h : ∀ D h' tk, s.heap.get? D = none → h'.get? D = some (W.listOf ws.toArray 0) → Keeps s.heap h' → Q (.ref D) { s with heap := h', toks := tk }) :
    wpAny (model prog w) A (eval (.Subscript value (.Slice lower upper none p) pos) env) Q E s := by
  refine wpAny_Subscript_list_slice (hv _ (hlo _ fun v₁ tk₁ pl => hhi tk₁ _ fun v₂ tk₂ pu => ?_)) ht
  refine ⟨a, vs.toArray, lo, hi, rfl, ha, ?_, pl, pu, ?_⟩
  · simp; rw [sizeLine_eq]; omega
  · rw [hp]
    refine h _ _ _ ?_ (by rw [← Heap.size_push]; exact Heap.get?_push_size _ rfl) fun b o e => Heap.get?_push_of_some _ (Heap.get?_push_of_some _ e)
    cases e : s.heap.get? _ with
    | none => rfl
    | some o => exact absurd (Heap.lt_size e) (by simp)
theorem part_none {env : Env} (tk₀ : Nat) (Q' : Value → Shared → Prop) (h : ∀ v tk, IsPart v none → Q' v { s with toks := tk }) : wpAny (model prog w) A (evalPart none env) Q' E { s with toks := tk₀ } := by
  rw [evalPart_none]
  exact wpAny_pure (h _ _ .none)
theorem part_none0 {env : Env} (Q' : Value → Shared → Prop) (h : ∀ v tk, IsPart v none → Q' v { s with toks := tk }) : wpAny (model prog w) A (evalPart none env) Q' E s := by
  rw [evalPart_none]
  exact wpAny_pure (h _ s.toks .none)
end
theorem part_some {M : Model} {A : Around} {E : Value → Shared → Prop} {s : Shared} {env : Env} {e : Expr} {Q' : Value → Shared → Prop} (h : wpAny M A (eval e env) Q' E s) : wpAny M A (evalPart (some e) env) Q' E s := by
  unfold evalPart
  exact h
theorem drop_strs (l : List (Str × Tok)) (k : Nat) : (strValues l).drop k = strValues (l.drop k) := by unfold strValues; rw [List.map_drop]
theorem init_strs (l : List (Str × Tok)) : (strValues l).dropLast = strValues l.dropLast := by unfold strValues; rw [List.map_dropLast]
theorem len_strs (l : List (Str × Tok)) : (strValues l).length = l.length := by unfold strValues; rw [List.length_map]
/-- a pair of texts as data -/
noncomputable def dPair (q : Str × Str) : PyData := .tuple [.str q.1, .str q.2]
theorem reads_pair {h : Heap} {D : Addr} {x y : Str} {t u : Tok} (e : h.get? D = some (tup2 (.str x t) (.str y u))) : Reads h (.ref D) (dPair (x, y)) [] :=
  .tuple e rfl rfl (ReadsAll.cons (.str x t) (ReadsAll.cons (.str y u) .nil))
theorem lay_pair (q : Str × Str) (h : PyData.strOk q.1 = true ∧ PyData.strOk q.2 = true) : PyData.canLay0 (dPair q) = true := by
  simp [dPair, PyData.canLay0, PyData.canLayAll0, h.1, h.2]
theorem shaped_pair (q : Str × Str) (h : PyData.strOk q.1 = true ∧ PyData.strOk q.2 = true) : shaped (dPair q) = true := by
  show (PyData.canLay0 (dPair q) && decide (PyData.depth (dPair q) ≤ 64)) = true
  rw [Bool.and_eq_true]
  exact ⟨lay_pair q h, decide_eq_true (by simp [dPair, PyData.depth, PyData.depthAll])⟩
theorem mix_pair (q r : Str × Str) : noMix (dPair q) (dPair r) = true := by simp [dPair, noMix, noMixAll]
theorem same_pair (q r : Str × Str) : PySem.Spec.same (dPair q) (dPair r) = decide (q = r) := by
  obtain ⟨a, b⟩ := q
  obtain ⟨c, d⟩ := r
  simp only [dPair, PySem.Spec.same, PySem.Spec.sameAll]
  by_cases h : a = c <;> by_cases h2 : b = d <;> simp [h, h2]
theorem lay_pairs : ∀ l : List (Str × Str), (∀ q ∈ l, PyData.strOk q.1 = true ∧ PyData.strOk q.2 = true) → PyData.canLayAll0 (l.map dPair) = true
  | [], _ => by simp [PyData.canLayAll0]
  | x :: r, h => by
    rw [List.map_cons]
    simp [PyData.canLayAll0, lay_pair x (h x (.head _)), lay_pairs r fun y hy => h y (.tail _ hy)]
theorem depth_pairs : ∀ l : List (Str × Str), PyData.depthAll (l.map dPair) ≤ 3
  | [] => by simp [PyData.depthAll]
  | x :: r => by
    have := depth_pairs r
    have e : PyData.depth (dPair x) ≤ 2 := by simp [dPair, PyData.depth, PyData.depthAll]
    simp only [List.map_cons, PyData.depthAll]
    omega
theorem shaped_pairs (l : List (Str × Str)) (h : ∀ q ∈ l, PyData.strOk q.1 = true ∧ PyData.strOk q.2 = true) : shaped (.list (l.map dPair)) = true := by
  have h1 := depth_pairs l
  have h2 : PyData.depth (.list (l.map dPair)) ≤ 64 := by simp only [PyData.depth]; omega
  show (PyData.canLay0 (.list (l.map dPair)) && decide (PyData.depth (.list (l.map dPair)) ≤ 64)) = true
  rw [Bool.and_eq_true]
  exact ⟨by simp only [PyData.canLay0]; exact lay_pairs l h, decide_eq_true h2⟩
theorem mix_pairs : ∀ a b : List (Str × Str), noMixAll (a.map dPair) (b.map dPair) = true
  | [], [] => by simp [noMixAll]
  | [], _ :: _ => by simp [noMixAll]
  | _ :: _, [] => by simp [noMixAll]
  | x :: r, y :: q => by
    rw [List.map_cons, List.map_cons, noMixAll, mix_pair, mix_pairs r q]; rfl
theorem same_pairs : ∀ a b : List (Str × Str), PySem.Spec.sameAll (a.map dPair) (b.map dPair) = decide (a = b)
  | [], [] => by simp [PySem.Spec.sameAll]
  | [], _ :: _ => by simp [PySem.Spec.sameAll]
  | _ :: _, [] => by simp [PySem.Spec.sameAll]
  | x :: r, y :: q => by
    simp only [List.map_cons, PySem.Spec.sameAll, same_pair, same_pairs r q]
    by_cases h : x = y <;> simp [h]
theorem reads_all {h : Heap} : ∀ l : List Pr, (∀ x ∈ l, PrAt h x) → ReadsAll h (accV l) (l.map fun x => dPair (x.2.1.1, x.2.2.1)) []
  | [], _ => .nil
  | x :: r, hp => by
    have := ReadsAll.cons (reads_pair (hp x (.head _))) (reads_all r fun y hy => hp y (.tail _ hy))
    rw [List.append_nil] at this
    exact this
section
variable {prog : Program} {w : World} {A : Around} {E : Value → Shared → Prop} {s : Shared} {a b : Addr} {Q : Value → Shared → Prop}
theorem ne_pair {x y x' y' : Str} {t u t' u' : Tok} (ha : s.heap.get? a = some (tup2 (.str x t) (.str y u))) (hb : s.heap.get? b = some (tup2 (.str x' t') (.str y' u'))) (oa : PyData.strOk x = true ∧ PyData.strOk y = true) (ob : PyData.strOk x' = true ∧ PyData.strOk y' = true) (hu : A.units + 64 < cLine)
    (h : Q (.bool (!decide ((x, y) = (x', y')))) s) : wpAny (model prog w) A (compareOp .NotEq (.ref a) (.ref b)) Q E s :=
  ne_dataH_same (reads_pair ha) (reads_pair hb) (shaped_pair _ oa) (shaped_pair _ ob) hu (mix_pair _ _) (by rw [same_pair]; exact h)
theorem ne_pairs {l k : List Pr} (ha : s.heap.IsList a (accV l).toArray) (hb : s.heap.IsList b (accV k).toArray) (pa : ∀ x ∈ l, PrAt s.heap x) (pb : ∀ x ∈ k, PrAt s.heap x) (oa : ∀ q ∈ l.map (fun x => (x.2.1.1, x.2.2.1)), PyData.strOk q.1 = true ∧ PyData.strOk q.2 = true) (ob : ∀ q ∈ k.map (fun x => (x.2.1.1, x.2.2.1)), PyData.strOk q.1 = true ∧ PyData.strOk q.2 = true) (hu : A.units + 64 < cLine)
    (h : Q (.bool (!decide (l.map (fun x => (x.2.1.1, x.2.2.1)) = k.map (fun x => (x.2.1.1, x.2.2.1))))) s) : wpAny (model prog w) A (compareOp .NotEq (.ref a) (.ref b)) Q E s := by
  obtain ⟨o, ho, hc, n, hd⟩ := ha
  obtain ⟨o', ho', hc', n', hd'⟩ := hb
  have e1 : ∀ z : List Pr, (z.map fun x => dPair (x.2.1.1, x.2.2.1)) = (z.map fun x => (x.2.1.1, x.2.2.1)).map dPair := fun z => by rw [List.map_map]; rfl
  have r1 := reads_all l pa
  have r2 := reads_all k pb
  rw [e1] at r1 r2
  exact ne_dataH_same (.list ho hc hd r1) (.list ho' hc' hd' r2) (shaped_pairs _ oa) (shaped_pairs _ ob) hu (by simp only [noMix]; exact mix_pairs _ _) (by simp only [PySem.Spec.same]; rw [same_pairs]; exact h)
end
section
variable {w : World} {A : Around} {s : Shared} {h₀ : Heap} {L f S : Addr} {o : Obj} {m mg mb : Str → Option Value} {news : List (Addr × Obj)} {vs : List Value} {d u : Nat} {pre : Heap → Prop} {R : Heap → Value → Heap → List (Addr × Obj) → Prop} {Q E : Value → Shared → Prop}
/-- a call that changes one object of the tracked -/
theorem use_mut1 {hp0 : Heap} {gs : Array GenState} {dr : Drawn} {tk0 : Nat} {os : OsState} (C : MutC w f vs d u [(S, o)] pre R) (F : Fr h₀ L hp0 m) (N : News h₀ L hp0 news) (X : (hd.heap_1 w.params).In h₀) (T : TopRead VW LW mg mb h₀) (hm : (S, o) ∈ news)
    (hA : okA A d u = true) (hp : pre hp0)
    (h : ∀ r h' tk hid', R hp0 r h' hid' → (∀ p ∈ hid', h'.get? p.1 = some p.2) → (∀ b o, b ≠ S → hp0.get? b = some o → h'.get? b = some o) → Fr h₀ L h' m →
      (∀ others, (∀ p ∈ others, p ∈ news) → (∀ p ∈ others, p.1 ≠ S) → News h₀ L h' others) →
      (∀ D o', hp0.get? D = none → h'.get? D = some o' → News h₀ L h' [(D, o')] ∧ ∀ p ∈ news, p.1 ≠ D) →
      (∀ o', h'.get? S = some o' → News h₀ L h' [(S, o')]) → Q r ⟨h', gs, dr, tk, os⟩) : wpAny (model PG w) A (call (.ref f) vs) Q E ⟨hp0, gs, dr, tk0, os⟩ := by
  have N1 : News h₀ L hp0 ([(S, o)] ++ []) := fun p hp => by
    rw [List.append_nil] at hp
    rw [List.mem_singleton.mp hp]; exact N _ hm
  refine use_mut C F N1 X T hA hp fun r h' tk hid' hr hat k F' => ?_
  have k' : ∀ b o, b ≠ S → hp0.get? b = some o → h'.get? b = some o := fun b o hb => k b o (by rw [List.map_cons, List.map_nil, List.mem_singleton]; exact hb)
  refine h r h' tk hid' hr hat k' F' (fun others h1 h2 p hp => ?_) (fun D o' hD hD' => ⟨fun p hp => ?_, fun p hp e => ?_⟩) fun o' ho' p hp => ?_
  · have z := N p (h1 p hp)
    exact ⟨k' _ _ (h2 p hp) z.1, z.2⟩
  · rw [List.mem_singleton.mp hp]
    refine ⟨hD', fun e => ?_, ?_⟩
    · obtain ⟨oL, _, _, hL, _⟩ := F.ns
      have e' : D = L := e
      rw [e', hL] at hD; cases hD
    · cases q : h₀.get? D with
      | none => rfl
      | some o' => have := F.keep _ _ q; rw [hD] at this; cases this
  · have := (N p hp).1
    rw [e, hD] at this; cases this
  · rw [List.mem_singleton.mp hp]
    exact ⟨ho', (N _ hm).2⟩
end
theorem news_app {h₀ h : Heap} {L : Addr} {a b : List (Addr × Obj)} (x : News h₀ L h a) (y : News h₀ L h b) : News h₀ L h (a ++ b) := fun p hp => (List.mem_append.mp hp).elim (x p) (y p)

section
local macro_rules | `(tactic| walk_at "call ref") => `(tactic| (k_here; k_dflt (
   (refine' use_pureT (join_c _ _ _ _ _ (by assumption) (by assumption)) (by k_asm) (by k_asm) (by k_asm) (by k_asm) (by rfl) (by exact True.intro) ?_; intro t' h' tk' F' N'; k_whole))))
set_option maxHeartbeats 4000000 in
theorem turn_way {fo : Obj} {w : World} (ho : (hd.heap_1 w.params).lookup 268 = some fo)
    {outer : List Env} {s : Shared} {g : Heap} {L : Addr} {mg mb m : Str → Option Value} {Q : Flow → Shared → Prop} {S ta pa ra na sa : Addr} {t wt zt xt : Tok} {i : Nat} {way x : Str} {z : Int} {sl : List (Str × Tok)} {rest : List (Addr × Obj)}
    (X : (hd.heap_1 w.params).In g) (T : TopRead VW LW mg mb g) (hsl : g.IsList sa (strValues sl).toArray) (hx : sl[i]? = some (x, xt)) (hsz : sl.length ≤ 1000)
    (F : Fr g L s.heap m) (WW : WM m i t S ta pa ra na sa way wt z zt) (N : News g L s.heap rest) (hw : way.length ≤ 1048576) (hxl : x.length ≤ 1048576)
    (next : ∀ h' tk m', (∃ wt', WM m' i t S ta pa ra na sa (joinF way x) wt' z zt) → Fr g L h' m' → News g L h' rest → Q .next { s with heap := h', toks := tk }) :
    wpAny (model PG w) ((Ar 800 2800 outer).deeper (envO fo L)) (execs ((turnOf (bodyO fo)).take 1) (envO fo L)) Q (fun _ _ => False) s := by
  revert ho X T
  unfold VW LW PG
  k_fill
  intro ho X T
  have hq := ho.symm.trans (by k_is : (hd.heap_1 w.params).lookup 268 = some ⟨_, _, .func (fnX _ _ _ _ _ _ _ _ _ _ _ _ _), _⟩)
  cases hq
  clear ho
  dsimp only [envO]
  conv in List.take _ _ => whnf
  conv in List.take _ _ => whnf
  obtain ⟨w1, w2, w3, w4, w5, w6, w7, w8, w9⟩ := WW
  k_steps
  refine next _ _ _ ?_ (by assumption) (by assumption)
  exact ⟨_, w1, w2, w3, w4, w5, w6, rfl, w8, w9⟩
end

section
local macro_rules | `(tactic| k_inst) => `(tactic| (refine' acc_inst2 (by k_asm) (by k_mem) (by k_mem)))
local macro_rules | `(tactic| walk_at "call ref") => `(tactic| (k_here; refine Hold.out ?_))
local macro_rules | `(tactic| walk_at "getMethod ref") => `(tactic| (k_here; k_dflt (refine' method_df (by k_asm) (by k_asm) (by k_inst) (by k_is) (by k_is) (by k_is) (by k_get) (by k_is) (by decide +kernel) ?_; k_whole)))
local macro_rules | `(tactic| walk_at "eval Subscript") => `(tactic| (k_here; (with_reducible show wpAny _ _ (eval (PySem.Expr.Subscript _ (PySem.Expr.Slice _ _ _ _) _) _) _ _ _); refine Hold.out ?_))
local macro_rules | `(tactic| walk_at "compareOp NotEq ref ref") => `(tactic| (k_here; refine Hold.out ?_))
local macro_rules | `(tactic| walk_at "compareOp Eq ref ref") => `(tactic| (k_here; refine Hold.out ?_))
set_option maxHeartbeats 4000000 in
theorem turn_up0 {fo : Obj} {w : World} (ho : (hd.heap_1 w.params).lookup 268 = some fo)
    {outer : List Env} {s : Shared} {g : Heap} {L : Addr} {mg mb m : Str → Option Value} {Q : Flow → Shared → Prop} {S ta pa ra na sa : Addr} {t wt zt xt : Tok} {i : Nat} {way : Str} {z : Int} {sl : List (Str × Tok)} {rest : List (Addr × Obj)} {n nn : Nat} {ld : Addr} {hs : Int} {kt zt' : Tok} {zz : Int}
    (X : (hd.heap_1 w.params).In g) (T : TopRead VW LW mg mb g) (hsl : g.IsList sa (strValues sl).toArray) (hx : sl[i]? = some (Str.ofString "..", xt)) (hsz : sl.length ≤ 1000)
    (F : Fr g L s.heap m) (WW : WM m i t S ta pa ra na sa way wt z zt) (N : News g L s.heap ((S, accO ld [] n) :: rest)) (hoff : ∀ p ∈ rest, p.1 ≠ S) (hna : (na, W.listOf (strValues []).toArray nn) ∈ rest) (hld : (ld, accD hs kt zt' zz) ∈ rest)
    (next : ∀ h' tk m' D (n' : Nat), WM m' i t S ta pa ra D sa way wt z zt → Fr g L h' m' → News g L h' ((S, accO ld [] n) :: (D, W.listOf (strValues []).toArray n') :: rest) → Apart [(D, W.listOf (strValues []).toArray n')] ((S, accO ld [] n) :: rest) → Q .next { s with heap := h', toks := tk }) :
    wpAny (model PG w) ((Ar 800 2800 outer).deeper (envO fo L)) (execs (((turnOf (bodyO fo)).drop 1).take 1) (envO fo L)) Q (fun _ _ => False) s := by
  revert ho X T
  unfold VW LW PG
  k_fill
  intro ho X T
  have hq := ho.symm.trans (by k_is : (hd.heap_1 w.params).lookup 268 = some ⟨_, _, .func (fnX _ _ _ _ _ _ _ _ _ _ _ _ _), _⟩)
  cases hq
  clear ho
  dsimp only [envO]
  conv in List.take _ _ => whnf
  conv in List.take _ _ => whnf
  obtain ⟨w1, w2, w3, w4, w5, w6, w7, w8, w9⟩ := WW
  k_steps
  with_reducible show Hold _
  rename Fr _ _ _ _ => F1
  rename News _ _ _ _ => N1
  rename _ ∧ AllLt _ _ => l1
  refine eq_empty (vs := strValues []) ⟨_, (N1 _ (.tail _ (.tail _ hna))).1, rfl, _, rfl⟩ ⟨_, (N1 _ (.head _)).1, rfl, _, rfl⟩ (Nat.le_of_ble_eq_true rfl) ?_
  rw [show decide (strValues [] = []) = true from rfl]
  k_steps
  with_reducible show Hold _
  rename Fr _ _ _ _ => F2
  rename News _ _ _ _ => N2
  rename _ ∧ _ ∧ AllLt _ _ => l2
  have o2 : ∀ p ∈ newsOf N2, p ≠ (S, accO ld [] n) → p.1 ≠ S := fun p hp hne => by
    rcases List.mem_cons.mp hp with e | hp
    · rw [e]; exact Nat.ne_of_gt l2.2.1
    · rcases List.mem_cons.mp hp with e | hp
      · rw [e]; exact Nat.ne_of_gt l1.1
      · rcases List.mem_cons.mp hp with e | hp
        · exact absurd e hne
        · exact hoff p hp
  refine use_mut1 (pop0_c w S ld n hs kt zt' zz) F2 N2 ‹_› ‹_› (.tail _ (.tail _ (.head _))) rfl ⟨(N2 _ (.tail _ (.tail _ (.tail _ hld)))).1, hoff _ hld⟩ ?_
  rintro r h3 tk3 hid3 ⟨D3, t3, u3, rfl, hD3, hn3, rfl⟩ hat3 k3 F3 keep3 new3 S3
  obtain ⟨N3, a3⟩ := new3 _ _ hn3 hD3
  have N4 := news_app N3 (news_app (S3 _ (hat3 _ (.head _))) (keep3 ([_] ++ rest) (fun p hp => (List.mem_append.mp hp).elim (fun q => (List.mem_singleton.mp q) ▸ .head _) fun q => .tail _ (.tail _ (.tail _ q))) (fun p hp => (List.mem_append.mp hp).elim (fun q => by rw [List.mem_singleton.mp q]; exact Nat.ne_of_gt l2.2.1) fun q => hoff p q)))
  have hq2 := (N4 _ (List.mem_append_right _ (List.mem_append_right _ (List.mem_append_left _ (.head _))))).1
  simp only [List.cons_append, List.nil_append] at N4
  clear keep3 new3 S3 N3 F2 N2 o2 k3 hat3 a3
  k_steps
  with_reducible show Hold _
  refine ne_pair hD3 hq2 (by decide +kernel) (by decide +kernel) (Nat.le_of_ble_eq_true rfl) ?_
  rw [show (!decide ((Str.ofString "", Str.ofString "") = (Str.ofString "", Str.ofString ""))) = false from by decide]
  k_steps
  with_reducible show Hold _
  refine slice_any (a := na) (vs := strValues []) (ws := strValues []) (lo := none) (hi := some (-1)) ?hv (fun Q' hq => part_none0 Q' hq) ?hhi ⟨_, (N4 _ (.tail _ (.tail _ (.tail _ hna)))).1, rfl, _, rfl⟩ (Nat.zero_le _) (pick_init _) (fun _ _ => rfl) ?_
  case hv =>
    intro Q' hq
    exact gname_local rfl rfl F3.ns w6 hq (by decide)
  case hhi =>
    intro tk₀ Q' hq
    refine part_some ?_
    k_steps
    exact hq _ _ (.int _ _)
  intro D5 h5 tk5 hD5 hDo k5
  obtain ⟨N5, a5⟩ := news_fresh F3 N4 k5 hD5 hDo
  have F5 := fr_keeps F3 k5
  clear F3 N4
  k_steps
  rename News _ _ _ _ => N6
  have b5 := gnNe_mem a5
  refine next _ _ _ D5 0 ?_ (by assumption) ?_ ?_
  · exact ⟨w1, w2, w3, w4, w5, rfl, w7, w8, w9⟩
  · intro p hp
    rcases List.mem_cons.mp hp with e | hp
    · rw [e]; exact N6 _ (.tail _ (.tail _ (.head _)))
    · rcases List.mem_cons.mp hp with e | hp
      · rw [e]; exact N6 _ (.head _)
      · exact N6 _ (.tail _ (.tail _ (.tail _ (.tail _ hp))))
  · intro p hp q hq
    rw [List.mem_singleton.mp hp]
    rcases List.mem_cons.mp hq with e | hq
    · rw [e]; exact Ne.symm (b5 _ (.tail _ (.head _)))
    · exact Ne.symm (b5 _ (.tail _ (.tail _ (.tail _ hq))))
end

section
local macro_rules | `(tactic| k_inst) => `(tactic| (refine' acc_inst2 (by k_asm) (by k_mem) (by k_mem)))
local macro_rules | `(tactic| walk_at "call ref") => `(tactic| (k_here; refine Hold.out ?_))
local macro_rules | `(tactic| walk_at "getMethod ref") => `(tactic| (k_here; k_dflt (refine' method_df (by k_asm) (by k_asm) (by k_inst) (by k_is) (by k_is) (by k_is) (by k_get) (by k_is) (by decide +kernel) ?_; k_whole)))
local macro_rules | `(tactic| walk_at "eval Subscript") => `(tactic| (k_here; (with_reducible show wpAny _ _ (eval (PySem.Expr.Subscript _ (PySem.Expr.Slice _ _ _ _) _) _) _ _ _); refine Hold.out ?_))
local macro_rules | `(tactic| walk_at "compareOp NotEq ref ref") => `(tactic| (k_here; refine Hold.out ?_))
local macro_rules | `(tactic| walk_at "compareOp Eq ref ref") => `(tactic| (k_here; refine Hold.out ?_))
set_option maxHeartbeats 4000000 in
theorem turn_up1 {fo : Obj} {w : World} (ho : (hd.heap_1 w.params).lookup 268 = some fo)
    {outer : List Env} {s : Shared} {g : Heap} {L : Addr} {mg mb m : Str → Option Value} {Q : Flow → Shared → Prop} {S ta pa ra na sa : Addr} {t wt zt xt : Tok} {i : Nat} {way : Str} {z : Int} {sl : List (Str × Tok)} {rest : List (Addr × Obj)} {n nn : Nat} {ld pr : Addr} {ms : List (Str × Tok)} {x : Str} {q1 q2 q3 : Tok} {vs : List Value} {hs : Int} {kt zt' : Tok} {zz : Int}
    (X : (hd.heap_1 w.params).In g) (T : TopRead VW LW mg mb g) (hsl : g.IsList sa (strValues sl).toArray) (hx : sl[i]? = some (Str.ofString "..", xt)) (hsz : sl.length ≤ 1000)
    (F : Fr g L s.heap m) (WW : WM m i t S ta pa ra na sa way wt z zt) (N : News g L s.heap ((S, accO ld (vs ++ [Value.ref pr]) n) :: rest)) (hoff : ∀ p ∈ rest, p.1 ≠ S) (hna : (na, W.listOf (strValues ms ++ [Value.str x q1]).toArray nn) ∈ rest) (hpr : (pr, tup2 (.str (Str.ofString "/") q2) (.str x q3)) ∈ rest) (hvz : vs.length ≤ 1000) (hmz : ms.length ≤ 1000) (hox : PyData.strOk x = true) (hld : (ld, accD hs kt zt' zz) ∈ rest)
    (next : ∀ h' tk m' D (n' n2 : Nat), WM m' i t S ta pa ra D sa way wt z zt → Fr g L h' m' → News g L h' ((S, accO ld vs n2) :: (D, W.listOf (strValues ms).toArray n') :: rest) → Apart [(D, W.listOf (strValues ms).toArray n')] ((S, accO ld vs n2) :: rest) → Q .next { s with heap := h', toks := tk }) :
    wpAny (model PG w) ((Ar 800 2800 outer).deeper (envO fo L)) (execs (((turnOf (bodyO fo)).drop 1).take 1) (envO fo L)) Q (fun _ _ => False) s := by
  revert ho X T
  unfold VW LW PG
  k_fill
  intro ho X T
  have hq := ho.symm.trans (by k_is : (hd.heap_1 w.params).lookup 268 = some ⟨_, _, .func (fnX _ _ _ _ _ _ _ _ _ _ _ _ _), _⟩)
  cases hq
  clear ho
  dsimp only [envO]
  conv in List.take _ _ => whnf
  conv in List.take _ _ => whnf
  obtain ⟨w1, w2, w3, w4, w5, w6, w7, w8, w9⟩ := WW
  k_steps
  with_reducible show Hold _
  rename Fr _ _ _ _ => F1
  rename News _ _ _ _ => N1
  rename _ ∧ AllLt _ _ => l1
  refine eq_empty (vs := strValues ms ++ [.str x q1]) ⟨_, (N1 _ (.tail _ (.tail _ hna))).1, rfl, _, rfl⟩ ⟨_, (N1 _ (.head _)).1, rfl, _, rfl⟩ (Nat.le_of_ble_eq_true rfl) ?_
  rw [show decide (strValues ms ++ [Value.str x q1] = []) = false from by simp]
  k_steps
  with_reducible show Hold _
  rename Fr _ _ _ _ => F2
  rename News _ _ _ _ => N2
  rename _ ∧ _ ∧ AllLt _ _ => l2
  refine use_mut1 (pop_c w S ld n vs (.ref pr) hs kt zt' zz hvz) F2 N2 ‹_› ‹_› (.tail _ (.tail _ (.head _))) rfl ⟨(N2 _ (.tail _ (.tail _ (.tail _ hld)))).1, hoff _ hld⟩ ?_
  rintro r h3 tk3 hid3 ⟨rfl, n3, rfl⟩ hat3 k3 F3 keep3 new3 S3
  have N4 := news_app (S3 _ (hat3 _ (.head _))) (keep3 ([_] ++ rest) (fun p hp => (List.mem_append.mp hp).elim (fun q => (List.mem_singleton.mp q) ▸ .head _) fun q => .tail _ (.tail _ (.tail _ q))) (fun p hp => (List.mem_append.mp hp).elim (fun q => by rw [List.mem_singleton.mp q]; exact Nat.ne_of_gt l2.2.1) fun q => hoff p q))
  have hq2 := (N4 _ (List.mem_append_right _ (List.mem_append_left _ (.head _)))).1
  simp only [List.cons_append, List.nil_append] at N4
  clear keep3 new3 S3 F2 N2 k3 hat3
  k_steps
  with_reducible show Hold _
  refine ne_pair (N4 _ (.tail _ (.tail _ hpr))).1 hq2 ⟨by decide +kernel, hox⟩ ⟨by decide +kernel, hox⟩ (Nat.le_of_ble_eq_true rfl) ?_
  rw [show (!decide ((Str.ofString "/", x) = (Str.ofString "/", x))) = false from by simp]
  k_steps
  with_reducible show Hold _
  refine slice_any (a := na) (vs := strValues ms ++ [.str x q1]) (ws := strValues ms) (lo := none) (hi := some (-1)) ?hv (fun Q' hq => part_none0 Q' hq) ?hhi ⟨_, (N4 _ (.tail _ (.tail _ hna))).1, rfl, _, rfl⟩ (by rw [List.length_append, len_strs, List.length_singleton]; omega) ((pick_init _).trans (by rw [List.dropLast_concat])) (fun _ _ => rfl) ?_
  case hv =>
    intro Q' hq
    exact gname_local rfl rfl F3.ns w6 hq (by decide)
  case hhi =>
    intro tk₀ Q' hq
    refine part_some ?_
    k_steps
    exact hq _ _ (.int _ _)
  intro D5 h5 tk5 hD5 hDo k5
  obtain ⟨N5, a5⟩ := news_fresh F3 N4 k5 hD5 hDo
  have F5 := fr_keeps F3 k5
  clear F3 N4
  k_steps
  rename News _ _ _ _ => N6
  have b5 := gnNe_mem a5
  refine next _ _ _ D5 0 n3 ?_ (by assumption) ?_ ?_
  · exact ⟨w1, w2, w3, w4, w5, rfl, w7, w8, w9⟩
  · intro p hp
    rcases List.mem_cons.mp hp with e | hp
    · rw [e]; exact N6 _ (.tail _ (.head _))
    · rcases List.mem_cons.mp hp with e | hp
      · rw [e]; exact N6 _ (.head _)
      · exact N6 _ (.tail _ (.tail _ (.tail _ hp)))
  · intro p hp q hq
    rw [List.mem_singleton.mp hp]
    rcases List.mem_cons.mp hq with e | hq
    · rw [e]; exact Ne.symm (b5 _ (.head _))
    · exact Ne.symm (b5 _ (.tail _ (.tail _ hq)))
end

theorem news_adc {g h : Heap} {L : Addr} {a b c d : Addr × Obj} {rest : List (Addr × Obj)} (N : News g L h (a :: b :: c :: d :: rest)) : News g L h (d :: [a, c] ++ rest) := fun p hp => by
  simp only [List.cons_append, List.nil_append, List.mem_cons] at hp
  rcases hp with e | e | e | e
  · rw [e]; exact N _ (.tail _ (.tail _ (.tail _ (.head _))))
  · rw [e]; exact N _ (.head _)
  · rw [e]; exact N _ (.tail _ (.tail _ (.head _)))
  · exact N _ (.tail _ (.tail _ (.tail _ (.tail _ e))))
section
variable {prog : Program} {w : World} {A : Around} {E : Value → Shared → Prop} {s : Shared} {h₀ : Heap} {L l b : Addr} {m : Str → Option Value} {news : List (Addr × Obj)} {vs ws : List Value} {Q : Value → Shared → Prop}
theorem add_listsG (F : Fr h₀ L s.heap m) (N : News h₀ L s.heap news) (hl : s.heap.IsList l vs.toArray) (hb : s.heap.IsList b ws.toArray) (hsz : vs.length + ws.length ≤ 2097152)
    (h : ∀ D h', Fr h₀ L h' m → News h₀ L h' ((D, W.listOf (vs ++ ws).toArray 0) :: news) → (∀ p ∈ news, p.1 ≠ D) → Q (.ref D) { s with heap := h' }) : wpAny (model prog w) A (binaryOp .Add (.ref l) (.ref b)) Q E s :=
  add_lists F N hl hb (fun h' F' N' => h _ h' F' N' fun p hp => Nat.ne_of_lt (Heap.lt_size (N p hp).1)) (by rw [sizeLine_eq]; omega)
end
section
local macro_rules | `(tactic| k_inst) => `(tactic| (refine' acc_inst2 (by k_asm) (by k_mem) (by k_mem)))
local macro_rules | `(tactic| walk_at "call ref") => `(tactic| (k_here; refine Hold.out ?_))
local macro_rules | `(tactic| walk_at "getMethod ref") => `(tactic| (k_here; k_dflt (refine' method_df (by k_asm) (by k_asm) (by k_inst) (by k_is) (by k_is) (by k_is) (by k_get) (by k_is) (by decide +kernel) ?_; k_whole)))
local macro_rules | `(tactic| walk_at "eval Subscript") => `(tactic| (k_here; (with_reducible show wpAny _ _ (eval (PySem.Expr.Subscript _ (PySem.Expr.Slice _ _ _ _) _) _) _ _ _); refine Hold.out ?_))
local macro_rules | `(tactic| walk_at "compareOp NotEq ref ref") => `(tactic| (k_here; refine Hold.out ?_))
local macro_rules | `(tactic| walk_at "compareOp Eq ref ref") => `(tactic| (k_here; refine Hold.out ?_))
set_option maxHeartbeats 4000000 in
theorem turn_down {fo : Obj} {w : World} (ho : (hd.heap_1 w.params).lookup 268 = some fo)
    {outer : List Env} {s : Shared} {g : Heap} {L : Addr} {mg mb m : Str → Option Value} {Q : Flow → Shared → Prop} {S ta pa ra na sa : Addr} {t wt zt xt : Tok} {i : Nat} {way : Str} {z : Int} {sl : List (Str × Tok)} {rest : List (Addr × Obj)} {n nn : Nat} {ld : Addr} {ns : List (Str × Tok)} {x : Str} {vs : List Value} {hs : Int} {kt zt' : Tok} {zz : Int}
    (X : (hd.heap_1 w.params).In g) (T : TopRead VW LW mg mb g) (hsl : g.IsList sa (strValues sl).toArray) (hx : sl[i]? = some (x, xt)) (hx3 : x = Str.ofString "a" ∨ x = Str.ofString "b" ∨ x = Str.ofString "ab") (hsz : sl.length ≤ 1000)
    (F : Fr g L s.heap m) (WW : WM m i t S ta pa ra na sa way wt z zt) (N : News g L s.heap ((S, accO ld vs n) :: rest)) (hoff : ∀ p ∈ rest, p.1 ≠ S) (hna : (na, W.listOf (strValues ns).toArray nn) ∈ rest) (hvz : vs.length ≤ 1000) (hmz : ns.length ≤ 1000) (hld : (ld, accD hs kt zt' zz) ∈ rest)
    (next : ∀ h' tk m' D D2 (n' n2 : Nat) t2, WM m' i t S ta pa ra D sa way wt z zt → Fr g L h' m' → News g L h' ((S, accO ld (vs ++ [.ref D2]) n2) :: [(D, W.listOf (strValues (ns ++ [(x, xt)])).toArray n'), (D2, tup2 (.str (Str.ofString "/") t2) (.str x xt))] ++ rest) → Apart [(D, W.listOf (strValues (ns ++ [(x, xt)])).toArray n'), (D2, tup2 (.str (Str.ofString "/") t2) (.str x xt))] ((S, accO ld (vs ++ [.ref D2]) n2) :: rest) → Q .next { s with heap := h', toks := tk }) :
    wpAny (model PG w) ((Ar 800 2800 outer).deeper (envO fo L)) (execs (((turnOf (bodyO fo)).drop 1).take 1) (envO fo L)) Q (fun _ _ => False) s := by
  revert ho X T
  unfold VW LW PG
  k_fill
  intro ho X T
  have hq := ho.symm.trans (by k_is : (hd.heap_1 w.params).lookup 268 = some ⟨_, _, .func (fnX _ _ _ _ _ _ _ _ _ _ _ _ _), _⟩)
  cases hq
  clear ho
  dsimp only [envO]
  conv in List.take _ _ => whnf
  conv in List.take _ _ => whnf
  obtain ⟨w1, w2, w3, w4, w5, w6, w7, w8, w9⟩ := WW
  rcases hx3 with rfl | rfl | rfl
  all_goals k_steps
  all_goals with_reducible show Hold _
  all_goals rename Fr _ _ _ _ => F1
  all_goals rename News _ _ _ _ => N1
  all_goals rename _ ∧ AllLt _ _ => l1
  all_goals (refine use_mut1 (push_c w S ld n vs (Str.ofString "/") _ _ xt hs kt zt' zz hvz) F1 N1 ‹_› ‹_› (.tail _ (.head _)) rfl ⟨(N1 _ (.tail _ (.tail _ hld))).1, hoff _ hld⟩ ?_)
  all_goals rintro r h3 tk3 hid3 ⟨rfl, D2, n3, rfl, hD2, hn2⟩ hat3 k3 F3 keep3 new3 S3
  all_goals obtain ⟨ND, aD⟩ := new3 _ _ hn2 hD2
  all_goals have N4 := news_app ND (news_app (S3 _ (hat3 _ (.head _))) (keep3 rest (fun p hp => .tail _ (.tail _ hp)) hoff))
  all_goals simp only [List.cons_append, List.nil_append] at N4
  all_goals clear keep3 new3 S3 F1 N1 k3 hat3
  all_goals k_steps
  all_goals rename Fr _ _ _ _ => F5
  all_goals rename News _ _ _ _ => N5
  all_goals refine add_listsG (vs := strValues ns) (ws := [.str _ xt]) F5 N5 ⟨_, (N5 _ (.tail _ (.tail _ (.tail _ hna)))).1, rfl, _, rfl⟩ ⟨_, (N5 _ (.head _)).1, rfl, _, rfl⟩ (by rw [len_strs, List.length_singleton]; omega) ?_
  all_goals intro D6 h6 F6 N6 hlt
  all_goals clear F5 N5
  all_goals k_steps
  all_goals rename News _ _ _ _ => N7
  all_goals rename Fr _ _ _ _ => F7
  all_goals have ex : ∀ c, strValues ns ++ [Value.str c xt] = strValues (ns ++ [(c, xt)]) := fun c => by simp [strValues]
  all_goals rw [ex] at N7
  all_goals refine next _ _ _ D6 D2 0 n3 _ ?_ F7 (news_adc N7) ?_
  all_goals first | exact ⟨w1, w2, w3, w4, w5, rfl, w7, w8, w9⟩ | skip
  all_goals (intro p hp q hq; rcases List.mem_cons.mp hp with e | hp)
  all_goals first
    | (rw [e]; rcases List.mem_cons.mp hq with e2 | hq2; (rw [e2]; exact Ne.symm (hlt _ (.tail _ (.tail _ (.head _))))); exact Ne.symm (hlt _ (.tail _ (.tail _ (.tail _ hq2)))))
    | (rw [List.mem_singleton.mp hp]; rcases List.mem_cons.mp hq with e2 | hq2; (rw [e2]; exact Ne.symm (aD (S, accO ld vs n) (.tail _ (.head _)))); exact Ne.symm (aD _ (.tail _ (.tail _ hq2))))
end

section
local macro_rules | `(tactic| k_inst) => `(tactic| (refine' acc_inst2 (by k_asm) (by k_mem) (by k_mem)))
local macro_rules | `(tactic| walk_at "call ref") => `(tactic| (k_here; refine Hold.out ?_))
local macro_rules | `(tactic| walk_at "getMethod ref") => `(tactic| (k_here; k_dflt (refine' method_df (by k_asm) (by k_asm) (by k_inst) (by k_is) (by k_is) (by k_is) (by k_get) (by k_is) (by decide +kernel) ?_; k_whole)))
local macro_rules | `(tactic| walk_at "eval Subscript") => `(tactic| (k_here; (with_reducible show wpAny _ _ (eval (PySem.Expr.Subscript _ (PySem.Expr.Slice _ _ _ _) _) _) _ _ _); refine Hold.out ?_))
local macro_rules | `(tactic| walk_at "compareOp NotEq ref ref") => `(tactic| (k_here; refine Hold.out ?_))
local macro_rules | `(tactic| walk_at "compareOp Eq ref ref") => `(tactic| (k_here; refine Hold.out ?_))
set_option maxHeartbeats 4000000 in
theorem turn_stay {fo : Obj} {w : World} (ho : (hd.heap_1 w.params).lookup 268 = some fo)
    {outer : List Env} {s : Shared} {g : Heap} {L : Addr} {mg mb m : Str → Option Value} {Q : Flow → Shared → Prop} {S ta pa ra na sa : Addr} {t wt zt xt : Tok} {i : Nat} {way : Str} {z : Int} {sl : List (Str × Tok)} {rest : List (Addr × Obj)} {x : Str} {n : Nat} {ld : Addr} {vs : List Value}
    (X : (hd.heap_1 w.params).In g) (T : TopRead VW LW mg mb g) (hsl : g.IsList sa (strValues sl).toArray) (hx : sl[i]? = some (x, xt)) (hx3 : x = Str.ofString ".//" ∨ x = Str.ofString "") (hsz : sl.length ≤ 1000)
    (F : Fr g L s.heap m) (WW : WM m i t S ta pa ra na sa way wt z zt) (N : News g L s.heap ((S, accO ld vs n) :: rest)) (hoff : ∀ p ∈ rest, p.1 ≠ S)
    (next : ∀ h' tk m', WM m' i t S ta pa ra na sa way wt z zt → Fr g L h' m' → News g L h' ((S, accO ld vs n) :: rest) → Q .next { s with heap := h', toks := tk }) :
    wpAny (model PG w) ((Ar 800 2800 outer).deeper (envO fo L)) (execs (((turnOf (bodyO fo)).drop 1).take 1) (envO fo L)) Q (fun _ _ => False) s := by
  revert ho X T
  unfold VW LW PG
  k_fill
  intro ho X T
  have hq := ho.symm.trans (by k_is : (hd.heap_1 w.params).lookup 268 = some ⟨_, _, .func (fnX _ _ _ _ _ _ _ _ _ _ _ _ _), _⟩)
  cases hq
  clear ho
  dsimp only [envO]
  conv in List.take _ _ => whnf
  conv in List.take _ _ => whnf
  obtain ⟨w1, w2, w3, w4, w5, w6, w7, w8, w9⟩ := WW
  rcases hx3 with rfl | rfl
  all_goals k_steps
  all_goals rename News _ _ _ _ => N1
  all_goals exact next _ _ _ ⟨w1, w2, w3, w4, w5, w6, w7, w8, w9⟩ (by assumption) (fun p hp => by first | exact N1 p hp | exact N1 p (.tail _ hp))
end

section
local macro_rules | `(tactic| walk_at "call ref") => `(tactic| (k_here; k_dflt (first
  | (refine' use_pureT (slashed_c _ _ _ (by assumption) (by assumption)) (by k_asm) (by k_asm) (by k_asm) (by k_asm) (by rfl) (by assumption) ?_; intro t' h' tk' F' N'; k_whole)
  | (refine' use_pureT (normpath_c _ _ _ (by assumption) (by assumption)) (by k_asm) (by k_asm) (by k_asm) (by k_asm) (by rfl) (by exact True.intro) ?_; intro t' h' tk' F' N'; k_whole))))
set_option maxHeartbeats 4000000 in
theorem turn_places {fo : Obj} {w : World} (ho : (hd.heap_1 w.params).lookup 268 = some fo)
    {outer : List Env} {s : Shared} {g : Heap} {L : Addr} {mg mb m : Str → Option Value} {Q : Flow → Shared → Prop} {S ta pa ra na sa : Addr} {t wt zt xt : Tok} {i : Nat} {way : Str} {z : Int}  {rest : List (Addr × Obj)} {nn n1 n2 : Nat} {ns pl : List (Str × Tok)} {rv : List Value}
    (X : (hd.heap_1 w.params).In g) (T : TopRead VW LW mg mb g)
    (F : Fr g L s.heap m) (WW : WM m i t S ta pa ra na sa way wt z zt) (N : News g L s.heap ((ra, W.listOf rv.toArray n1) :: (pa, W.listOf (strValues pl).toArray n2) :: rest)) (hpr : @Ne Nat pa ra) (offr : ∀ p ∈ rest, p.1 ≠ ra) (offp : ∀ p ∈ rest, p.1 ≠ pa)
    (hrz : rv.length ≤ 2097152) (hpz : (strValues pl).length ≤ 2097152) (hna : (na, W.listOf (strValues ns).toArray nn) ∈ rest) (hnl : ns.length ≤ 100) (hnb : ∀ x ∈ ns.map (·.1), x.length ≤ 100) (hw : way.length ≤ 1000) (hwr : Rooted way)
    (next : ∀ h' tk m' pt (n1' n2' : Nat), WM m' i t S ta pa ra na sa way wt z zt → (∃ ft, m' (Str.ofString "flat") = some (.str (slashF (ns.map (·.1))) ft)) → Fr g L h' m' → News g L h' ((ra, W.listOf (rv ++ [Value.ref na]).toArray n1') :: (pa, W.listOf (strValues (pl ++ [(normF way, pt)])).toArray n2') :: rest) → Q .next { s with heap := h', toks := tk }) :
    wpAny (model PG w) ((Ar 800 2800 outer).deeper (envO fo L)) (execs (((turnOf (bodyO fo)).drop 2).take 3) (envO fo L)) Q (fun _ _ => False) s := by
  revert ho X T
  unfold VW LW PG
  k_fill
  intro ho X T
  have hq := ho.symm.trans (by k_is : (hd.heap_1 w.params).lookup 268 = some ⟨_, _, .func (fnX _ _ _ _ _ _ _ _ _ _ _ _ _), _⟩)
  cases hq
  clear ho
  dsimp only [envO]
  repeat (conv in List.take _ _ => whnf)
  obtain ⟨w1, w2, w3, w4, w5, w6, w7, w8, w9⟩ := WW
  have hnaL : s.heap.IsList na (strValues ns).toArray := ⟨_, (N _ (.tail _ (.tail _ hna))).1, rfl, _, rfl⟩
  k_steps
  rename News _ _ _ _ => N1
  have ex : ∀ c u, strValues pl ++ [Value.str c u] = strValues (pl ++ [(c, u)]) := fun c u => by simp [strValues]
  rw [ex] at N1
  rename Fr _ _ _ _ => F1
  refine next _ _ _ _ _ _ ?_ ?_ F1 N1
  · exact ⟨w1, w2, w3, w4, w5, w6, w7, w8, w9⟩
  · exact ⟨_, rfl⟩
end

section
variable {w : World} {A : Around} {s : Shared} {g : Heap} {L S ld n bm : Addr} {l : List Pr} {m mg mb : Str → Option Value} {news : List (Addr × Obj)} {hs z : Int} {kt zt : Tok} {ps : Array Value} {ob : Obj} {Q E : Value → Shared → Prop}
theorem hid_two {P : Addr} {o : Obj} (F : Fr g L s.heap m) (N : News g L s.heap news) (hS : (S, o) ∈ news) (hP : (P, tabObj ps) ∈ news) :
    Keeps g (hideAll s.heap [S, P]) ∧ Keeps (hideAll s.heap [S, P]) s.heap ∧ (∀ p ∈ [(S, o), (P, tabObj ps)], (hideAll s.heap [S, P]).get? p.1 = none) ∧ (∀ p ∈ [(S, o), (P, tabObj ps)], s.heap.get? p.1 = some p.2) ∧
      ∀ q ∈ news, q.1 ≠ S → q.1 ≠ P → (hideAll s.heap [S, P]).get? q.1 = some q.2 := by
  refine ⟨hide_base (hid := [(S, o), (P, tabObj ps)]) F.keep fun p hp => ?_, fun b o e => of_hideAll _ e, fun p hp => hideAll_none _ ?_, fun p hp => ?_, fun q hq h1 h2 => hideAll_get _ (N q hq).1 fun hm => ?_⟩
  · rcases List.mem_cons.mp hp with e | hp
    · rw [e]; exact (N _ hS).2.2
    · rw [List.mem_singleton.mp hp]; exact (N _ hP).2.2
  · rcases List.mem_cons.mp hp with e | hp
    · rw [e]; exact .head _
    · rw [List.mem_singleton.mp hp]; exact .tail _ (.head _)
  · rcases List.mem_cons.mp hp with e | hp
    · rw [e]; exact (N _ hS).1
    · rw [List.mem_singleton.mp hp]; exact (N _ hP).1
  · rcases List.mem_cons.mp hm with e | hm
    · exact h1 e
    · exact h2 (List.mem_singleton.mp hm)
theorem tab_after {P : Addr} {h' : Heap} {ps' : Array Value} (F : Fr g L s.heap m) (N : News g L s.heap news) (hP : (P, tabObj ps) ∈ news) (k : ∀ b o, b ≠ P → s.heap.get? b = some o → h'.get? b = some o) (hP' : h'.get? P = some (tabObj ps')) :
    Fr g L h' m ∧ (∀ others, (∀ p ∈ others, p ∈ news) → (∀ p ∈ others, p.1 ≠ P) → News g L h' others) ∧ News g L h' [(P, tabObj ps')] := by
  refine ⟨fr_but (hid := [(P, tabObj ps)]) F (fun p hp => by rw [List.mem_singleton.mp hp]; exact N _ hP) fun b o hb => k b o fun q => hb (by rw [q]; exact .head _), fun others h1 h2 p hp => ?_, fun p hp => ?_⟩
  · exact ⟨k _ _ (h2 p hp) (N p (h1 p hp)).1, (N p (h1 p hp)).2⟩
  · rw [List.mem_singleton.mp hp]
    exact ⟨hP', (N _ hP).2⟩
theorem use_len (F : Fr g L s.heap m) (N : News g L s.heap news) (X : (hd.heap_1 w.params).In g) (T : TopRead VW LW mg mb g) (M : BMod g mainGlobals mg bm ob) (hS : (S, accO ld (accV l) n) ∈ news) (hP : ((63 : Addr), tabObj ps) ∈ news) (hld : (ld, accD hs kt zt z) ∈ news) (hldS : ld ≠ S) (hldP : ld ≠ (63 : Addr))
    (hpr : ∀ x ∈ l, (x.1, tup2 (.str x.2.1.1 x.2.1.2) (.str x.2.2.1 x.2.2.2)) ∈ news ∧ x.1 ≠ S ∧ x.1 ≠ (63 : Addr)) (hz : 0 ≤ z ∧ z < 1000) (hl : l.length ≤ 1000) (ht : TriplesOk ps.toList) (hb : ∀ x ∈ l, x.2.1.1.length ≤ 1000 ∧ x.2.2.1.length ≤ 1000)
    (hA : okA A 850 3400 = true)
    (h : ∀ h' tk gs t ps', (AllBare s.gens → AllBare gs) → TriplesOk ps'.toList → Fr g L h' m → (∀ others, (∀ p ∈ others, p ∈ news) → (∀ p ∈ others, p.1 ≠ (63 : Addr)) → News g L h' others) → News g L h' [((63 : Addr), tabObj ps')] →
      Q (.int (z + ((l.map fun x => x.2.1.1.length + x.2.2.1.length).sum : Nat)) t) { s with heap := h', toks := tk, gens := gs }) : wpAny (model PG w) A (call (.ref 68) [.ref S]) Q E s := by
  obtain ⟨kg, kh, c1, c2, c3⟩ := hid_two F N hS hP
  refine wpAny_Ar (fun outer => len_c w outer s _ mg mb Q E S ld n l hs kt zt z ps bm ob hz hl ht hb (X.keeps kg) (T.keeps kg) kh c1 c2 (M.keeps kg) (c3 _ hld hldS hldP) (fun x hx => c3 _ (hpr x hx).1 (hpr x hx).2.1 (hpr x hx).2.2) fun h' tk gs t ps' hB ht' hat' k => ?_) hA
  obtain ⟨F', o', P'⟩ := tab_after F N hP k (hat' _ (.tail _ (.head _)))
  exact h h' tk gs t ps' hB ht' F' o' P'
theorem use_str (F : Fr g L s.heap m) (N : News g L s.heap news) (X : (hd.heap_1 w.params).In g) (T : TopRead VW LW mg mb g) (M : BMod g mainGlobals mg bm ob) (hS : (S, accO ld (accV l) n) ∈ news) (hP : ((70 : Addr), tabObj ps) ∈ news)
    (hpr : ∀ x ∈ l, (x.1, tup2 (.str x.2.1.1 x.2.1.2) (.str x.2.2.1 x.2.2.2)) ∈ news ∧ x.1 ≠ S ∧ x.1 ≠ (70 : Addr)) (hl : l.length ≤ 1000) (ht : TriplesOk ps.toList) (hb : ∀ x ∈ l, x.2.1.1.length ≤ 1000 ∧ x.2.2.1.length ≤ 1000)
    (hA : okA A 850 3400 = true)
    (h : ∀ h' tk gs t ps', (AllBare s.gens → AllBare gs) → TriplesOk ps'.toList → Fr g L h' m → (∀ others, (∀ p ∈ others, p ∈ news) → (∀ p ∈ others, p.1 ≠ (70 : Addr)) → News g L h' others) → News g L h' [((70 : Addr), tabObj ps')] →
      Q (.str (accS l) t) { s with heap := h', toks := tk, gens := gs }) : wpAny (model PG w) A (call (.ref 75) [.ref S]) Q E s := by
  obtain ⟨kg, kh, c1, c2, c3⟩ := hid_two F N hS hP
  refine wpAny_Ar (fun outer => str_c w outer s _ mg mb Q E S ld n l ps bm ob hl ht hb (X.keeps kg) (T.keeps kg) kh c1 c2 (M.keeps kg) (fun x hx => c3 _ (hpr x hx).1 (hpr x hx).2.1 (hpr x hx).2.2) fun h' tk gs t ps' hB ht' hat' k => ?_) hA
  obtain ⟨F', o', P'⟩ := tab_after F N hP k (hat' _ (.tail _ (.head _)))
  exact h h' tk gs t ps' hB ht' F' o' P'
end

theorem bne_kill {c d : Str} {P : Prop} (e : c = d) (h : (c != d) = true) : P := by
  subst e
  simp at h
section
local macro_rules | `(tactic| k_inst) => `(tactic| (refine' acc_inst2 (by k_asm) (by k_mem) (by k_mem)))
local macro_rules | `(tactic| walk_at "call ref") => `(tactic| (k_here; refine Hold.out ?_))
set_option maxHeartbeats 4000000 in
theorem turn_check {fo : Obj} {w : World} (ho : (hd.heap_1 w.params).lookup 268 = some fo)
    {outer : List Env} {s : Shared} {g : Heap} {L : Addr} {mg mb m : Str → Option Value} {Q : Flow → Shared → Prop} {S ta pa ra na sa : Addr} {t wt zt xt : Tok} {i : Nat} {way : Str} {z : Int}  {rest : List (Addr × Obj)} {n n2 : Nat} {ld bm : Addr} {l : List Pr} {pl : List (Str × Tok)} {c fl : Str} {cu ft kt zt' : Tok} {hs : Int} {p1 p2 : Array Value} {ob : Obj}
    (X : (hd.heap_1 w.params).In g) (T : TopRead VW LW mg mb g) (M : BMod g mainGlobals mg bm ob)
    (F : Fr g L s.heap m) (WW : WM m i t S ta pa ra na sa way wt z zt) (hfl : m (Str.ofString "flat") = some (.str fl ft)) (N : News g L s.heap ((63, tabObj p1) :: (70, tabObj p2) :: rest)) (off1 : ∀ p ∈ rest, p.1 ≠ (63 : Addr)) (off2 : ∀ p ∈ rest, p.1 ≠ (70 : Addr))
    (hS : (S, accO ld (accV l) n) ∈ rest) (hld : (ld, accD hs kt zt' z) ∈ rest) (hldS : ld ≠ S) (hpr : ∀ x ∈ l, (x.1, tup2 (.str x.2.1.1 x.2.1.2) (.str x.2.2.1 x.2.2.2)) ∈ rest ∧ x.1 ≠ S) (hz : 0 ≤ z ∧ z < 1000) (hl : l.length ≤ 1000) (ht1 : TriplesOk p1.toList) (ht2 : TriplesOk p2.toList) (hb : ∀ x ∈ l, x.2.1.1.length ≤ 1000 ∧ x.2.2.1.length ≤ 1000)
    (hpa : (pa, W.listOf (strValues pl ++ [Value.str c cu]).toArray n2) ∈ rest) (hpz : pl.length ≤ 1000) (hc : c = if (fl.length : Int) = 0 then Str.ofString "/" else fl) (hacc : accS l = fl) (hsum : (l.map fun x => x.2.1.1.length + x.2.2.1.length).sum = fl.length) (hfz : fl.length ≤ 1048576)
    (next : ∀ h' tk gs (p1' p2' : Array Value), (AllBare s.gens → AllBare gs) → Fr g L h' m → News g L h' ((63, tabObj p1') :: (70, tabObj p2') :: rest) → TriplesOk p1'.toList → TriplesOk p2'.toList → Q .next { s with heap := h', toks := tk, gens := gs }) :
    wpAny (model PG w) ((Ar 800 2800 outer).deeper (envO fo L)) (execs (((turnOf (bodyO fo)).drop 5).take 1) (envO fo L)) Q (fun _ _ => False) s := by
  revert ho X T
  unfold VW LW PG
  k_fill
  intro ho X T
  have hq := ho.symm.trans (by k_is : (hd.heap_1 w.params).lookup 268 = some ⟨_, _, .func (fnX _ _ _ _ _ _ _ _ _ _ _ _ _), _⟩)
  cases hq
  clear ho
  dsimp only [envO]
  repeat (conv in List.take _ _ => whnf)
  obtain ⟨w1, w2, w3, w4, w5, w6, w7, w8, w9⟩ := WW
  k_steps
  all_goals first
    | (exfalso; rw [if_neg (by assumption)] at hc; exact bne_kill hc (by assumption))
    | (exfalso; rw [if_pos (by assumption)] at hc; exact bne_kill hc (by assumption))
    | skip
  all_goals first | (with_reducible show Hold _) | skip
  all_goals rename News _ _ _ _ => N0
  all_goals rename Fr _ _ _ _ => F0
  all_goals refine use_str F0 N0 ‹_› ‹_› M (.tail _ (.tail _ hS)) (.tail _ (.head _)) (fun x hx => ⟨.tail _ (.tail _ (hpr x hx).1), (hpr x hx).2, off2 _ (hpr x hx).1⟩) hl ht2 hb rfl ?_
  all_goals intro h3 tk3 gs3 t3 p2' hB3 ht3 F3 keep3 P3
  all_goals have N3 := news_app (keep3 [_] (fun p hp => (List.mem_singleton.mp hp) ▸ .head _) (fun p hp => by rw [List.mem_singleton.mp hp]; show (63 : Nat) ≠ 70; decide)) (news_app P3 (keep3 rest (fun p hp => .tail _ (.tail _ hp)) off2))
  all_goals simp only [List.cons_append, List.nil_append] at N3
  all_goals clear keep3 P3 F0 N0
  all_goals rw [hacc]
  all_goals dsimp only [StrBack]
  all_goals k_steps
  all_goals first
    | (exfalso; exact bne_kill rfl (by assumption : (fl != fl) = true))
    | skip
  all_goals first | (with_reducible show Hold _) | skip
  all_goals rename News _ _ _ _ => N0
  all_goals rename Fr _ _ _ _ => F0
  all_goals refine use_len F0 N0 ‹_› ‹_› M (.tail _ (.tail _ hS)) (.head _) (.tail _ (.tail _ hld)) hldS (off1 _ hld) (fun x hx => ⟨.tail _ (.tail _ (hpr x hx).1), (hpr x hx).2, off1 _ (hpr x hx).1⟩) hz hl ht1 hb rfl ?_
  all_goals intro h4 tk4 gs4 t4 p1' hB4 ht4 F4 keep4 P4
  all_goals have N4 := news_app P4 (news_app (keep4 [_] (fun p hp => (List.mem_singleton.mp hp) ▸ .tail _ (.head _)) (fun p hp => by rw [List.mem_singleton.mp hp]; show (70 : Nat) ≠ 63; decide)) (keep4 rest (fun p hp => .tail _ (.tail _ hp)) off1))
  all_goals simp only [List.cons_append, List.nil_append] at N4
  all_goals clear keep4 P4 F0 N0
  all_goals rw [hsum]
  all_goals (refine ⟨by omega, ?_⟩)
  all_goals k_steps
  all_goals first
    | exact absurd rfl (by assumption)
    | exact next _ _ _ _ _ (fun B => hB4 (hB3 B)) F4 N4 ht4 ht3
end

theorem news_same {g h h1 : Heap} {L S : Addr} {o : Obj} {news : List (Addr × Obj)} (N : News g L h news) (hS : (S, o) ∈ news) (hat : h1.get? S = some o) (k : ∀ b o, b ≠ S → h.get? b = some o → h1.get? b = some o) : News g L h1 news := fun p hp => by
  refine ⟨?_, (N p hp).2⟩
  by_cases e : p.1 = S
  · have h2 := (N p hp).1
    have h3 := (N _ hS).1
    rw [e] at h2 ⊢
    rw [hat, ← h2]
    exact h3.symm
  · exact k _ _ e (N p hp).1
/-- a tuple of the heap: the depth, the step's number, the place -/
noncomputable def TupIn (rest : List (Addr × Obj)) (G : Int → Str) (y : It) : Prop := ∃ t1 t2 u k, (y.1, tup3 (.int y.2.1 t1) (.int y.2.2 t2) (.str (G y.2.2) u) k) ∈ rest
section
local macro_rules | `(tactic| walk_at "getMethod ref") => `(tactic| (k_here; k_dflt (refine' method_df (by k_asm) (by k_asm) (by k_inst) (by k_is) (by k_is) (by k_is) (by k_get) (by k_is) (by decide +kernel) ?_; k_whole)))
local macro_rules | `(tactic| k_inst) => `(tactic| (refine' acc_inst2 (by k_asm) (by k_mem) (by k_mem)))
local macro_rules | `(tactic| walk_at "call ref") => `(tactic| (k_here; refine Hold.out ?_))
set_option maxHeartbeats 4000000 in
theorem turn_push {fo : Obj} {w : World} (ho : (hd.heap_1 w.params).lookup 268 = some fo)
    {outer : List Env} {s : Shared} {g : Heap} {L : Addr} {mg mb m : Str → Option Value} {Q : Flow → Shared → Prop} {S ta pa ra na sa : Addr} {t wt zt xt : Tok} {i : Nat} {way : Str} {z : Int}  {rest : List (Addr × Obj)} {n n2 n3 : Nat} {ld : Addr} {vs : List Value} {pl : List (Str × Tok)} {xs : List It} {c : Str} {cu kt zt' : Tok} {hs zz : Int} {G : Int → Str}
    (X : (hd.heap_1 w.params).In g) (T : TopRead VW LW mg mb g)
    (F : Fr g L s.heap m) (WW : WM m i t S ta pa ra na sa way wt z zt) (N : News g L s.heap ((ta, W.listOf (itV xs).toArray n3) :: rest)) (offt : ∀ p ∈ rest, p.1 ≠ ta)
    (hS : (S, accO ld vs n) ∈ rest) (hld : (ld, accD hs kt zt' zz) ∈ rest) (hldS : ld ≠ S)
    (hpa : (pa, W.listOf (strValues pl ++ [Value.str c cu]).toArray n2) ∈ rest) (hpz : pl.length ≤ 1000) (hxs : ∀ y ∈ xs, TupIn rest G y) (hxz : xs.length + 1 ≤ 1000) (hdi : (xs.map (fun x => x.2.2) ++ [(i : Int)]).Nodup) (hG : G i = c)
    (next : ∀ h' tk D (n3' : Nat) t1, Fr g L h' m → News g L h' ((ta, W.listOf (itV (sdF (D, (vs.length : Int), (i : Int)) xs.length (xs ++ [(D, (vs.length : Int), (i : Int))]) xs.length)).toArray n3') :: [(D, tup3 (.int (vs.length : Int) t1) (.int (i : Int) t) (.str c cu) 0)] ++ rest) →
      Apart [(D, tup3 (.int (vs.length : Int) t1) (.int (i : Int) t) (.str c cu) 0)] ((ta, W.listOf (itV xs).toArray n3) :: rest) → Q .next { s with heap := h', toks := tk }) :
    wpAny (model PG w) ((Ar 800 2800 outer).deeper (envO fo L)) (execs (((turnOf (bodyO fo)).drop 6).take 1) (envO fo L)) Q (fun _ _ => False) s := by
  revert ho X T
  unfold VW LW PG
  k_fill
  intro ho X T
  have hq := ho.symm.trans (by k_is : (hd.heap_1 w.params).lookup 268 = some ⟨_, _, .func (fnX _ _ _ _ _ _ _ _ _ _ _ _ _), _⟩)
  cases hq
  clear ho
  dsimp only [envO]
  repeat (conv in List.take _ _ => whnf)
  obtain ⟨w1, w2, w3, w4, w5, w6, w7, w8, w9⟩ := WW
  k_steps
  with_reducible show Hold _
  refine use_mut1 (part_count_c w S ld n vs hs kt zt' zz) F N ‹_› ‹_› (.tail _ hS) rfl ⟨(N _ (.tail _ hld)).1, hldS⟩ ?_
  rintro r h1 tk1 hid1 ⟨⟨t1, rfl⟩, rfl⟩ hat1 k1 F1 keep1 new1 S1
  have N1 := news_same N (.tail _ hS) (hat1 _ (.head _)) k1
  clear keep1 new1 S1 hat1 F N
  k_steps
  with_reducible show Hold _
  rename Fr _ _ _ _ => F2
  rename News _ _ _ _ => N2
  rename _ ∧ AllLt _ _ => l2
  rename Addr => D
  have a2 : ∀ p ∈ rest, p.1 ≠ D := allLt_mem l2.2
  refine use_mut1 (heappush_c w ta n3 xs (D, (vs.length : Int), (i : Int)) hxz ?_) F2 N2 ‹_› ‹_› (.tail _ (.head _)) rfl (fun y hy => ?_) ?_
  · unfold Dist
    rw [List.map_append]; exact hdi
  · rcases List.mem_append.mp hy with hy | hy
    · obtain ⟨u1, u2, u3, k, q⟩ := hxs y hy
      exact ⟨u1, u2, _, k, (N2 _ (.tail _ (.tail _ q))).1⟩
    · rw [List.mem_singleton.mp hy]
      exact ⟨_, _, _, _, (N2 _ (.head _)).1⟩
  rintro r h3 tk3 hid3 ⟨rfl, n4, rfl⟩ hat3 k3 F3 keep3 new3 S3
  have N3 := news_app (S3 _ (hat3 _ (.head _))) (news_app (keep3 [_] (fun p hp => (List.mem_singleton.mp hp) ▸ .head _) (fun p hp => by rw [List.mem_singleton.mp hp]; exact Nat.ne_of_gt l2.1)) (keep3 rest (fun p hp => .tail _ (.tail _ hp)) offt))
  clear keep3 new3 S3 hat3 F2 N2
  k_steps
  refine next _ _ D n4 _ (by assumption) N3 ?_
  intro p hp q hq
  rw [List.mem_singleton.mp hp]
  rcases List.mem_cons.mp hq with e | hq
  · rw [e]; exact Nat.ne_of_gt l2.1
  · exact Ne.symm (a2 q hq)
end

theorem item_tupN {prog : Program} {w : World} {A : Around} {E : Value → Shared → Prop} {s : Shared} {h₀ : Heap} {L d : Addr} {news : List (Addr × Obj)} {n j : Nat} {vs : List Value} {v : Value} {value slice : PySem.Expr} {t : Tok} {Q : Value → Shared → Prop} (N : News h₀ L s.heap news) (hm : (d, ({ cls := .type "tuple", data := .seq vs.toArray n } : Obj)) ∈ news) (hv : vs[j]? = some v) (hz : vs.length ≤ 100) (h : Q v s)
    (hs : subscripted slice false (.ref d) (.int (j : Int) t) = operate [.ref d, .int (j : Int) t] (getItem (.ref d) (.int (j : Int) t)) := by with_unfolding_all rfl) :
    wpAny (model prog w) A (subscriptTail value slice (.ref d) (.int (j : Int) t)) Q E s :=
  have hj := (List.getElem?_eq_some_iff.mp hv).1
  item_tupleT (j := j) (news_tup N hm) (by omega) (by omega) (by
    unfold seqIndex?
    simp
    omega) hv h hs
section
local macro_rules | `(tactic| walk_at "exec While Compare cons nil") => `(tactic| (k_here; refine Hold.out ?_))
local macro_rules | `(tactic| walk_at "call ref") => `(tactic| (k_here; refine Hold.out ?_))
local macro_rules | `(tactic| walk_at "subscriptTail") => `(tactic| (k_here; (with_reducible show wpAny _ _ (subscriptTail _ _ (Value.ref _) (Value.int 0 _)) _ _ _); k_dflt (refine' item_at (k := 0) (by k_asm) (by k_mem) (by assumption) (by assumption) ?_; k_whole)))
local macro_rules | `(tactic| walk_at "subscriptTail") => `(tactic| (k_here; (with_reducible show wpAny _ _ (subscriptTail _ _ (Value.ref _) (Value.int 1 _)) _ _ _); k_dflt (refine' item_tupN (j := 1) (vs := [_, _, _]) (by k_asm) (by exact .tail _ (by assumption)) (by rfl) (by exact Nat.le_of_ble_eq_true rfl) ?_; k_whole)))
set_option maxHeartbeats 4000000 in
theorem turn_pops {fo : Obj} {w : World} (ho : (hd.heap_1 w.params).lookup 268 = some fo)
    {outer : List Env} {s : Shared} {g : Heap} {L : Addr} {mg mb m : Str → Option Value} {Q : Flow → Shared → Prop} {S ta pa ra na sa : Addr} {t wt zt xt : Tok} {i : Nat} {way : Str} {z : Int}  {rest : List (Addr × Obj)} {n3 : Nat} {xs : List It} {G : Int → Str} (P : List It → Prop)
    (X : (hd.heap_1 w.params).In g) (T : TopRead VW LW mg mb g)
    (F : Fr g L s.heap m) (WW : WM m i t S ta pa ra na sa way wt z zt) (N : News g L s.heap ((ta, W.listOf (itV xs).toArray n3) :: rest)) (offt : ∀ p ∈ rest, p.1 ≠ ta)
    (hP : P xs) (hPs : ∀ ys, P ys → ys ≠ [] ∧ (∀ y, ys = [y] → ¬ y.2.2 ≤ (i : Int) - z) ∧ ys.length ≤ 900 ∧ Dist ys ∧ ∀ y ∈ ys, TupIn rest G y)
    (hpop : ∀ x0 mid x, P (x0 :: mid ++ [x]) → x0.2.2 ≤ (i : Int) - z → P (siftF x (x :: mid)) ∧ (siftF x (x :: mid)).length < (x0 :: mid ++ [x]).length)
    (next : ∀ h' tk n3' y ys, P (y :: ys) → ¬ y.2.2 ≤ (i : Int) - z → Fr g L h' m → News g L h' ((ta, W.listOf (itV (y :: ys)).toArray n3') :: rest) → Q .next { s with heap := h', toks := tk }) :
    wpAny (model PG w) ((Ar 800 2800 outer).deeper (envO fo L)) (execs (((turnOf (bodyO fo)).drop 7).take 1) (envO fo L)) Q (fun _ _ => False) s := by
  revert ho X T
  unfold VW LW PG
  k_fill
  intro ho X T
  have hq := ho.symm.trans (by k_is : (hd.heap_1 w.params).lookup 268 = some ⟨_, _, .func (fnX _ _ _ _ _ _ _ _ _ _ _ _ _), _⟩)
  cases hq
  clear ho
  dsimp only [envO]
  repeat (conv in List.take _ _ => whnf)
  obtain ⟨w1, w2, w3, w4, w5, w6, w7, w8, w9⟩ := WW
  k_steps
  with_reducible show Hold _
  refine while_rule (fun k s' => ∃ h tk n ys, s' = { s with heap := h, toks := tk } ∧ Fr g L h m ∧ News g L h ((ta, W.listOf (itV ys).toArray n) :: rest) ∧ P ys ∧ k = ys.length) ?_ xs.length ⟨s.heap, s.toks, n3, xs, rfl, F, N, hP, rfl⟩
  clear F N
  rintro k s' ⟨h, tk, n, ys, rfl, F, N, hPy, rfl⟩
  obtain ⟨hne, h1, hlen, hdi, hin⟩ := hPs ys hPy
  obtain ⟨y, yr, rfl⟩ := List.exists_cons_of_ne_nil hne
  obtain ⟨u1, u2, u3, kk, hty⟩ := hin y (.head _)
  have hv0 : (itV (y :: yr))[0]? = some (.ref y.1) := rfl
  have hz0 : (itV (y :: yr)).length ≤ 2097152 := by rw [itV_len]; omega
  k_steps
  · with_reducible show Hold _
    rename _ ≤ _ => hle
    rcases List.eq_nil_or_concat yr with rfl | ⟨mid, x, rfl⟩
    · exact absurd hle (h1 y rfl)
    rw [List.concat_eq_append] at hPy hlen hdi hin N
    refine use_mut1 (heappop_c w ta n y mid x (by rw [List.length_cons, List.length_append, List.length_singleton] at hlen; omega) hdi) F N ‹_› ‹_› (.head _) rfl (fun q hq => ?_) ?_
    · obtain ⟨v1, v2, v3, k3, hq'⟩ := hin q hq
      exact ⟨v1, v2, _, k3, (N _ (.tail _ hq')).1⟩
    rintro r h3 tk3 hid3 ⟨a3, n4, rfl, rfl⟩ hat3 k3 F3 keep3 new3 S3
    have N3 := news_app (S3 _ (hat3 _ (.head _))) (keep3 rest (fun p hp => .tail _ hp) offt)
    obtain ⟨hp1, hp2⟩ := hpop y mid x hPy hle
    clear keep3 new3 S3 hat3 F N
    k_steps
    refine ⟨_, ?_, _, _, _, _, rfl, F3, N3, hp1, rfl⟩
    rw [List.concat_eq_append]
    exact hp2
  · exact next _ _ _ y yr hPy (by omega) F N
end

theorem slashF_len {ns : List Str} (hl : ns.length ≤ 100) (hb : ∀ x ∈ ns, x.length ≤ 100) : (slashF ns).length ≤ 1048576 := by
  unfold slashF
  refine Nat.le_trans (join_len _ _) (small_join2 (by rw [List.length_map]; omega) (fun a ha => ?_) (by decide))
  obtain ⟨y, hy, rfl⟩ := List.mem_map.mp ha
  have := hb y hy
  rw [Str.length_append]
  have q : (Str.ofString "/").length = 1 := by decide
  omega
noncomputable def orRoot (f : Str) : Str := if (f.length : Int) = 0 then Str.ofString "/" else f
section
local macro_rules | `(tactic| walk_at "call ref") => `(tactic| (k_here; refine Hold.out ?_))
local macro_rules | `(tactic| walk_at "eval Subscript") => `(tactic| (k_here; (with_reducible show wpAny _ _ (eval (PySem.Expr.Subscript _ (PySem.Expr.Slice _ _ _ _) _) _) _ _ _); refine Hold.out ?_))
local macro_rules | `(tactic| walk_at "subscriptTail") => `(tactic| (k_here; (with_reducible show wpAny _ _ (subscriptTail _ _ (Value.ref _) (Value.int 0 _)) _ _ _); k_dflt (first
  | (refine' item_at (k := 0) (by k_asm) (by k_mem) (by assumption) (by assumption) ?_; k_whole)
  | (refine' item_tupN (j := 0) (vs := [_, _, _]) (by k_asm) (by k_mem) (by rfl) (by exact Nat.le_of_ble_eq_true rfl) ?_; k_whole))))
local macro_rules | `(tactic| walk_at "subscriptTail") => `(tactic| (k_here; (with_reducible show wpAny _ _ (subscriptTail _ _ (Value.ref _) (Value.int 2 _)) _ _ _); k_dflt (refine' item_tupN (j := 2) (vs := [_, _, _]) (by k_asm) (by k_mem) (by rfl) (by exact Nat.le_of_ble_eq_true rfl) ?_; k_whole)))
local macro_rules | `(tactic| walk_at "call builtin:len") => `(tactic| (k_here; (with_reducible show wpAny _ _ (call (Value.builtin "len") [Value.ref _]) _ _ _); k_dflt (refine' len_at (by k_asm) (by k_mem) (by assumption) (by assumption) ?_; k_whole)))
set_option maxHeartbeats 4000000 in
theorem turn_top {fo : Obj} {w : World} (ho : (hd.heap_1 w.params).lookup 268 = some fo)
    {outer : List Env} {s : Shared} {g : Heap} {L : Addr} {mg mb m : Str → Option Value} {Q : Flow → Shared → Prop} {S ta pa ra na sa : Addr} {t wt zt xt : Tok} {i : Nat} {way : Str} {z : Int}  {rest : List (Addr × Obj)} {nt nr np zn : Nat} {y : It} {ys : List It} {G : Int → Str} {rs : List (Addr × List (Str × Tok))} {pl : List (Str × Tok)}
    (X : (hd.heap_1 w.params).In g) (T : TopRead VW LW mg mb g)
    (F : Fr g L s.heap m) (WW : WM m i t S ta pa ra na sa way wt z zt) (N : News g L s.heap rest) (hzn : z = (zn : Int)) (hz0 : 0 < zn)
    (hta : (ta, W.listOf (itV (y :: ys)).toArray nt) ∈ rest) (hyl : ys.length ≤ 900) (hyG : TupIn rest G y)
    (hra : (ra, W.listOf (rs.map fun r => Value.ref r.1).toArray nr) ∈ rest) (hrs : ∀ r ∈ rs, ∃ n, (r.1, W.listOf (strValues r.2).toArray n) ∈ rest) (hrz : rs.length ≤ 100) (hrn : rs ≠ []) (hrb : ∀ r ∈ rs, r.2.length ≤ 100 ∧ ∀ x ∈ r.2, x.1.length ≤ 100 ∧ PyData.strOk x.1 = true)
    (hpa : (pa, W.listOf (strValues pl).toArray np) ∈ rest) (hpz : pl.length ≤ 100) (hpn : pl ≠ []) (hpb : ∀ x ∈ pl, x.1.length ≤ 100 ∧ Txt.startswith x.1 (Str.ofString "/") = true)
    (hplain : ∀ K, IsShared (rs.drop (rs.length - zn)) K → y.2.1 = (K : Int) ∧ G y.2.2 = orRoot (slashF ((((rs.drop (rs.length - zn)).headD default).2.take K).map (·.1))) ∧ ∀ c, IsCommon (pl.drop (pl.length - zn)) c → c = orRoot (slashF ((((rs.drop (rs.length - zn)).headD default).2.take K).map (·.1))))
    (next : ∀ h' tk m' K, IsShared (rs.drop (rs.length - zn)) K → WM m' i t S ta pa ra na sa way wt z zt → (∃ dt, m' (Str.ofString "depth") = some (.int (K : Int) dt)) → (∃ ft, m' (Str.ofString "folder") = some (.str (slashF ((((rs.drop (rs.length - zn)).headD default).2.take K).map (·.1))) ft)) → Fr g L h' m' → News g L h' rest → Q .next { s with heap := h', toks := tk }) :
    wpAny (model PG w) ((Ar 800 2800 outer).deeper (envO fo L)) (execs (((turnOf (bodyO fo)).drop 8).take 5) (envO fo L)) Q (fun _ _ => False) s := by
  revert ho X T
  unfold VW LW PG
  k_fill
  intro ho X T
  have hq := ho.symm.trans (by k_is : (hd.heap_1 w.params).lookup 268 = some ⟨_, _, .func (fnX _ _ _ _ _ _ _ _ _ _ _ _ _), _⟩)
  cases hq
  clear ho
  dsimp only [envO]
  repeat (conv in List.take _ _ => whnf)
  subst hzn
  obtain ⟨w1, w2, w3, w4, w5, w6, w7, w8, w9⟩ := WW
  have hv0 : (itV (y :: ys))[0]? = some (.ref y.1) := rfl
  have hvz : (itV (y :: ys)).length ≤ 2097152 := by rw [itV_len, List.length_cons]; omega
  obtain ⟨ya, yd, yi⟩ := y
  obtain ⟨u1, u2, u3, kk, hyt⟩ := hyG
  dsimp only at hyt hv0 hplain
  k_steps
  with_reducible show Hold _
  rename Fr _ _ _ _ => F1
  rename News _ _ _ _ => N1
  generalize hrs' : rs.drop (rs.length - zn) = rs' at *
  generalize hpl' : pl.drop (pl.length - zn) = pl' at *
  have hrl : 0 < rs.length := List.length_pos_iff.mpr hrn
  have hpl : 0 < pl.length := List.length_pos_iff.mpr hpn
  have hsub : ∀ r ∈ rs', r ∈ rs := fun r hr => List.mem_of_mem_drop (hrs' ▸ hr)
  have hsubp : ∀ r ∈ pl', r ∈ pl := fun r hr => List.mem_of_mem_drop (hpl' ▸ hr)
  have hrn' : rs' ≠ [] := fun q => by have := congrArg List.length (hrs'.trans q); rw [List.length_drop, List.length_nil] at this; exact sub_sub_ne hrl hz0 this
  have hpn' : pl' ≠ [] := fun q => by have := congrArg List.length (hpl'.trans q); rw [List.length_drop, List.length_nil] at this; exact sub_sub_ne hpl hz0 this
  have hrz' : rs'.length ≤ 100 := by rw [← hrs', List.length_drop]; exact Nat.le_trans (Nat.sub_le _ _) hrz
  have hpz' : pl'.length ≤ 100 := by rw [← hpl', List.length_drop]; exact Nat.le_trans (Nat.sub_le _ _) hpz
  refine slice_any (a := ra) (vs := rs.map fun r => Value.ref r.1) (ws := rs'.map fun r => Value.ref r.1) (lo := some (-(zn : Int))) (hi := none) ?hv ?hlo part_none ⟨_, (N1 _ hra).1, rfl, _, rfl⟩ (by rw [List.length_map]; omega) (by rw [pick_tail _ _ hz0, List.length_map, ← List.map_drop, hrs']) (fun _ _ => rfl) ?_
  case hv =>
    intro Q' hq
    exact gname_local rfl rfl F1.ns w5 hq (by decide)
  case hlo =>
    intro Q' hq
    refine part_some ?_
    k_steps
    exact hq _ _ (.int _ _)
  intro D2 h2 tk2 hD2 hDo2 k2
  obtain ⟨N2, a2⟩ := news_fresh F1 N1 k2 hD2 hDo2
  have F2 := fr_keeps F1 k2
  clear F1 N1
  k_steps
  with_reducible show Hold _
  refine use_pure (shared_c w D2 rs' hrn' hrz' fun r hr => hrb r (hsub r hr)) F2 N2 ‹_› ‹_› rfl ⟨⟨_, (N2 _ (.head _)).1, rfl, _, rfl⟩, fun r hr => ?_⟩ ?_
  · obtain ⟨nn, hq⟩ := hrs r (hsub r hr)
    exact ⟨_, (N2 _ (.tail _ hq)).1, rfl, _, rfl⟩
  rintro r h3 tk3 ⟨K, D3, rfl, hD3, hn3, hKs⟩ F3 N3 new3
  have hsh : IsShared rs' K := hKs
  obtain ⟨hp1, hp2, hp3⟩ := hplain K hsh
  obtain ⟨N4, a4⟩ := new3 _ _ hn3 hD3
  clear new3 N3 F2 N2
  subst hp1
  generalize hfs : (rs'.headD default).2.take K = fs at *
  have hhd : (rs'.headD default) ∈ rs' := by
    cases rs' with
    | nil => exact absurd rfl hrn'
    | cons a b => exact .head _
  have hfl : (strValues fs).length = K := by
    rw [len_strs, ← hfs, List.length_take]
    exact Nat.min_eq_left hsh.1
  have hK100 : K ≤ 100 := Nat.le_trans hsh.1 (hrb _ (hsub _ hhd)).1
  have hfz : (strValues fs).length ≤ 2097152 := hfl ▸ Nat.le_trans hK100 (by decide)
  have hfb : ∀ x ∈ fs.map (·.1), x.length ≤ 100 := fun x hx => by
    obtain ⟨q, hq, rfl⟩ := List.mem_map.mp hx
    exact ((hrb _ (hsub _ hhd)).2 q (List.mem_of_mem_take (hfs ▸ hq))).1
  k_steps
  with_reducible show Hold _
  rename Fr _ _ _ _ => F5
  rename News _ _ _ _ => N5
  refine use_pureT (slashed_c w D3 fs (by rw [len_strs] at hfl; omega) hfb) F5 N5 ‹_› ‹_› rfl ⟨_, (N5 _ (.head _)).1, rfl, _, rfl⟩ ?_
  intro ft h6 tk6 F6 N6
  clear F5 N5
  have hffz := slashF_len (ns := fs.map (·.1)) (by rw [List.length_map]; rw [len_strs] at hfl; omega) hfb
  generalize hff : slashF (fs.map (·.1)) = ff at *
  k_steps
  all_goals first
    | exact absurd rfl (by assumption)
    | skip
  all_goals first
    | (exfalso; rw [orRoot, if_neg (by assumption)] at hp2; exact bne_kill hp2 (by assumption))
    | (exfalso; rw [orRoot, if_pos (by assumption)] at hp2; exact bne_kill hp2 (by assumption))
    | skip
  all_goals with_reducible show Hold _
  all_goals rename Fr _ _ _ _ => F7
  all_goals rename News _ _ _ _ => N7
  all_goals refine slice_any (a := pa) (vs := strValues pl) (ws := strValues pl') (lo := some (-(zn : Int))) (hi := none) (fun Q' hq => gname_local rfl rfl F7.ns w4 hq (by decide)) (fun Q' hq => part_some ?_) part_none ⟨_, (N7 _ (.tail _ (.tail _ hpa))).1, rfl, _, rfl⟩ (by rw [len_strs]; omega) (by rw [pick_tail _ _ hz0, len_strs, drop_strs, hpl']) (fun _ _ => rfl) ?_
  all_goals first
    | (with_reducible show wpAny _ _ (eval (PySem.Expr.UnaryOp _ _ _) _) _ _ _; k_steps; exact hq _ _ (.int _ _))
    | skip
  all_goals intro D8 h8 tk8 hD8 hDo8 k8
  all_goals obtain ⟨N8, a8⟩ := news_fresh F7 N7 k8 hD8 hDo8
  all_goals have F8 := fr_keeps F7 k8
  all_goals clear F7 N7
  all_goals k_steps
  all_goals with_reducible show Hold _
  all_goals refine use_pure (common_c w D8 pl' hpn' hpz' (fun x hx => (hpb x (hsubp x hx)).1) fun x hx => (hpb x (hsubp x hx)).2) F8 N8 ‹_› ‹_› rfl ⟨_, (N8 _ (.head _)).1, rfl, _, rfl⟩ ?_
  all_goals rintro r h9 tk9 ⟨cc, t9, rfl, hcm0⟩ F9 N9 new9
  all_goals have hcm := hp3 _ hcm0
  all_goals clear new9 F8 N8
  all_goals k_steps
  all_goals first
    | contradiction
    | (exfalso; rw [orRoot, if_neg (by assumption)] at hcm; exact bne_kill hcm (by assumption))
    | (exfalso; rw [orRoot, if_pos (by assumption)] at hcm; exact bne_kill hcm (by assumption))
    | skip
  all_goals refine next _ _ _ K hsh ?_ ?_ ?_ (by assumption) (fun p hp => N9 p (.tail _ (.tail _ (.tail _ hp))))
  all_goals first
    | exact ⟨w1, w2, w3, w4, w5, w6, w7, w8, w9⟩
    | exact ⟨_, rfl⟩
    | (rw [hfs, hff]; exact ⟨_, rfl⟩)
end

section
variable {prog : Program} {w : World} {A : Around} {env : Env}
/-- between its turns -/
inductive PrInv (ps : List Pr) (f : Pr → Str) (I l C D : Addr) (H1 : Heap) (s : Shared) (k : Nat) (s' : Shared) : Prop
  | mk (h' : Heap) (tk : Nat) (m' : Str → Option Value) (l' : List (Str × Tok)) : s' = { s with heap := h', toks := tk } → (h'.IsListIter I l l'.length ∧ h'.IsList l (accV ps).toArray ∧ ∀ k, k < (accV ps).toArray.size → h'.IsTuple (ps.getD k default).1 #[.str (ps.getD k default).2.1.1 (ps.getD k default).2.1.2, .str (ps.getD k default).2.2.1 (ps.getD k default).2.2.2]) → h'.PlainList D (strValues l').toArray → h'.Ns C m' →
        l'.map (·.1) = (ps.take l'.length).map f → l'.length ≤ ps.length → k = ps.length + 1 - l'.length → (∀ b o, b ∉ [I] → H1.get? b = some o → h'.get? b = some o) → PrInv ps f I l C D H1 s k s'
/-- a comprehension with a pair of names over a list of pairs of texts, whose element makes a text -/
theorem comp_pairs {elt iter : Expr} {x x₂ : Str} {px px₂ tp : Pos} {x1 : Nat} {scope : Scope} {cl : List (Str × Addr)} {pos : Pos} {s : Shared} {Q : Value → Shared → Prop} {l : Addr} {ps : List Pr} (f : Pr → Str)
    (hh : A.handled = none) (hclos : closureFor scope env = pure cl) (hcell : ∀ y ∈ scope.names, y.2 ≠ .cell) (hkind : scope.kind = .function)
    (hnames : ∀ y ∈ scope.names, y.2 = .local → scope.names.lookup y.1 = some .local) (hx : scope.names.lookup x = some .local) (hx₂ : scope.names.lookup x₂ = some .local) (hne : x ≠ x₂)
    (hiter : ∀ Q' : Value → Shared → Prop, Q' (.ref l) s → wpAny (model prog w) A (eval iter env) Q' (fun _ _ => False) s) (hl : s.heap.IsList l (accV ps).toArray) (hp : ∀ p ∈ ps, PrAt s.heap p) (hsz : ps.length ≤ 2097152)
    (helt : ∀ (C : Addr) (p : Pr) (s₄ : Shared) (m₄ : Str → Option Value), p ∈ ps → s.heap.objs.size < C → s₄.heap.Ns C m₄ → m₄ x = some (.str p.2.1.1 p.2.1.2) → m₄ x₂ = some (.str p.2.2.1 p.2.2.2) → PySem.Keeps s s₄ →
      wpAny (model prog w) A (eval elt (compEnvC scope cl C env)) (fun y s₅ => ∃ t tk, y = .str (f p) t ∧ s₅ = { s₄ with toks := tk }) (fun _ _ => False) s₄)
    (done : ∀ D h' tk (l' : List (Str × Tok)), s.heap.get? D = none → h'.PlainList D (strValues l').toArray → l'.map (·.1) = ps.map f → Keeps s.heap h' → Q (.ref D) { s with heap := h', toks := tk })
    (hs : ∀ x, foldedSetIterable iter env x = pure x := by intro _; rfl) :
    wpAny (model prog w) A (eval (.ListComp elt [⟨.Tuple [.Name x px, .Name x₂ px₂] x1 tp, iter, [], 0⟩] scope pos) env) Q (fun _ _ => False) s := by
  rw [eval_ListComp]
  refine wpAny_comprehension_free (use := none) rfl hs hclos hkind hnames (hiter _ (wpAny_pyIter_list hl ?_))
  have hlv : ∃ ol, s.heap.get? l = some ol := let ⟨o, ho, _⟩ := hl; ⟨o, ho⟩
  obtain ⟨ol, hol⟩ := hlv
  have hlt : l < s.heap.objs.size := Heap.lt_size hol
  have hlen : (accV ps).toArray.size = ps.length := by simp [accV]
  have hit : ∀ j, j < (accV ps).toArray.size → (accV ps).toArray[j]? = some (.ref ((ps.getD j default).1)) := fun j hj => by
    rw [hlen] at hj
    simp [accV, hj]
  have hTm : ∀ j, j < (accV ps).toArray.size → ps.getD j default ∈ ps := fun j hj => by
    rw [hlen] at hj
    simp [hj]
  have hTlt : ∀ j, j < (accV ps).toArray.size → (ps.getD j default).1 < s.heap.objs.size := fun j hj => Heap.lt_size (hp _ (hTm j hj))
  have W := WalksU.listOfTuples (prog := prog) (w := w) hh s.heap.objs.size l (Nat.ne_of_lt hlt) (accV ps).toArray (fun j => (ps.getD j default).1) (fun j => #[.str (ps.getD j default).2.1.1 (ps.getD j default).2.1.2, .str (ps.getD j default).2.2.1 (ps.getD j default).2.2.2]) hit (fun j hj => Nat.ne_of_lt (hTlt j hj))
  have up : Keeps s.heap (s.heap.push { cls := .type "list_iterator", data := .fields #[.ref l, .int 0 0] }) := fun b o e => Heap.get?_push_of_some _ e
  have hst0 : Heap.IsListIter (s.heap.push { cls := .type "list_iterator", data := .fields #[.ref l, .int 0 0] }) s.heap.objs.size l 0 ∧ Heap.IsList (s.heap.push { cls := .type "list_iterator", data := .fields #[.ref l, .int 0 0] }) l (accV ps).toArray ∧ ∀ k, k < (accV ps).toArray.size → Heap.IsTuple (s.heap.push { cls := .type "list_iterator", data := .fields #[.ref l, .int 0 0] }) (ps.getD k default).1 #[.str (ps.getD k default).2.1.1 (ps.getD k default).2.1.2, .str (ps.getD k default).2.2.1 (ps.getD k default).2.2.2] :=
    ⟨⟨_, Heap.get?_push_size _ rfl, rfl, rfl⟩, hl.at fun o e => up _ _ e, fun k hk => ⟨_, up _ _ (hp _ (hTm k hk)), rfl, _, rfl⟩⟩
  have offI : ∀ b o, s.heap.get? b = some o → b ≠ s.heap.objs.size := fun b o e => Nat.ne_of_lt (Heap.lt_size e)
  have hfpI : ∀ b ∈ s.heap.objs.size :: l :: (List.range (accV ps).toArray.size).map (fun j => (ps.getD j default).1), b < s.heap.objs.size + 1 := fun b hb => by
    rcases List.mem_cons.mp hb with e | hb
    · rw [e]; exact Nat.lt_succ_self _
    · rcases List.mem_cons.mp hb with e | hb
      · rw [e]; exact Nat.lt_succ_of_lt hlt
      · obtain ⟨j, hj, e⟩ := List.mem_map.mp hb
        rw [← e]; exact Nat.lt_succ_of_lt (hTlt j (List.mem_range.mp hj))
  have hsz2 : (s.heap.push { cls := .type "list_iterator", data := .fields #[.ref l, .int 0 0] }).objs.size = s.heap.objs.size + 1 := Heap.size_push _ _
  generalize s.heap.push { cls := .type "list_iterator", data := .fields #[.ref l, .int 0 0] } = H1 at up hst0 hsz2 ⊢
  generalize hI : s.heap.objs.size = I at W hst0 offI hfpI hsz2 ⊢
  refine wpAny_newObj_type (wpAny_newFunctionEnv hcell (by intro y hy; simp at hy) (fun h₁ hns₁ hsb₁ => ?_) hkind)
  dsimp only at hns₁ hsb₁ ⊢
  generalize hH2 : H1.push { cls := .type "list", dict := none, data := .seq ([] : List Value).toArray } = H2 at hns₁ hsb₁ ⊢
  have hC : H2.objs.size = I + 1 + 1 := by rw [← hH2, Heap.size_push, hsz2]
  obtain ⟨D, hDe⟩ : ∃ D, H1.objs.size = D := ⟨_, rfl⟩
  obtain ⟨C, hCe⟩ : ∃ C, H2.objs.size = C := ⟨_, rfl⟩
  rw [hCe] at hC
  rw [hCe] at hns₁ hsb₁ ⊢
  rw [hDe] at hsz2 ⊢
  have hDC : D ≠ C := by rw [hC, hsz2]; exact Nat.ne_of_lt (Nat.lt_succ_self _)
  have hDf : ∀ b ∈ I :: l :: (List.range (accV ps).toArray.size).map (fun j => (ps.getD j default).1), b ≠ D ∧ b ≠ C := fun b hb => by
    have := hfpI b hb
    rw [hC, hsz2]
    exact ⟨Nat.ne_of_lt this, Nat.ne_of_lt (Nat.lt_succ_of_lt this)⟩
  have ltD : ∀ {b o}, H1.get? b = some o → b < D := fun e => hDe ▸ Heap.lt_size e
  have ltC : ∀ {b}, b < D → b ≠ C := fun h => by rw [hC, ← hsz2]; exact Nat.ne_of_lt (Nat.lt_succ_of_lt h)
  have old : ∀ b o, H1.get? b = some o → h₁.get? b = some o := fun b o e => hsb₁.extBut b o (ltC (ltD e)) (Heap.get?_push_of_some _ (hH2 ▸ Heap.get?_push_of_some _ e))
  have hacc : h₁.PlainList D #[] := ⟨_, hsb₁.extBut _ _ hDC (Heap.get?_push_of_some _ (hH2 ▸ hDe ▸ Heap.get?_push_size _ rfl))⟩
  have hst₁ := W.frame 0 _ _ hst0 fun b _ o e => old b o e
  have loop : ∀ s₃ : Shared, s₃ = { s with heap := h₁, toks := s.toks + ([] : List (Str × Value)).length } →
      codeAny (model prog w) A (.compLoop (.ListComp elt [⟨.Tuple [.Name x px, .Name x₂ px₂] x1 tp, iter, [], 0⟩] scope pos) 0 (.ref I) (.ref D) (compEnvC scope cl C env)) (compPost (model prog w) A (fun _ _ => False) none Q (.ref D) C) s₃ := by
    rintro s₃ rfl
    refine LCp.codeAny_compLoop_pair
      (PrInv ps f I l C D H1 s) ?_ (ps.length + 1)
      ⟨h₁, _, _, [], rfl, hst₁, hacc, hns₁, rfl, Nat.zero_le _, rfl, fun b o _ e => old b o e⟩
    rintro k s' ⟨H, tk, m', l', rfl, hst', hacc', hn', hP, hi, rfl, hk⟩
    have hCw : C ∉ [I] := fun h => (hDf I (.head _)).2 (List.mem_singleton.mp h).symm
    have hDw : D ∉ [I] := fun h => (hDf I (.head _)).1 (List.mem_singleton.mp h).symm
    by_cases hlt : l'.length < ps.length
    · refine W.item l'.length _ _ _ (by rw [hlen]; exact hlt) hst' fun T vals h₂ tk₂ hPt hT hMid hk₂ => ?_
      refine W.go _ _ _ l'.length T _ _ _ hMid fun h₃ hst₃ hk₃ => ?_
      have hT₃ : h₃.IsTuple T vals := hT.at fun o e => hk₃ _ o (W.apart _ T h₂ hMid) e
      have hpm := hTm l'.length (by rw [hlen]; exact hlt)
      rw [hPt] at hT₃
      obtain ⟨p, hpe⟩ : ∃ p, ps.getD l'.length default = p := ⟨_, rfl⟩
      rw [hpe] at hT₃ hpm
      have kAll : ∀ b o, b ∉ [I] → H1.get? b = some o → h₃.get? b = some o := fun b o hb e => hk₃ b o hb (hk₂ b o hb (hk b o hb e))
      have hn₃ : h₃.Ns C m' := (hn'.at' fun o e => hk₂ _ o hCw e).at' fun o e => hk₃ _ o hCw e
      have acc₃ : h₃.PlainList D (strValues l').toArray := (hacc'.at fun o e => hk₂ _ o hDw e).at fun o e => hk₃ _ o hDw e
      refine wpAny_assign_Tuple (s := { s with heap := h₃, toks := tk₂ }) hh hT₃ rfl rfl fun h₄ hx₄ => ?_
      have up₄ : ∀ b o, h₃.get? b = some o → h₄.get? b = some o := fun b o e => hx₄ b o (Nat.ne_of_lt (Heap.lt_size e)) e
      show wpAny _ _ (do holding [_] (assign (.Name x px) (compEnvC scope cl C env) _); do holding [] (assign (.Name x₂ px₂) (compEnvC scope cl C env) _); pure ()) _ _ _
      refine wpAny_bind (wpAny_holding (wpAny_assign_Name (wpAny_storeName_local (lookup_relabel_local hx) (hn₃.keeps up₄) (fun h₅ hn₅ hs₅ => ?_) (by simp [compEnvC, relabel, hkind]))))
      refine wpAny_bind (wpAny_holding (wpAny_assign_Name (wpAny_storeName_local (lookup_relabel_local hx₂) hn₅ (fun h₆ hn₆ hs₆ => wpAny_pure ?_) (by simp [compEnvC, relabel, hkind]))))
      have k6 : ∀ b o, b ≠ C → h₃.get? b = some o → h₆.get? b = some o := fun b o hb e => (hs₆.2 b hb).trans ((hs₅.2 b hb).trans (up₄ b o e))
      have hsI : s.heap.objs.size < C := by rw [hI, hC]; exact Nat.lt_succ_of_lt (Nat.lt_succ_self _)
      have kS : Keeps s.heap h₆ := fun b o e => k6 b o (Nat.ne_of_lt (Nat.lt_trans (Heap.lt_size e) hsI)) (kAll b o (fun hm => offI b o e (List.mem_singleton.mp hm)) (up b o e))
      refine wpAny_mono (helt C p { s with heap := h₆, toks := tk₂ + 1 + 1 } _ hpm hsI hn₆ (by simp [hne]) (by simp) ⟨h₆, _, rfl, kS⟩) (fun y s₇ h₇ => ?_) fun _ _ e => e.elim
      obtain ⟨t, tk₇, rfl, rfl⟩ := h₇
      have acc₆ : h₆.PlainList D (strValues l').toArray := acc₃.at fun o e => k6 _ o hDC e
      refine wpAny_list_append_plain (hsz := by
        have := len_strs l'
        rw [sizeLine_eq]
        simp; omega) acc₆ fun h₈ hl₈ hs₈ => ?_
      refine ⟨ps.length + 1 - (l'.length + 1), step_lt hlt, h₈, tk₇, _, l' ++ [(f p, t)], rfl, ?_, ?_, hn₆.sameBut hs₈ (Ne.symm hDC), ?_, by rw [List.length_append]; exact hlt, by rw [List.length_append]; rfl, fun b o hb e => hs₈.extBut b o (Nat.ne_of_lt (ltD e)) (k6 b o (ltC (ltD e)) (kAll b o hb e))⟩
      · rw [List.length_append]
        exact W.frame _ _ _ hst₃ fun b hb o e => hs₈.extBut b o (hDf b hb).1 (k6 b o (hDf b hb).2 e)
      · have e : strValues (l' ++ [(f p, t)]) = strValues l' ++ [.str (f p) t] := by simp [strValues]
        rw [e, ← List.push_toArray]
        exact hl₈
      · rw [List.map_append, List.length_append, hP]
        show _ = (ps.take (l'.length + 1)).map f
        rw [List.take_add_one, List.map_append]
        have e : ps[l'.length]? = some p := by rw [← hpe]; simp [hlt]
        rw [e]; rfl
    · have hin : l'.length = ps.length := Nat.le_antisymm hi (Nat.not_lt.mp hlt)
      have hst'' := hst'
      rw [show l'.length = (accV ps).toArray.size from hin.trans hlen.symm] at hst''
      refine W.done _ _ _ hst'' fun h₂ tk₂ hk₂ => ?_
      refine ⟨m', hn'.at' fun o e => hk₂ _ o hCw e, fun h'' hs'' => ?_⟩
      refine done D h'' tk₂ l' ?_ ((hacc'.at fun o e => hk₂ _ o hDw e).extBut hs''.extBut hDC) (by rw [hP, hin, List.take_length]) fun b o e => ?_
      · cases z : s.heap.get? D with
        | none => rfl
        | some o => exact absurd (ltD (up D o z)) (Nat.lt_irrefl _)
      · have e1 := up b o e
        exact hs''.extBut b o (ltC (ltD e1)) (hk₂ b o (fun hm => offI b o e (List.mem_singleton.mp hm)) (hk b o (fun hm => offI b o e (List.mem_singleton.mp hm)) e1))
  exact codeAny_compStart_list (loop _ rfl) (W.self 0 _ _ _ hst₁ (loop _ rfl))
end

theorem pair_out {vs : List Value} {outs : List Out} (h : Paired (OutIs (fun _ => true) fun v y os => ∃ x t a t1, v = .str x t ∧ y = .ref a ∧ os = [(a, tup2 (.str (Str.ofString "/") t1) (.str x t))]) vs outs) :
    ∀ l : List (Str × Tok), vs = strValues l → ∃ k : List Pr, outY outs = accV k ∧ (∀ p ∈ k, (p.1, tup2 (.str p.2.1.1 p.2.1.2) (.str p.2.2.1 p.2.2.2)) ∈ outO outs) ∧ k.map (fun x => (x.2.1.1, x.2.2.1)) = l.map fun x => (Str.ofString "/", x.1) := by
  induction h with
  | nil =>
    intro l e
    cases l with
    | nil => exact ⟨[], rfl, (fun _ h => nomatch h), rfl⟩
    | cons => cases e
  | cons h _ ih =>
    intro l e
    cases l with
    | nil => cases e
    | cons a r =>
      obtain ⟨b, bt⟩ := a
      have e' := List.cons.inj e
      obtain ⟨k, h1, h2, h3⟩ := ih r e'.2
      rcases h with ⟨_, y, os, rfl, x, t, a, t1, hx, rfl, rfl⟩ | ⟨hf, _⟩
      · rw [e'.1] at hx
        cases hx
        refine ⟨(a, (Str.ofString "/", t1), (b, bt)) :: k, ?_, ?_, ?_⟩
        · show _ :: outY _ = _; rw [h1]; rfl
        · intro p hp
          show _ ∈ [_] ++ outO _
          rcases List.mem_cons.mp hp with e | hp
          · rw [e]; exact .head _
          · exact .tail _ (h2 p hp)
        · rw [List.map_cons, h3, List.map_cons]
      · cases hf
section
local macro_rules | `(tactic| walk_at "eval ListComp") => `(tactic| (k_here; refine Hold.out ?_))
local macro_rules | `(tactic| walk_at "compareOp NotEq ref ref") => `(tactic| (k_here; refine Hold.out ?_))
local macro_rules | `(tactic| walk_at "getMethod ref") => `(tactic| (k_here; k_dflt (refine' method_df (by k_asm) (by k_asm) (by k_inst) (by k_is) (by k_is) (by k_is) (by k_get) (by k_is) (by decide +kernel) ?_; k_whole)))
local macro_rules | `(tactic| k_inst) => `(tactic| (refine' acc_inst2 (by k_asm) (by k_mem) (by k_mem)))
local macro_rules | `(tactic| walk_at "call ref") => `(tactic| (k_here; refine Hold.out ?_))
set_option maxHeartbeats 4000000 in
theorem turn_gone {fo : Obj} {w : World} (ho : (hd.heap_1 w.params).lookup 268 = some fo)
    {outer : List Env} {s : Shared} {g : Heap} {L : Addr} {mg mb m : Str → Option Value} {Q : Flow → Shared → Prop} {S ta pa ra na sa : Addr} {t wt zt xt : Tok} {i : Nat} {way : Str} {z : Int}  {rest : List (Addr × Obj)} {n nn K : Nat} {ld bm : Addr} {l : List Pr} {ns : List (Str × Tok)} {ff : Str} {dt ft kt zt' : Tok} {hs zz : Int} {p2 : Array Value} {ob : Obj}
    (X : (hd.heap_1 w.params).In g) (T : TopRead VW LW mg mb g) (M : BMod g mainGlobals mg bm ob)
    (F : Fr g L s.heap m) (WW : WM m i t S ta pa ra na sa way wt z zt) (hdp : m (Str.ofString "depth") = some (.int (K : Int) dt)) (hff : m (Str.ofString "folder") = some (.str ff ft)) (N : News g L s.heap ((S, accO ld (accV l) n) :: (70, tabObj p2) :: rest)) (off1 : ∀ p ∈ rest, p.1 ≠ S) (off2 : ∀ p ∈ rest, p.1 ≠ (70 : Addr)) (hS70 : S ≠ (70 : Addr))
    (hld : (ld, accD hs kt zt' zz) ∈ rest) (hpr : ∀ x ∈ l, (x.1, tup2 (.str x.2.1.1 x.2.1.2) (.str x.2.2.1 x.2.2.2)) ∈ rest) (hl : l.length ≤ 1000) (ht2 : TriplesOk p2.toList) (hb : ∀ x ∈ l, x.2.1.1.length ≤ 1000 ∧ x.2.2.1.length ≤ 1000)
    (hK : K ≤ l.length) (hna : (na, W.listOf (strValues ns).toArray nn) ∈ rest) (hnz : ns.length ≤ 1000) (hln : l.map (fun x => (x.2.1.1, x.2.2.1)) = ns.map fun x => (Str.ofString "/", x.1)) (hok : ∀ x ∈ ns, PyData.strOk x.1 = true) (hacc : accS (l.take K) = ff)
    (next : ∀ h' tk gs m' D (n' nd : Nat) (p2' : Array Value), (AllBare s.gens → AllBare gs) → WM m' i t S ta pa ra na sa way wt z zt → m' (Str.ofString "gone") = some (.ref D) → Fr g L h' m' → News g L h' ((S, accO ld (accV (l.take K)) n') :: (70, tabObj p2') :: [(D, W.listOf (accV (l.drop K)).toArray nd)] ++ rest) → TriplesOk p2'.toList →
      Apart [(D, W.listOf (accV (l.drop K)).toArray nd)] ((S, accO ld (accV l) n) :: (70, tabObj p2) :: rest) → Q .next { s with heap := h', toks := tk, gens := gs }) :
    wpAny (model PG w) ((Ar 800 2800 outer).deeper (envO fo L)) (execs (((turnOf (bodyO fo)).drop 13).take 2) (envO fo L)) Q (fun _ _ => False) s := by
  revert ho X T
  unfold VW LW PG
  k_fill
  intro ho X T
  have hq := ho.symm.trans (by k_is : (hd.heap_1 w.params).lookup 268 = some ⟨_, _, .func (fnX _ _ _ _ _ _ _ _ _ _ _ _ _), _⟩)
  cases hq
  clear ho
  dsimp only [envO]
  repeat (conv in List.take _ _ => whnf)
  obtain ⟨w1, w2, w3, w4, w5, w6, w7, w8, w9⟩ := WW
  have hav : (accV l).length = l.length := List.length_map ..
  k_steps
  with_reducible show Hold _
  refine use_mut1 (popfrom_c w S ld n K (accV l) dt hs kt zt' zz (by rw [hav]; exact hK) (by rw [hav]; exact hl)) F N ‹_› ‹_› (.head _) rfl ⟨(N _ (.tail _ (.tail _ hld))).1, off1 _ hld⟩ ?_
  rintro r h1 tk1 hid1 ⟨D, n', nd, rfl, hD, rfl, hDn⟩ hat1 k1 F1 keep1 new1 S1
  obtain ⟨ND, aD⟩ := new1 _ _ hDn hD
  have N1 := news_app ND (news_app (S1 _ (hat1 _ (.head _))) (keep1 ((70, tabObj p2) :: rest) (fun p hp => .tail _ hp) (fun p hp => (List.mem_cons.mp hp).elim (fun e => by rw [e]; exact Ne.symm hS70) (off1 p))))
  simp only [List.cons_append, List.nil_append] at N1
  clear keep1 new1 S1 hat1 F N ND
  k_steps
  with_reducible show Hold _
  rename Fr _ _ _ _ => F2
  rename News _ _ _ _ => N2
  have hdp2 : (fun y => if y = Str.ofString "gone" then some (Value.ref D) else m y) (Str.ofString "depth") = some (.int (K : Int) dt) := hdp
  have hKn : K ≤ (strValues ns).length := by
    rw [len_strs]
    have := congrArg List.length hln
    rw [List.length_map, List.length_map] at this
    omega
  refine comp_listG (vs := strValues (ns.drop K)) (fun _ => true) (fun v y os => ∃ x t a t1, v = .str x t ∧ y = .ref a ∧ os = [(a, tup2 (.str (Str.ofString "/") t1) (.str x t))]) rfl rfl (by decide) rfl (by decide) rfl (by rw [len_strs, List.length_drop]; omega) ?_
  refine slice_any (a := na) (vs := strValues ns) (ws := strValues (ns.drop K)) (lo := some (K : Int)) (hi := none) (fun Q' hq => gname_local rfl rfl F2.ns w6 hq (by decide)) (fun Q' hq => part_some (gname_local rfl rfl F2.ns hdp2 (hq _ _ (.int _ _)) (by decide))) part_none ⟨_, (N2 _ (.tail _ (.tail _ (.tail _ hna)))).1, rfl, _, rfl⟩ (by rw [len_strs]; omega) (by rw [pick_from _ _ hKn, drop_strs]) (fun _ _ => rfl) ?_
  intro D3 h3 tk3 hD3 hDo3 k3
  have F3 := fr_keeps F2 k3
  have N3 := news_keeps N2 k3
  clear F2 N2
  refine ⟨D3, rfl, ⟨_, hDo3, rfl, _, rfl⟩, ?_, ?_, ?_⟩
  · intro C i v s₄ m₄ hv hC hn hm kp
    exact wpAny_pure (TestEnd.go rfl fun _ _ e => e)
  · intro C i v s₄ m₄ hv hC hn hm kp _
    obtain ⟨c, u, rfl, hc⟩ := strValues_get hv
    clear F3 N3
    k_steps
    refine wpAny_newObj_type ?_
    refine ⟨[(s₄.heap.objs.size, tup2 (.str (Str.ofString "/") s₄.toks) (.str c u))], ⟨c, u, _, _, rfl, rfl, rfl⟩, ⟨_, _, rfl, fun b o e => Heap.get?_push_of_some _ e⟩, fun q hq => ?_⟩
    rw [List.mem_singleton.mp hq]
    refine ⟨?_, Heap.get?_push_size _ rfl⟩
    cases e : s₄.heap.get? s₄.heap.objs.size with
    | none => rfl
    | some o => exact absurd (Heap.lt_size e) (Nat.lt_irrefl _)
  · intro D4 h4 tk4 outs hD4 hpl hP hO k4
    obtain ⟨ks, e1, e2, e3⟩ := pair_out hP _ rfl
    rw [e1] at hpl
    have F4 := fr_keeps F3 k4
    have N4 := news_keeps N3 k4
    clear F3 N3
    k_steps
    with_reducible show Hold _
    have ed : (accV l).drop K = accV (l.drop K) := by unfold accV; rw [List.map_drop]
    have et : (accV l).take K = accV (l.take K) := by unfold accV; rw [List.map_take]
    rw [ed, et] at N4
    have hln2 : (l.drop K).map (fun x => (x.2.1.1, x.2.2.1)) = (ns.drop K).map fun x => (Str.ofString "/", x.1) := by rw [List.map_drop, hln, List.map_drop]
    have hoks : ∀ q ∈ (ns.drop K).map (fun x => (Str.ofString "/", x.1)), PyData.strOk q.1 = true ∧ PyData.strOk q.2 = true := fun q hq => by
      obtain ⟨x, hx, rfl⟩ := List.mem_map.mp hq
      exact ⟨(by decide +kernel : PyData.strOk (Str.ofString "/") = true), hok x (List.mem_of_mem_drop hx)⟩
    refine ne_pairs (l := l.drop K) (k := ks) ⟨_, (N4 _ (.head _)).1, rfl, _, rfl⟩ hpl.isList (fun x hx => (N4 _ (.tail _ (.tail _ (.tail _ (hpr x (List.mem_of_mem_drop hx)))))).1) (fun x hx => (hO _ (e2 x hx)).1) (by rw [hln2]; exact hoks) (by rw [e3]; exact hoks) (Nat.le_of_ble_eq_true rfl) ?_
    rw [hln2, e3]
    rw [show (!decide ((ns.drop K).map (fun x => (Str.ofString "/", x.1)) = (ns.drop K).map (fun x => (Str.ofString "/", x.1)))) = false from by simp]
    k_steps
    with_reducible show Hold _
    rename Fr _ _ _ _ => F5
    rename News _ _ _ _ => N5
    have aD' : ∀ q ∈ (S, accO ld (accV l) n) :: (70, tabObj p2) :: rest, q.1 ≠ D := aD
    have hD70 : D ≠ (70 : Addr) := Ne.symm (aD' _ (.tail _ (.head _)))
    refine use_str F5 N5 ‹_› ‹_› M (.tail _ (.head _)) (.tail _ (.tail _ (.head _))) (fun x hx => ⟨.tail _ (.tail _ (.tail _ (hpr x (List.mem_of_mem_take hx)))), off1 _ (hpr x (List.mem_of_mem_take hx)), off2 _ (hpr x (List.mem_of_mem_take hx))⟩) (by rw [List.length_take]; omega) ht2 (fun x hx => hb x (List.mem_of_mem_take hx)) rfl ?_
    intro h6 tk6 gs6 t6 p2' hB6 ht6 F6 keep6 P6
    have N6 := news_app (keep6 [_] (fun p hp => (List.mem_singleton.mp hp) ▸ .tail _ (.head _)) (fun p hp => by rw [List.mem_singleton.mp hp]; exact hS70)) (news_app P6 (keep6 ([_] ++ rest) (fun p hp => (List.mem_append.mp hp).elim (fun q => (List.mem_singleton.mp q) ▸ .head _) fun q => .tail _ (.tail _ (.tail _ q))) (fun p hp => (List.mem_append.mp hp).elim (fun q => by rw [List.mem_singleton.mp q]; exact hD70) fun q => off2 p q)))
    clear keep6 P6 F5 N5
    rw [hacc]
    dsimp only [StrBack]
    k_steps
    · exfalso; exact bne_kill rfl (by assumption : (ff != ff) = true)
    · refine next _ _ _ _ D n' nd p2' hB6 ?_ ?_ F6 N6 ht6 ?_
      · exact ⟨w1, w2, w3, w4, w5, w6, w7, w8, w9⟩
      · rfl
      · intro p hp q hq
        rw [List.mem_singleton.mp hp]
        exact Ne.symm (aD' q hq)
end

section
local macro_rules | `(tactic| walk_at "call ref") => `(tactic| (k_here; refine Hold.out ?_))
local macro_rules | `(tactic| walk_at "eval ListComp") => `(tactic| (k_here; refine Hold.out ?_))
local macro_rules | `(tactic| walk_at "call builtin:str.join") => `(tactic| (k_here; refine Hold.out ?_))
local macro_rules | `(tactic| walk_at "NOSUCH") => `(tactic| (k_here; (with_reducible show wpAny _ _ (eval (PySem.Expr.Subscript _ (PySem.Expr.Slice _ _ _ _) _) _) _ _ _); refine Hold.out ?_))
local macro_rules | `(tactic| walk_at "subscriptTail") => `(tactic| (k_here; (with_reducible show wpAny _ _ (subscriptTail _ _ (Value.ref _) (Value.int 0 _)) _ _ _); k_dflt (first
  | (refine' item_at (k := 0) (by k_asm) (by k_mem) (by assumption) (by assumption) ?_; k_whole)
  | (refine' item_tupN (j := 0) (vs := [_, _, _]) (by k_asm) (by k_mem) (by rfl) (by exact Nat.le_of_ble_eq_true rfl) ?_; k_whole))))
local macro_rules | `(tactic| walk_at "subscriptTail") => `(tactic| (k_here; (with_reducible show wpAny _ _ (subscriptTail _ _ (Value.ref _) (Value.int 2 _)) _ _ _); k_dflt (refine' item_tupN (j := 2) (vs := [_, _, _]) (by k_asm) (by k_mem) (by rfl) (by exact Nat.le_of_ble_eq_true rfl) ?_; k_whole)))
local macro_rules | `(tactic| walk_at "call builtin:len") => `(tactic| (k_here; (with_reducible show wpAny _ _ (call (Value.builtin "len") [Value.ref _]) _ _ _); k_dflt (refine' len_at (by k_asm) (by k_mem) (by assumption) (by assumption) ?_; k_whole)))
set_option maxHeartbeats 4000000 in
theorem turn_rest {fo : Obj} {w : World} (ho : (hd.heap_1 w.params).lookup 268 = some fo)
    {outer : List Env} {s : Shared} {g : Heap} {L : Addr} {mg mb m : Str → Option Value} {Q : Flow → Shared → Prop} {S ta pa ra na sa : Addr} {t wt zt xt : Tok} {i : Nat} {way : Str} {z : Int}  {rest : List (Addr × Obj)} {nt np nd : Nat} {D : Addr} {gl : List Pr} {y : It} {ys : List It} {G : Int → Str} {pl : List (Str × Tok)} {c : Str} {cu : Tok}
    (X : (hd.heap_1 w.params).In g) (T : TopRead VW LW mg mb g)
    (F : Fr g L s.heap m) (WW : WM m i t S ta pa ra na sa way wt z zt) (hgo : m (Str.ofString "gone") = some (.ref D)) (N : News g L s.heap rest)
    (hta : (ta, W.listOf (itV (y :: ys)).toArray nt) ∈ rest) (hyl : ys.length ≤ 900) (hyG : TupIn rest G y)
    (hpa : (pa, W.listOf (strValues pl ++ [Value.str c cu]).toArray np) ∈ rest) (hpz : pl.length ≤ 1000)
    (hD : (D, W.listOf (accV gl).toArray nd) ∈ rest) (hpr : ∀ x ∈ gl, (x.1, tup2 (.str x.2.1.1 x.2.1.2) (.str x.2.2.1 x.2.2.2)) ∈ rest) (hgz : gl.length ≤ 100) (hgb : ∀ x ∈ gl, x.2.1.1.length ≤ 100 ∧ x.2.2.1.length ≤ 100)
    (hGl : (G y.2.2).length ≤ 1048576) (hrest : (Txt.slice (Txt.join (Str.ofString "") (gl.map fun p => p.2.1.1 ++ p.2.2.1)) (some 1) none).length ≤ 1048576)
    (hjl : (joinF (G y.2.2) (Txt.slice (Txt.join (Str.ofString "") (gl.map fun p => p.2.1.1 ++ p.2.2.1)) (some 1) none)).length ≤ 1000) (hjr : Rooted (joinF (G y.2.2) (Txt.slice (Txt.join (Str.ofString "") (gl.map fun p => p.2.1.1 ++ p.2.2.1)) (some 1) none)))
    (hplain : normF (joinF (G y.2.2) (Txt.slice (Txt.join (Str.ofString "") (gl.map fun p => p.2.1.1 ++ p.2.2.1)) (some 1) none)) = c)
    (next : ∀ h' tk m', WM m' i t S ta pa ra na sa way wt z zt → m' (Str.ofString "gone") = some (.ref D) → Fr g L h' m' → News g L h' rest → Q .next { s with heap := h', toks := tk }) :
    wpAny (model PG w) ((Ar 800 2800 outer).deeper (envO fo L)) (execs (((turnOf (bodyO fo)).drop 15).take 2) (envO fo L)) Q (fun _ _ => False) s := by
  revert ho X T
  unfold VW LW PG
  k_fill
  intro ho X T
  have hq := ho.symm.trans (by k_is : (hd.heap_1 w.params).lookup 268 = some ⟨_, _, .func (fnX _ _ _ _ _ _ _ _ _ _ _ _ _), _⟩)
  cases hq
  clear ho
  dsimp only [envO]
  repeat (conv in List.take _ _ => whnf)
  obtain ⟨w1, w2, w3, w4, w5, w6, w7, w8, w9⟩ := WW
  have hv0 : (itV (y :: ys))[0]? = some (.ref y.1) := rfl
  have hvz : (itV (y :: ys)).length ≤ 2097152 := by rw [itV_len, List.length_cons]; omega
  obtain ⟨ya, yd, yi⟩ := y
  obtain ⟨u1, u2, u3, kk, hyt⟩ := hyG
  dsimp only at hyt hv0 hplain hGl hjl hjr
  k_steps
  with_reducible show Hold _
  refine comp_pairs (fun p => p.2.1.1 ++ p.2.2.1) rfl rfl (by decide) rfl (by decide) rfl rfl (by decide) (fun Q' hq => gname_local rfl rfl F.ns hgo hq (by decide)) ⟨_, (N _ hD).1, rfl, _, rfl⟩ (fun x hx => (N _ (hpr x hx)).1) (by omega) ?_ ?_
  · intro C p s₄ m₄ hp hC hn h1 h2 kp
    have b1 : p.2.1.1.length ≤ 1048576 := Nat.le_trans (hgb p hp).1 (by decide)
    have b2 : p.2.2.1.length ≤ 1048576 := Nat.le_trans (hgb p hp).2 (by decide)
    clear F N
    k_steps
  intro D2 h2 tk2 l' hD2 hpl hlm k2
  have F2 := fr_keeps F k2
  have N2 := news_keeps N k2
  clear F N
  k_steps
  with_reducible show Hold _
  have hlb : ∀ x ∈ l'.map (·.1), x.length ≤ 1000 := fun x hx => by
    rw [hlm] at hx
    obtain ⟨p, hp, rfl⟩ := List.mem_map.mp hx
    have := hgb p hp
    rw [Str.length_append]; omega
  have hll : (l'.map (·.1)).length ≤ 1002 := by rw [hlm, List.length_map]; omega
  have hjz : (Txt.join (Str.ofString "") (l'.map (·.1))).length ≤ 1048576 := Nat.le_trans (join_len _ _) (small_join2 hll hlb (by decide))
  refine join_list hpl.isList (strsAre_of l') (small_join hll hlb (by decide)) ?_
  intro t3 k3
  rw [← hlm] at hplain hrest hjl hjr
  generalize Txt.join (Str.ofString "") (l'.map (·.1)) = J at *
  k_steps
  with_reducible show Hold _
  rename Fr _ _ _ _ => F3
  rename News _ _ _ _ => N3
  refine use_pureT (join_c w (G yi) (Txt.slice J (some 1) none) _ _ hGl hrest) F3 N3 ‹_› ‹_› rfl True.intro ?_
  intro t4 h4 tk4 F4 N4
  clear F3 N3
  k_steps
  with_reducible show Hold _
  refine use_pureT (normpath_c w _ _ hjl hjr) F4 N4 ‹_› ‹_› rfl True.intro ?_
  intro t5 h5 tk5 F5 N5
  clear F4 N4
  rw [hplain]
  k_steps
  · exfalso; exact bne_kill rfl (by assumption : (c != c) = true)
  · refine next _ _ _ ?_ ?_ F5 N5
    · exact ⟨w1, w2, w3, w4, w5, w6, w7, w8, w9⟩
    · exact hgo
end

/-- the pairs of an accumulator as tracked objects -/
noncomputable def prObjs (l : List Pr) : List (Addr × Obj) := l.map fun x => (x.1, tup2 (.str x.2.1.1 x.2.1.2) (.str x.2.2.1 x.2.2.2))
section
local macro_rules | `(tactic| k_inst) => `(tactic| (refine' acc_inst2 (by k_asm) (by k_mem) (by k_mem)))
local macro_rules | `(tactic| walk_at "getMethod ref") => `(tactic| (k_here; k_dflt (refine' method_df (by k_asm) (by k_asm) (by k_inst) (by k_is) (by k_is) (by k_is) (by k_get) (by k_is) (by decide +kernel) ?_; k_whole)))
local macro_rules | `(tactic| walk_at "call ref") => `(tactic| (k_here; refine Hold.out ?_))
local macro_rules | `(tactic| walk_at "pyIter ref") => `(tactic| (k_here; refine Hold.out ?_))
local macro_rules | `(tactic| walk_at "exec For Tuple Name") => `(tactic| (k_here; refine Hold.out ?_))
set_option maxHeartbeats 4000000 in
theorem turn_back {fo : Obj} {w : World} (ho : (hd.heap_1 w.params).lookup 268 = some fo)
    {outer : List Env} {s : Shared} {g : Heap} {L : Addr} {mg mb m : Str → Option Value} {Q : Flow → Shared → Prop} {S ta pa ra na sa : Addr} {t wt zt xt : Tok} {i : Nat} {way : Str} {z : Int}  {rest : List (Addr × Obj)} {n nd : Nat} {D ld : Addr} {gl lk : List Pr} {hs zz : Int} {kt zt' : Tok}
    (X : (hd.heap_1 w.params).In g) (T : TopRead VW LW mg mb g)
    (F : Fr g L s.heap m) (WW : WM m i t S ta pa ra na sa way wt z zt) (hgo : m (Str.ofString "gone") = some (.ref D)) (N : News g L s.heap ((S, accO ld (accV lk) n) :: rest)) (offS : ∀ p ∈ rest, p.1 ≠ S)
    (hld : (ld, accD hs kt zt' zz) ∈ rest) (hD : (D, W.listOf (accV gl).toArray nd) ∈ rest) (hpr : ∀ x ∈ gl, (x.1, tup2 (.str x.2.1.1 x.2.1.2) (.str x.2.2.1 x.2.2.2)) ∈ rest) (hgz : lk.length + gl.length ≤ 1000)
    (next : ∀ h' tk m' (n' : Nat) l', WM m' i t S ta pa ra na sa way wt z zt → l'.map (fun x => (x.2.1, x.2.2)) = gl.map (fun x => (x.2.1, x.2.2)) → Fr g L h' m' → News g L h' ((S, accO ld (accV (lk ++ l')) n') :: (prObjs l' ++ rest)) → Apart (prObjs l') ((S, accO ld (accV lk) n) :: rest) → Q .next { s with heap := h', toks := tk }) :
    wpAny (model PG w) ((Ar 800 2800 outer).deeper (envO fo L)) (execs (((turnOf (bodyO fo)).drop 17).take 1) (envO fo L)) Q (fun _ _ => False) s := by
  revert ho X T
  unfold VW LW PG
  k_fill
  intro ho X T
  have hq := ho.symm.trans (by k_is : (hd.heap_1 w.params).lookup 268 = some ⟨_, _, .func (fnX _ _ _ _ _ _ _ _ _ _ _ _ _), _⟩)
  cases hq
  clear ho
  dsimp only [envO]
  repeat (conv in List.take _ _ => whnf)
  obtain ⟨w1, w2, w3, w4, w5, w6, w7, w8, w9⟩ := WW
  k_steps
  with_reducible show Hold _
  refine for_pairs (h₀ := g) rfl rfl rfl rfl ?_
  k_steps
  with_reducible show Hold _
  have hlD : s.heap.IsList D (accV gl).toArray := ⟨_, (N _ (.tail _ hD)).1, rfl, _, rfl⟩
  refine wpAny_pyIter_list hlD ?_
  have hS0 := (N _ (.head _)).1
  have hsz := Heap.lt_size hS0
  have hlt : D < s.heap.objs.size := Heap.lt_size (N _ (.tail _ hD)).1
  have hlen : (accV gl).toArray.size = gl.length := by simp [accV]
  have hit : ∀ j, j < (accV gl).toArray.size → (accV gl).toArray[j]? = some (.ref ((gl.getD j default).1)) := fun j hj => by
    rw [hlen] at hj
    simp [accV, hj]
  have hTm : ∀ j, j < (accV gl).toArray.size → gl.getD j default ∈ gl := fun j hj => by
    rw [hlen] at hj
    simp [hj]
  have hTlt : ∀ j, j < (accV gl).toArray.size → (gl.getD j default).1 < s.heap.objs.size := fun j hj => Heap.lt_size (N _ (.tail _ (hpr _ (hTm j hj)))).1
  have up : Keeps s.heap (s.heap.push { cls := .type "list_iterator", data := .fields #[.ref D, .int 0 0] }) := fun b o e => Heap.get?_push_of_some _ e
  have hL := F.ns.lt
  have hI0 : g.get? s.heap.objs.size = none := next_is_new F
  refine ⟨_, _, _, _, _, _, _, m, (S, accO ld (accV lk) n) :: rest, fun i m' nx => (∀ y, y ≠ Str.ofString "gap" → y ≠ Str.ofString "name" → m' y = m y) ∧ ∃ l' n', l'.map (fun x => (x.2.1, x.2.2)) = (gl.take i).map (fun x => (x.2.1, x.2.2)) ∧ nx = (S, accO ld (accV (lk ++ l')) n') :: (prObjs l' ++ rest) ∧ Apart (prObjs l') ((S, accO ld (accV lk) n) :: rest), rfl,
    WalksU.listOfTuples (prog := PG) (w := w) rfl s.heap.objs.size D (Nat.ne_of_lt hlt) (accV gl).toArray (fun j => (gl.getD j default).1) (fun j => #[.str (gl.getD j default).2.1.1 (gl.getD j default).2.1.2, .str (gl.getD j default).2.2.1 (gl.getD j default).2.2.2]) hit (fun j hj => Nat.ne_of_lt (hTlt j hj)), ?hLf, ?hwr, ?hnw, ⟨⟨_, Heap.get?_push_size _ rfl, rfl, rfl⟩, hlD.at fun o e => up _ _ e, fun k hk => ⟨_, up _ _ (N _ (.tail _ (hpr _ (hTm k hk)))).1, rfl, _, rfl⟩⟩, ?hal, fr_keeps F up, news_keeps N up, ⟨fun _ _ _ => rfl, [], n, rfl, by rw [List.append_nil]; rfl, fun p hp => nomatch hp⟩, ?h2, ?turn, ?done⟩
  case hLf =>
    intro hm
    rcases List.mem_cons.mp hm with e | hm
    · exact absurd hL (e ▸ Nat.lt_irrefl _)
    · rcases List.mem_cons.mp hm with e | hm
      · exact (N _ (.tail _ hD)).2.1 e.symm
      · obtain ⟨j, hj, e⟩ := List.mem_map.mp hm
        exact (N _ (.tail _ (hpr _ (hTm j (List.mem_range.mp hj))))).2.1 e
  case hwr =>
    intro b hb
    rw [List.mem_singleton.mp hb]
    exact hI0
  case hnw =>
    intro p hp hm
    have := Heap.lt_size (N p hp).1
    rw [List.mem_singleton.mp hm] at this
    exact Nat.lt_irrefl _ this
  case hal =>
    rintro i h ⟨⟨o, ho, _⟩, _⟩ b hb
    exact ⟨o, (List.mem_singleton.mp hb) ▸ ho⟩
  case h2 =>
    rintro i vals rfl
    exact ⟨_, _, rfl⟩
  case turn =>
    rintro i a b m₁ news₁ h tk own hi hPt ⟨hm, l', n', hl', rfl, hap⟩ hown hnw F1 N1
    obtain ⟨rfl, rfl⟩ : a = .str (gl.getD i default).2.1.1 (gl.getD i default).2.1.2 ∧ b = .str (gl.getD i default).2.2.1 (gl.getD i default).2.2.2 := by simpa using congrArg Array.toList hPt
    have hi' : i < gl.length := hlen ▸ hi
    have hownS : ∀ p ∈ own, p.1 ≠ S := fun p hp => by
      rcases List.mem_cons.mp (hown p hp) with e | hm
      · rw [e]; exact Nat.ne_of_gt hsz
      · rcases List.mem_cons.mp hm with e | hm
        · rw [e]; exact offS _ hD
        · obtain ⟨j, hj, e⟩ := List.mem_map.mp hm
          rw [← e]; exact offS _ (hpr _ (hTm j (List.mem_range.mp hj)))
    have hprS : ∀ p ∈ prObjs l', p.1 ≠ S := fun p hp => hap p hp _ (.head _)
    have hm₁ : m₁ (Str.ofString "stack") = some (.ref S) := (hm _ (by decide) (by decide)).trans w2
    have hl'n : l'.length = i := by
      have := congrArg List.length hl'
      rw [List.length_map, List.length_map, List.length_take] at this
      omega
    have hvz : (accV (lk ++ l')).length ≤ 1000 := by unfold accV; rw [List.length_map, List.length_append]; omega
    have hld1 : (ld, accD hs kt zt' zz) ∈ prObjs l' ++ rest ++ own := List.mem_append_left _ (List.mem_append_right _ hld)
    simp only [List.cons_append] at N1
    clear F N
    k_steps
    with_reducible show Hold _
    refine use_mut1 (push_c w S ld n' (accV (lk ++ l')) _ _ _ _ hs kt zt' zz hvz) F1 N1 ‹_› ‹_› (.head _) rfl ⟨(N1 _ (.tail _ hld1)).1, offS _ hld⟩ ?_
    rintro r h3 tk3 hid3 ⟨rfl, D2, n3, rfl, hD2, hn2⟩ hat3 k3 F3 keep3 new3 S3
    obtain ⟨ND, aD⟩ := new3 _ _ hn2 hD2
    have N3 := news_app (S3 _ (hat3 _ (.head _))) (news_app ND (keep3 (prObjs l' ++ rest ++ own) (fun p hp => .tail _ hp) (fun p hp => (List.mem_append.mp hp).elim (fun q => (List.mem_append.mp q).elim (hprS p) (offS p)) (hownS p))))
    clear keep3 new3 S3 ND F1 N1
    k_steps
    dsimp only [TurnPost]
    have ea : accV (lk ++ l') ++ [Value.ref D2] = accV (lk ++ (l' ++ [(D2, (gl.getD i default).2.1, (gl.getD i default).2.2)])) := by simp [accV]
    have ep : prObjs (l' ++ [(D2, (gl.getD i default).2.1, (gl.getD i default).2.2)]) = prObjs l' ++ [(D2, tup2 (.str (gl.getD i default).2.1.1 (gl.getD i default).2.1.2) (.str (gl.getD i default).2.2.1 (gl.getD i default).2.2.2))] := by unfold prObjs; rw [List.map_append]; rfl
    refine ⟨h3, tk3, _, (S, accO ld (accV (lk ++ (l' ++ [(D2, (gl.getD i default).2.1, (gl.getD i default).2.2)]))) n3) :: (prObjs (l' ++ [(D2, (gl.getD i default).2.1, (gl.getD i default).2.2)]) ++ rest), rfl, F3, fun p hp => ?_, fun p hp => ?_, fun y h1 h2 => ?_, l' ++ [(D2, (gl.getD i default).2.1, (gl.getD i default).2.2)], n3, ?_, rfl, fun p hp q hq => ?_⟩
    · rw [ep, ← ea] at hp
      refine N3 p ?_
      simp only [List.cons_append, List.nil_append, List.mem_cons, List.mem_append, List.not_mem_nil, or_false] at hp ⊢
      rcases hp with e | ((e | e) | e) | e
      · exact .inl e
      · exact .inr (.inr (.inl (.inl e)))
      · exact .inr (.inl e)
      · exact .inr (.inr (.inl (.inr e)))
      · exact .inr (.inr (.inr e))
    · rw [ep] at hp
      simp only [List.mem_cons, List.mem_append, List.not_mem_nil, or_false] at hp
      rcases hp with e | (e | e) | e
      · exact .inl (by rw [e]; exact .head _)
      · exact .inl (List.mem_map_of_mem (.tail _ (List.mem_append_left _ e)))
      · exact .inr (by rw [e]; exact hn2)
      · exact .inl (List.mem_map_of_mem (.tail _ (List.mem_append_right _ e)))
    · dsimp only
      rw [if_neg h2, if_neg h1]
      exact hm y h1 h2
    · rw [List.map_append, hl', List.take_add_one, List.map_append]
      have e : gl[i]? = some (gl.getD i default) := by simp [hi']
      rw [e]; rfl
    · rw [ep] at hp
      rcases List.mem_append.mp hp with e | e
      · exact hap p e q hq
      · rw [List.mem_singleton.mp e]
        rcases List.mem_cons.mp hq with e2 | hq2
        · rw [e2]; exact Ne.symm (aD (S, accO ld (accV (lk ++ l')) n') (.head _))
        · exact Ne.symm (aD q (.tail _ (List.mem_append_left _ (List.mem_append_right _ hq2))))
  case done =>
    rintro h9 tk9 m9 news9 F9 N9 ⟨hm, l', n', hl', rfl, hap⟩
    rw [hlen, List.take_length] at hl'
    clear F N
    k_steps
    refine next _ _ m9 n' l' ?_ hl' F9 N9 hap
    exact ⟨(hm _ (by decide) (by decide)).trans w1, (hm _ (by decide) (by decide)).trans w2, (hm _ (by decide) (by decide)).trans w3, (hm _ (by decide) (by decide)).trans w4, (hm _ (by decide) (by decide)).trans w5, (hm _ (by decide) (by decide)).trans w6, (hm _ (by decide) (by decide)).trans w7, (hm _ (by decide) (by decide)).trans w8, (hm _ (by decide) (by decide)).trans w9⟩
end

noncomputable def leI (x y : It) : Prop := x.2.1 < y.2.1 ∨ (x.2.1 = y.2.1 ∧ x.2.2 ≤ y.2.2)
theorem leI.trans {x y z : It} (a : leI x y) (b : leI y z) : leI x z := by unfold leI at *; omega
theorem leI.refl (x : It) : leI x x := .inr ⟨rfl, Int.le_refl _⟩
theorem leI_of_lt {x y : It} (h : ltI x y = true) : leI x y := by
  unfold ltI pltB at h
  have := of_decide_eq_true h
  unfold leI; omega
theorem leI_of_nlt {x y : It} (h : ltI x y = false) : leI y x := by
  unfold ltI pltB at h
  have := of_decide_eq_false h
  unfold leI; omega
noncomputable def atI (xs : List It) (k : Nat) : It := xs.getD k default
theorem atI_get {xs : List It} {k : Nat} {x : It} (h : xs[k]? = some x) : atI xs k = x := by unfold atI; rw [List.getD_eq_getElem?_getD, h]; rfl
theorem atI_set {xs : List It} {p k : Nat} {x : It} (hp : p < xs.length) : atI (xs.set p x) k = if k = p then x else atI xs k := by
  unfold atI
  rw [List.getD_eq_getElem?_getD, List.getD_eq_getElem?_getD, List.getElem?_set]
  by_cases h : k = p
  · rw [if_pos h, if_pos h.symm, if_pos hp]; rfl
  · rw [if_neg h, if_neg (Ne.symm h)]
theorem get_atI {xs : List It} {k : Nat} (h : k < xs.length) : xs[k]? = some (atI xs k) := by unfold atI; simp [h]
noncomputable def HeapP (xs : List It) : Prop := ∀ j, 0 < j → j < xs.length → leI (atI xs ((j - 1) / 2)) (atI xs j)
noncomputable def HUp (ni : It) (xs : List It) (k : Nat) : Prop := ∀ j, 0 < j → j < xs.length → j ≠ k → ((j - 1) / 2 ≠ k → leI (atI xs ((j - 1) / 2)) (atI xs j)) ∧ ((j - 1) / 2 = k → leI ni (atI xs j) ∧ (0 < k → leI (atI xs ((k - 1) / 2)) (atI xs j)))
theorem half_ne {k : Nat} (h : 0 < k) : (k - 1) / 2 ≠ k := Nat.ne_of_lt (half_lt h)
theorem hup_end {ni : It} {xs : List It} {k : Nat} (hk : k < xs.length) (h : HUp ni xs k) (hp : 0 < k → leI (atI xs ((k - 1) / 2)) ni) : HeapP (xs.set k ni) := by
  intro j hj hl
  rw [List.length_set] at hl
  rw [atI_set hk, atI_set hk]
  by_cases e : j = k
  · rw [if_pos e, if_neg (fun q => half_ne hj (q.trans e.symm)), e]
    exact hp (e ▸ hj)
  · rw [if_neg e]
    by_cases e2 : (j - 1) / 2 = k
    · rw [if_pos e2]
      exact ((h j hj hl e).2 e2).1
    · rw [if_neg e2]
      exact (h j hj hl e).1 e2
theorem sdF_heap {ni : It} : ∀ (f : Nat) (xs : List It) (k : Nat), k ≤ f → k < xs.length → HUp ni xs k → HeapP (sdF ni f xs k)
  | 0, xs, k, hf, hk, h => by
    have : k = 0 := Nat.le_zero.mp hf
    subst this
    exact hup_end hk h fun q => absurd q (Nat.lt_irrefl _)
  | f + 1, xs, k, hf, hk, h => by
    by_cases h0 : k = 0
    · subst h0
      rw [show sdF ni (f + 1) xs 0 = xs.set 0 ni from rfl]
      exact hup_end hk h fun q => absurd q (Nat.lt_irrefl _)
    · have hk0 := Nat.pos_of_ne_zero h0
      have hkq := Nat.lt_trans (half_lt hk0) hk
      have hq := get_atI hkq
      rw [sdF_succ hk0 hq]
      cases hlt : ltI ni (atI xs ((k - 1) / 2)) with
      | false =>
        rw [if_neg (by simp)]
        exact hup_end hk h fun _ => leI_of_nlt hlt
      | true =>
        rw [if_pos rfl]
        have hle := leI_of_lt hlt
        refine sdF_heap f _ _ (half_fuel hf) (by rw [List.length_set]; exact hkq) ?_
        intro j hj hl hjk
        rw [List.length_set] at hl
        rw [atI_set hk, atI_set hk, atI_set hk]
        constructor
        · intro hpar
          have e : j ≠ k := fun q => hpar (by rw [q])
          rw [if_neg e]
          by_cases e2 : (j - 1) / 2 = k
          · rw [if_pos e2]
            exact ((h j hj hl e).2 e2).2 hk0
          · rw [if_neg e2]
            exact (h j hj hl e).1 e2
        · intro hpar
          have up : 0 < (k - 1) / 2 → leI (atI xs (((k - 1) / 2 - 1) / 2)) (atI xs ((k - 1) / 2)) := fun q => (h ((k - 1) / 2) q hkq (half_ne hk0)).1 (Nat.ne_of_lt (Nat.lt_trans (half_lt q) (half_lt hk0)))
          by_cases e : j = k
          · rw [if_pos e]
            refine ⟨hle, fun q => ?_⟩
            rw [if_neg (Nat.ne_of_lt (Nat.lt_trans (half_lt q) (half_lt hk0)))]
            exact up q
          · rw [if_neg e]
            have hs : leI (atI xs ((k - 1) / 2)) (atI xs j) := by
              have := (h j hj hl e).1 (fun q => half_ne hk0 (hpar.symm.trans q))
              rwa [hpar] at this
            refine ⟨hle.trans hs, fun q => ?_⟩
            rw [if_neg (Nat.ne_of_lt (Nat.lt_trans (half_lt q) (half_lt hk0)))]
            exact (up q).trans hs
theorem sdF_perm {ni : It} : ∀ (f : Nat) (xs : List It) (k : Nat), k < xs.length → (sdF ni f xs k).Perm (xs.set k ni)
  | 0, xs, k, _ => List.Perm.refl _
  | f + 1, xs, k, hk => by
    by_cases h0 : k = 0
    · subst h0
      exact List.Perm.refl _
    · have hk0 := Nat.pos_of_ne_zero h0
      have hkq := Nat.lt_trans (half_lt hk0) hk
      have hq := get_atI hkq
      rw [sdF_succ hk0 hq]
      split
      · refine (sdF_perm f _ _ (by rw [List.length_set]; exact hkq)).trans ?_
        have h1 : k < (xs.set k ni).length := by rw [List.length_set]; exact hk
        have h2 : (k - 1) / 2 < (xs.set k ni).length := by rw [List.length_set]; exact hkq
        have := List.set_set_perm h1 h2
        rw [List.getElem_set_self, List.getElem_set_ne (Nat.ne_of_gt (half_lt hk0)), List.set_set] at this
        rw [(List.getElem?_eq_some_iff.mp hq).2] at this
        exact this
      · exact List.Perm.refl _
noncomputable def HDn (xs : List It) (p : Nat) : Prop := ∀ j, 0 < j → j < xs.length → j ≠ p → ((j - 1) / 2 ≠ p → leI (atI xs ((j - 1) / 2)) (atI xs j)) ∧ ((j - 1) / 2 = p → 0 < p → leI (atI xs ((p - 1) / 2)) (atI xs j))
theorem suC_par (xs : List It) (p : Nat) : (suC xs p - 1) / 2 = p := by
  unfold suC
  split
  · split <;> omega
  · omega
theorem suC_min {xs : List It} {p j : Nat} (hj : 0 < j) (hl : j < xs.length) (hp : (j - 1) / 2 = p) : leI (atI xs (suC xs p)) (atI xs j) := by
  have hjj : j = 2 * p + 1 ∨ j = 2 * p + 2 := by omega
  unfold suC
  split
  · rename_i x y h1 h2
    split
    · rename_i hlt
      rw [atI_get h1]
      rcases hjj with e | e
      · rw [e, atI_get h1]; exact leI.refl _
      · rw [e, atI_get h2]; exact leI_of_lt hlt
    · rename_i hlt
      rw [atI_get h2]
      rcases hjj with e | e
      · rw [e, atI_get h1]; exact leI_of_nlt (by simpa using hlt)
      · rw [e, atI_get h2]; exact leI.refl _
  · rename_i hno
    rcases hjj with e | e
    · rw [e]; exact leI.refl _
    · exact absurd (get_atI (k := 2 * p + 2) (by omega)) (hno _ _ (get_atI (k := 2 * p + 1) (by omega)))
theorem suF_heap : ∀ (f : Nat) (xs : List It) (p : Nat), xs.length ≤ f + p → p < xs.length → HDn xs p →
    HDn (suF f xs p).1 (suF f xs p).2 ∧ (suF f xs p).1.length = xs.length ∧ (suF f xs p).2 < xs.length ∧ xs.length ≤ 2 * (suF f xs p).2 + 1
  | 0, xs, p, hf, hp, h => absurd hp (Nat.not_lt.mpr (Nat.zero_add p ▸ hf))
  | f + 1, xs, p, hf, hp, h => by
    by_cases hle : xs.length ≤ 2 * p + 1
    · rw [suF_none hle]
      exact ⟨h, rfl, hp, hle⟩
    · have hc := suC_lt (xs := xs) (p := p) (Nat.not_le.mp hle)
      have hg := suC_gt xs p
      have hpar := suC_par xs p
      rw [suF_succ (get_atI hc)]
      have z := suF_heap f (xs.set p (atI xs (suC xs p))) (suC xs p) (by rw [List.length_set]; omega) (by rw [List.length_set]; exact hc) ?_
      · rw [List.length_set] at z
        exact z
      intro j hj hl hjc
      rw [List.length_set] at hl
      rw [atI_set hp, atI_set hp, atI_set hp]
      constructor
      · intro hpc
        by_cases e : j = p
        · rw [if_pos e, if_neg (fun q => half_ne hj (q.trans e.symm))]
          rw [e]
          exact (h (suC xs p) (Nat.lt_of_le_of_lt (Nat.zero_le _) hg) hc (Nat.ne_of_gt hg)).2 hpar (e ▸ hj)
        · rw [if_neg e]
          by_cases e2 : (j - 1) / 2 = p
          · rw [if_pos e2]
            exact suC_min hj hl e2
          · rw [if_neg e2]
            exact (h j hj hl e).1 e2
      · intro hpc _
        rw [if_pos hpar, if_neg (by omega)]
        have := (h j hj hl (by omega)).1 (by omega)
        rwa [hpc] at this
theorem siftF_heap {x : It} {mid : List It} (h : ∀ j, 0 < j → j < (x :: mid).length → (j - 1) / 2 ≠ 0 → leI (atI (x :: mid) ((j - 1) / 2)) (atI (x :: mid) j)) : HeapP (siftF x (x :: mid)) := by
  obtain ⟨a, b, c, d⟩ := suF_heap (x :: mid).length (x :: mid) 0 (Nat.le_refl _) (Nat.succ_pos _) (fun j hj hl _ => ⟨fun q => h j hj hl q, fun _ q => absurd q (Nat.lt_irrefl _)⟩)
  unfold siftF
  dsimp only
  generalize suF (x :: mid).length (x :: mid) 0 = r at a b c d
  have hr : r.2 < r.1.length := by omega
  refine sdF_heap r.2 _ _ (Nat.le_refl _) (by rw [List.length_set]; exact hr) ?_
  intro j hj hl hjk
  rw [List.length_set] at hl
  rw [atI_set hr, atI_set hr, atI_set hr]
  constructor
  · intro q
    rw [if_neg q, if_neg hjk]
    exact (a j hj hl hjk).1 q
  · intro q
    omega
theorem siftF_perm (x : It) (mid : List It) : (siftF x (x :: mid)).Perm (x :: mid) := by
  have h1 := suF_perm (ni := x) (x :: mid).length (x :: mid) 0 (Nat.succ_pos _)
  unfold siftF
  dsimp only
  have hlen := h1.length_eq
  rw [List.length_set, List.length_set] at hlen
  have hp : (suF (x :: mid).length (x :: mid) 0).2 < (suF (x :: mid).length (x :: mid) 0).1.length := by
    rw [hlen]
    by_cases h : (x :: mid).length ≤ 1
    · rw [suF_none (by omega)]; exact Nat.succ_pos _
    · have : ∀ (f : Nat) (xs : List It) (p : Nat), p < xs.length → (suF f xs p).2 < xs.length := by
        intro f
        induction f with
        | zero => intro xs p hp; exact hp
        | succ f ih =>
          intro xs p hp
          cases hq : xs[suC xs p]? with
          | none =>
            have : suF (f + 1) xs p = (xs, p) := by
              show (match xs[suC xs p]? with | some q => suF f (xs.set p q) (suC xs p) | none => (xs, p)) = _
              rw [hq]
            rw [this]; exact hp
          | some q =>
            rw [suF_succ hq]
            have := ih (xs.set p q) (suC xs p) (by rw [List.length_set]; exact (List.getElem?_eq_some_iff.mp hq).1)
            rwa [List.length_set] at this
      exact this _ _ _ (Nat.succ_pos _)
  refine (sdF_perm _ _ _ (by rw [List.length_set]; exact hp)).trans ?_
  rw [List.set_set]
  exact h1
theorem push_heap {xs : List It} {x : It} (h : HeapP xs) : HeapP (sdF x xs.length (xs ++ [x]) xs.length) ∧ (sdF x xs.length (xs ++ [x]) xs.length).Perm (xs ++ [x]) := by
  have hl : (xs ++ [x]).length = xs.length + 1 := by simp
  constructor
  · refine sdF_heap _ _ _ (Nat.le_refl _) (by omega) ?_
    intro j hj hl2 hjk
    have e1 : ∀ k, k < xs.length → atI (xs ++ [x]) k = atI xs k := fun k hk => by
      unfold atI
      rw [List.getD_eq_getElem?_getD, List.getD_eq_getElem?_getD, List.getElem?_append_left hk]
    refine ⟨fun _ => ?_, fun q => by omega⟩
    rw [e1 j (by omega), e1 _ (by omega)]
    exact h j hj (by omega)
  · have := sdF_perm (ni := x) xs.length (xs ++ [x]) xs.length (by omega)
    rwa [show (xs ++ [x]).set xs.length x = xs ++ [x] by simp] at this
theorem pop_heap {x0 x : It} {mid : List It} (h : HeapP (x0 :: mid ++ [x])) : HeapP (siftF x (x :: mid)) := by
  refine siftF_heap fun j hj hl hp => ?_
  have := h j hj (by simp at hl ⊢; omega)
  have e : ∀ k, 0 < k → k < mid.length + 1 → atI (x :: mid) k = atI (x0 :: mid ++ [x]) k := fun k h0 hk => by
    obtain ⟨k, rfl⟩ : ∃ k', k = k' + 1 := ⟨k - 1, by omega⟩
    unfold atI
    rw [List.getD_eq_getElem?_getD, List.getD_eq_getElem?_getD]
    simp
    rw [List.getElem?_append_left (by omega)]
  rw [List.length_cons] at hl
  rw [e j hj hl, e _ (by omega) (by omega)]
  exact this
theorem top_min {x : It} {xs : List It} (h : HeapP (x :: xs)) : ∀ y ∈ x :: xs, leI x y := by
  have : ∀ n j, j ≤ n → j < (x :: xs).length → leI x (atI (x :: xs) j) := by
    intro n
    induction n with
    | zero =>
      intro j hj hl
      have : j = 0 := by omega
      subst this
      exact leI.refl _
    | succ n ih =>
      intro j hj hl
      by_cases h0 : j = 0
      · subst h0; exact leI.refl _
      · exact (ih ((j - 1) / 2) (by omega) (by omega)).trans (h j (by omega) hl)
  intro y hy
  obtain ⟨j, hj, e⟩ := List.getElem_of_mem hy
  have := this j j (Nat.le_refl _) hj
  rwa [show atI (x :: xs) j = y from atI_get (by rw [List.getElem?_eq_getElem hj, e])] at this

/-- a step of the walk on the names -/
noncomputable def StepRel (a b : List Str) : Prop := a = b ∨ (∃ x, b = a ++ [x]) ∨ (∃ x, a = b ++ [x])
theorem StepRel.take {a b : List Str} {k : Nat} (h : StepRel a b) (ha : k ≤ a.length) (hb : k ≤ b.length) : a.take k = b.take k := by
  rcases h with e | ⟨x, e⟩ | ⟨x, e⟩
  · rw [e]
  · rw [e, List.take_append_of_le_length ha]
  · rw [e, List.take_append_of_le_length hb]
noncomputable def SharedR (R : List (List Str)) (r0 : List Str) (K : Nat) : Prop := K ≤ r0.length ∧ (∀ c ∈ R, c.take K = r0.take K) ∧ ∀ j, K < j → j ≤ r0.length → ¬ ∀ c ∈ R, c.take j = r0.take j
theorem shared_min {R : List (List Str)} {r0 q : List Str} {K : Nat} (h0 : R[0]? = some r0) (hch : ∀ j a b, R[j]? = some a → R[j + 1]? = some b → StepRel a b) (hq : q ∈ R) (hmin : ∀ c ∈ R, q.length ≤ c.length) (hK : SharedR R r0 K) : q.length = K ∧ q = r0.take K := by
  obtain ⟨h1, h2, h3⟩ := hK
  have all : ∀ (j : Nat) (c : List Str), R[j]? = some c → c.take q.length = r0.take q.length := by
    intro j
    induction j with
    | zero => intro c hc; rw [h0] at hc; cases hc; rfl
    | succ j ih =>
      intro c hc
      have hj : j < R.length := by have := (List.getElem?_eq_some_iff.mp hc).1; omega
      obtain ⟨a, ha⟩ : ∃ a, R[j]? = some a := ⟨_, List.getElem?_eq_getElem hj⟩
      rw [← (hch j a c ha hc).take (hmin a (List.mem_of_getElem? ha)) (hmin c (List.mem_of_getElem? hc))]
      exact ih a ha
  have hr0 := hmin r0 (List.mem_of_getElem? h0)
  have hle : q.length ≤ K := by
    refine Nat.le_of_not_lt fun hlt => h3 q.length hlt hr0 fun c hc => ?_
    obtain ⟨j, hj, e⟩ := List.getElem_of_mem hc
    exact all j c (by rw [List.getElem?_eq_getElem hj, e])
  have hqK := h2 q hq
  have hl := congrArg List.length hqK
  rw [List.length_take, List.length_take] at hl
  have hge : K ≤ q.length := by omega
  have heq : q.length = K := by omega
  refine ⟨heq, ?_⟩
  rw [← hqK, List.take_of_length_le (by omega)]
theorem ltL_take : ∀ (K : Nat) (c a : List Str), c.take K = a.take K → K ≤ c.length → K ≤ a.length → ltL c a = ltL (c.drop K) (a.drop K)
  | 0, c, a, _, _, _ => rfl
  | K + 1, [], a, _, h, _ => by simp at h
  | K + 1, _ :: _, [], _, _, h => by simp at h
  | K + 1, x :: c, y :: a, e, h1, h2 => by
    simp only [List.take_succ_cons, List.cons.injEq] at e
    rw [ltL_cons, if_pos e.1, List.drop_succ_cons, List.drop_succ_cons]
    exact ltL_take K c a e.2 (by simpa using h1) (by simpa using h2)
theorem common_shared {R : List (List Str)} {r0 a b : List Str} {K : Nat} (hr0 : r0 ∈ R) (ha : a ∈ R) (hb : b ∈ R) (hab : ∀ c ∈ R, ltL c a = false ∧ ltL b c = false) (hK : SharedR R r0 K) : lcpL a b = r0.take K := by
  obtain ⟨h1, h2, h3⟩ := hK
  have hl : ∀ c ∈ R, K ≤ c.length := fun c hc => by
    have := congrArg List.length (h2 c hc)
    rw [List.length_take, List.length_take] at this
    omega
  rw [← h2 a ha]
  refine lcpL_take a b K (hl a ha) ((h2 a ha).trans (h2 b hb).symm) ?_ (hl b hb)
  by_cases hkl : a.length = K
  · exact .inr hkl
  refine .inl fun heq => ?_
  have hlt : K < a.length := by have := hl a ha; omega
  obtain ⟨v, hv⟩ : ∃ v, a[K]? = some v := ⟨_, List.getElem?_eq_getElem hlt⟩
  have hvb : b[K]? = some v := heq ▸ hv
  have hvb' : K < b.length := (List.getElem?_eq_some_iff.mp hvb).1
  have all : ∀ c ∈ R, c[K]? = some v := fun c hc => by
    obtain ⟨c1, c2⟩ := hab c hc
    rw [ltL_take K c a ((h2 c hc).trans (h2 a ha).symm) (hl c hc) (hl a ha)] at c1
    rw [ltL_take K b c ((h2 b hb).trans (h2 c hc).symm) (hl b hb) (hl c hc)] at c2
    cases hu : c[K]? with
    | none =>
      have hcl : c.length ≤ K := List.getElem?_eq_none_iff.mp hu
      rw [List.drop_eq_nil_of_le hcl, List.drop_eq_getElem_cons hlt] at c1
      cases c1
    | some u =>
      rw [ltL_drop hu hv] at c1
      rw [ltL_drop hvb hu] at c2
      by_cases e : u = v
      · rw [e]
      · rw [if_neg e] at c1
        rw [if_neg (Ne.symm e)] at c2
        exact absurd (ltS_total c1 c2) e
  have hr := all r0 hr0
  refine h3 (K + 1) (Nat.lt_succ_self _) (List.getElem?_eq_some_iff.mp hr).1 fun c hc => ?_
  rw [List.take_add_one, List.take_add_one, h2 c hc, all c hc, hr]
theorem isShared_R {rs : List (Addr × List (Str × Tok))} {K : Nat} (h : IsShared rs K) : SharedR (rs.map fun r => r.2.map (·.1)) ((rs.headD default).2.map (·.1)) K := by
  obtain ⟨h1, h2, h3⟩ := h
  refine ⟨by rw [List.length_map]; exact h1, fun c hc => ?_, fun j hj hl hall => ?_⟩
  · obtain ⟨x, hx, rfl⟩ := List.mem_map.mp hc
    exact h2 x hx
  · rw [List.length_map] at hl
    exact h3 j hj hl fun x hx => hall _ (List.mem_map.mpr ⟨x, hx, rfl⟩)

noncomputable abbrev slS : Str := Str.ofString "/"
theorem str_ext {x y : Str} (h : x.cps.toList = y.cps.toList) : x = y := by
  cases x; cases y
  simp only [Str.mk.injEq]
  exact Array.toList_inj.mp h
theorem cl_app (x y : Str) : (x ++ y).cps.toList = x.cps.toList ++ y.cps.toList := by
  show (x.cps ++ y.cps).toList = _
  rw [Array.toList_append]
theorem sl_eq : slS = ⟨#[47]⟩ := by decide
theorem sl_cl : slS.cps.toList = [47] := by decide
theorem nil_cl : (Str.ofString "").cps.toList = [] := by decide
noncomputable def FreeS (x : Str) : Prop := 47 ∉ x.cps.toList
theorem len_cl (x : Str) : x.length = x.cps.toList.length := by show x.cps.size = _; simp
theorem app_assoc (x y z : Str) : x ++ y ++ z = x ++ (y ++ z) := str_ext (by simp only [cl_app, List.append_assoc])
theorem app_nil (x : Str) : x ++ Str.ofString "" = x := str_ext (by rw [cl_app, nil_cl, List.append_nil])
theorem nil_app (x : Str) : Str.ofString "" ++ x = x := str_ext (by rw [cl_app, nil_cl]; rfl)
theorem starts_iff (y : Str) : Txt.startswith y slS = true ↔ y.cps.toList[0]? = some 47 := by
  rw [← StrLaws.subAt_one, sl_eq]
  unfold Txt.startswith
  rw [Bool.and_eq_true, decide_eq_true_eq]
theorem ends_iff (y : Str) : Txt.endswith y slS = true ↔ (1 ≤ y.length ∧ y.cps.toList[y.length - 1]? = some 47) := by
  rw [← StrLaws.subAt_one, sl_eq]
  unfold Txt.endswith
  rw [Bool.and_eq_true, decide_eq_true_eq]
  have e : (⟨#[47]⟩ : Str).length = 1 := rfl
  rw [e]
  constructor
  · rintro ⟨a, b⟩; exact ⟨by omega, by omega, b⟩
  · rintro ⟨a, _, b⟩; exact ⟨by omega, b⟩
theorem slice_one (w : Str) : Txt.slice (slS ++ w) (some 1) none = w := by
  have h := eq_of_beq (slice_closes_from (x := slS ++ w) (i := 1) ⟨by decide, by rw [cl_app, sl_cl]; simp; omega⟩)
  rw [h]
  refine str_ext ?_
  rw [cl_app, sl_cl]
  simp
  exact List.take_of_length_le (by simp)
theorem list_cut : ∀ {x y X Y : List Nat}, 47 ∉ x → 47 ∉ y → x ++ 47 :: X = y ++ 47 :: Y → x = y ∧ X = Y
  | [], [], _, _, _, _, h => ⟨rfl, (List.cons.inj h).2⟩
  | [], b :: y, _, _, _, hy, h => by
    have := (List.cons.inj h).1
    exact absurd (this ▸ List.Mem.head _) hy
  | a :: x, [], _, _, hx, _, h => by
    have := (List.cons.inj h).1
    exact absurd (this ▸ List.Mem.head _) hx
  | a :: x, b :: y, _, _, hx, hy, h => by
    have h' := List.cons.inj h
    obtain ⟨e1, e2⟩ := list_cut (fun q => hx (.tail _ q)) (fun q => hy (.tail _ q)) h'.2
    exact ⟨by rw [h'.1, e1], e2⟩
theorem join_cons2 (sep x y : Str) (r : List Str) : Str.join sep (x :: y :: r) = x ++ sep ++ Str.join sep (y :: r) := rfl
theorem join_inj : ∀ ps qs : List Str, ps ≠ [] → qs ≠ [] → (∀ p ∈ ps, FreeS p) → (∀ q ∈ qs, FreeS q) → Str.join slS ps = Str.join slS qs → ps = qs
  | [], _, h, _, _, _, _ => absurd rfl h
  | _, [], _, h, _, _, _ => absurd rfl h
  | [x], [y], _, _, _, _, h => by rw [show x = y from h]
  | [x], y :: z :: r, _, _, hp, _, h => by
    have e := congrArg (fun s : Str => s.cps.toList) h
    rw [join_cons2, show Str.join slS [x] = x from rfl] at e
    simp only [cl_app, sl_cl] at e
    exact absurd (by rw [e]; simp) (hp x (.head _))
  | x :: z :: r, [y], _, _, _, hq, h => by
    have e := congrArg (fun s : Str => s.cps.toList) h
    rw [join_cons2, show Str.join slS [y] = y from rfl] at e
    simp only [cl_app, sl_cl] at e
    exact absurd (by rw [← e]; simp) (hq y (.head _))
  | x :: z :: r, y :: u :: t, _, _, hp, hq, h => by
    have e := congrArg (fun s : Str => s.cps.toList) h
    rw [join_cons2, join_cons2] at e
    simp only [cl_app, sl_cl, List.append_assoc, List.singleton_append] at e
    obtain ⟨e1, e2⟩ := list_cut (hp x (.head _)) (hq y (.head _)) e
    rw [str_ext e1, join_inj (z :: r) (u :: t) (by simp) (by simp) (fun p hp' => hp p (.tail _ hp')) (fun q hq' => hq q (.tail _ hq')) (str_ext e2)]
theorem join_eq (ys : List Str) : Txt.join slS ys = Str.join slS ys := eq_of_beq (join_closes rfl)
theorem joinE_eq (ys : List Str) : Txt.join (Str.ofString "") ys = Str.join (Str.ofString "") ys := eq_of_beq (join_closes rfl)
theorem split_ne (x : Str) : Txt.split x slS ≠ [] := fun h => by
  have := split_pos x slS
  rw [h] at this
  exact absurd this (by decide)
theorem split_fr (x : Str) : ∀ p ∈ Txt.split x slS, FreeS p := by
  rw [sl_eq]
  exact StrLaws.split_free x 47
theorem split_join {ps : List Str} (hn : ps ≠ []) (hf : ∀ p ∈ ps, FreeS p) : Txt.split (Txt.join slS ps) slS = ps := by
  refine join_inj _ _ (split_ne _) hn (split_fr _) hf ?_
  rw [StrLaws.join_split, join_eq]
theorem join_app : ∀ ps qs : List Str, ps ≠ [] → qs ≠ [] → Str.join slS (ps ++ qs) = Str.join slS ps ++ (slS ++ Str.join slS qs)
  | [], _, h, _ => absurd rfl h
  | [x], [], _, h => absurd rfl h
  | [x], q :: qs, _, _ => by
    show x ++ slS ++ _ = x ++ (slS ++ _)
    rw [app_assoc]; rfl
  | x :: y :: r, qs, _, h => by
    show x ++ slS ++ Str.join slS (y :: r ++ qs) = _
    rw [join_app (y :: r) qs (by simp) h, join_cons2, app_assoc, app_assoc, app_assoc]
theorem split_app (u v : Str) : Txt.split (u ++ (slS ++ v)) slS = Txt.split u slS ++ Txt.split v slS := by
  refine join_inj _ _ (split_ne _) (by intro h; exact split_ne u (List.append_eq_nil_iff.mp h).1) (split_fr _) (fun p hp => (List.mem_append.mp hp).elim (split_fr u p) (split_fr v p)) ?_
  rw [join_app _ _ (split_ne _) (split_ne _)]
  rw [StrLaws.join_split, StrLaws.join_split, StrLaws.join_split]
theorem split_nil : Txt.split (Str.ofString "") slS = [Str.ofString ""] := by decide +kernel
/-- what may stand behind the first slash -/
noncomputable def RootW (w : List Nat) : Prop := w = [] ∨ (∃ c r, w = c :: r ∧ c ≠ 47) ∨ ∃ r, w = 47 :: 47 :: r
theorem rooted_of {w : Str} (h : RootW w.cps.toList) : Rooted (slS ++ w) := by
  have hc : (slS ++ w).cps.toList = 47 :: w.cps.toList := by rw [cl_app, sl_cl]; rfl
  refine ⟨?_, ?_⟩
  · have e := eq_of_beq (slice_closes_to (x := slS ++ w) (j := 1) ⟨by decide, by rw [hc]; simp; omega⟩)
    rw [e, hc]
    show ((⟨(47 :: List.take 0 w.cps.toList).toArray⟩ : Str) != slS) = false
    rw [sl_eq]; rfl
  · rcases h with h | ⟨c, r, h, hne⟩ | ⟨r, h⟩
    · left
      have : slS ++ w = slS := str_ext (by rw [hc, h]; rfl)
      rw [this]
      decide +kernel
    · left
      have e := eq_of_beq (slice_closes (x := slS ++ w) (i := 1) (j := 2) ⟨by decide, by decide, by rw [hc, h]; simp; omega⟩)
      rw [e, hc, h]
      show ((⟨[c].toArray⟩ : Str) != slS) = true
      rw [sl_eq]
      simp [bne]
      intro q
      exact hne (by simpa using q)
    · right
      have e := eq_of_beq (slice_closes (x := slS ++ w) (i := 2) (j := 3) ⟨by decide, by decide, by rw [hc, h]; simp; omega⟩)
      rw [e, hc, h]
      show ((⟨[47].toArray⟩ : Str) == slS) = true
      rw [sl_eq]; rfl

/-- a way from the root, and where it leads -/
noncomputable def Way (way : Str) (ns : List Str) : Prop := ∃ w, way = slS ++ w ∧ RootW w.cps.toList ∧ normFold (Txt.split w slS) = ns
theorem Way.rooted {way : Str} {ns : List Str} (h : Way way ns) : Rooted way := by
  obtain ⟨w, rfl, hw, _⟩ := h
  exact rooted_of hw
theorem Way.norm {way : Str} {ns : List Str} (h : Way way ns) : normF way = slS ++ Txt.join slS ns := by
  obtain ⟨w, rfl, _, hn⟩ := h
  unfold normF
  rw [slice_one, hn]
theorem normStep_nil (acc : List Str) : normStep acc (Str.ofString "") = acc := norm_skip1 (by decide)
theorem normFold_app (a b : List Str) : normFold (a ++ b) = b.foldl normStep (normFold a) := by unfold normFold; rw [List.foldl_append]
theorem Way.join {way x : Str} {ns : List Str} (h : Way way ns) (hx : Txt.startswith x slS = false) : Way (joinF way x) ((Txt.split x slS).foldl normStep ns) ∧ (joinF way x).length ≤ way.length + 1 + x.length := by
  obtain ⟨w, rfl, hw, hn⟩ := h
  have hc : (slS ++ w).cps.toList = 47 :: w.cps.toList := by rw [cl_app, sl_cl]; rfl
  have hl : (slS ++ w).length = w.length + 1 := by rw [len_cl, hc, len_cl]; rfl
  have hl0 : ¬ ((slS ++ w).length : Int) = 0 := by omega
  have hx0 : x.cps.toList[0]? ≠ some 47 := fun q => by
    have := (starts_iff x).mpr q
    rw [hx] at this; cases this
  have hRW : ∀ t : List Nat, (w.cps.toList = [] → RootW t) → RootW (w.cps.toList ++ t) := fun t ht => by
    rcases hw with h | ⟨c, r, h, hne⟩ | ⟨r, h⟩
    · rw [h]; exact ht h
    · rw [h]; exact .inr (.inl ⟨c, r ++ t, rfl, hne⟩)
    · rw [h]; exact .inr (.inr ⟨r ++ t, rfl⟩)
  have hRx : RootW x.cps.toList := by
    cases e : x.cps.toList with
    | nil => exact .inl rfl
    | cons c r =>
      rw [e] at hx0
      exact .inr (.inl ⟨c, r, rfl, fun q => hx0 (by rw [q]; rfl)⟩)
  unfold joinF
  rw [if_neg (by rw [hx]; exact Bool.false_ne_true), if_neg hl0]
  by_cases he : Txt.endswith (slS ++ w) slS = true
  · rw [if_pos he]
    refine ⟨⟨w ++ x, app_assoc _ _ _, by rw [cl_app]; exact hRW _ fun _ => hRx, ?_⟩, by rw [Str.length_append]; omega⟩
    obtain ⟨_, he2⟩ := (ends_iff _).mp he
    rw [hl, hc] at he2
    by_cases h0 : w.cps.toList = []
    · have hw0 : w = Str.ofString "" := str_ext (by rw [h0, nil_cl])
      subst hw0
      rw [nil_app]
      rw [split_nil] at hn
      rw [← hn]
      unfold normFold
      rw [List.foldl_cons, List.foldl_nil, normStep_nil]
    · obtain ⟨u, hu⟩ : ∃ u : List Nat, w.cps.toList = u ++ [47] := by
        have hlen : w.length = w.cps.toList.length := len_cl w
        have hpos : 0 < w.cps.toList.length := List.length_pos_iff.mpr h0
        refine ⟨w.cps.toList.dropLast, ?_⟩
        have hlast : w.cps.toList[w.cps.toList.length - 1]? = some 47 := by
          rw [show w.length + 1 - 1 = w.cps.toList.length - 1 + 1 by omega, List.getElem?_cons_succ] at he2
          exact he2
        have h1 := List.dropLast_concat_getLast h0
        have h2 : w.cps.toList.getLast h0 = 47 := by
          rw [List.getLast_eq_getElem]
          exact (List.getElem?_eq_some_iff.mp hlast).2
        rw [h2] at h1
        exact h1.symm
      have hwu : w = (⟨u.toArray⟩ : Str) ++ (slS ++ Str.ofString "") := str_ext (by rw [cl_app, cl_app, sl_cl, nil_cl, hu]; simp)
      have e1 : w ++ x = (⟨u.toArray⟩ : Str) ++ (slS ++ x) := str_ext (by rw [cl_app, cl_app, cl_app, sl_cl, hu]; simp)
      rw [e1, split_app, normFold_app]
      congr 1
      rw [← hn]
      conv => rhs; rw [hwu, split_app, split_nil, normFold_app]
      rw [List.foldl_cons, List.foldl_nil, normStep_nil]
  · rw [if_neg he]
    have h1 : (Str.ofString "/").length = 1 := by decide
    have h2 : (Str.ofString "/" ++ x).length = 1 + x.length := by rw [Str.length_append, h1]
    refine ⟨⟨w ++ (slS ++ x), app_assoc _ _ _, ?_, ?_⟩, by rw [Str.length_append, h2]; omega⟩
    · rw [cl_app]
      refine hRW _ fun h0 => ?_
      exfalso
      refine he ((ends_iff _).mpr ⟨by omega, ?_⟩)
      rw [hl, hc]
      have : w.length = 0 := by rw [len_cl, h0]; rfl
      rw [this]; rfl
    · rw [split_app, normFold_app, hn]
/-- a name of the walk -/
noncomputable def GoodN (x : Str) : Prop := FreeS x ∧ (x.length : Int) ≠ 0 ∧ (x == Str.ofString ".") = false ∧ (x != Str.ofString "..") = true
theorem fold_good : ∀ (B acc : List Str), (∀ x ∈ B, GoodN x) → B.foldl normStep acc = acc ++ B
  | [], acc, _ => by rw [List.foldl_nil, List.append_nil]
  | x :: B, acc, h => by
    obtain ⟨_, h1, h2, h3⟩ := h x (.head _)
    rw [List.foldl_cons, norm_push h1 h2 h3, fold_good B _ fun y hy => h y (.tail _ hy), List.append_assoc]
    rfl
theorem join_nilE : Txt.join slS [] = Str.ofString "" := by decide +kernel
theorem split_joinG {A : List Str} (h : ∀ x ∈ A, GoodN x) (acc : List Str) : (Txt.split (Txt.join slS A) slS).foldl normStep acc = acc ++ A := by
  by_cases hA : A = []
  · subst hA
    rw [join_nilE, split_nil, List.foldl_cons, List.foldl_nil, normStep_nil, List.append_nil]
  · rw [split_join hA fun p hp => (h p hp).1]
    exact fold_good A acc h
theorem join_root {A : List Str} (h : ∀ x ∈ A, GoodN x) : Txt.startswith (Txt.join slS A) slS = false ∧ RootW (Txt.join slS A).cps.toList := by
  have key : (Txt.join slS A).cps.toList = [] ∨ ∃ c r, (Txt.join slS A).cps.toList = c :: r ∧ c ≠ 47 := by
    cases A with
    | nil => left; rw [join_nilE, nil_cl]
    | cons a r =>
      right
      obtain ⟨hf, hl, _, _⟩ := h a (.head _)
      rw [join_eq]
      cases e : a.cps.toList with
      | nil => exact absurd (by rw [len_cl, e]; rfl) hl
      | cons c t =>
        have hc : c ≠ 47 := fun q => hf (by rw [e, q]; exact .head _)
        cases r with
        | nil => exact ⟨c, t, e, hc⟩
        | cons b r =>
          rw [join_cons2, cl_app, cl_app, e]
          exact ⟨c, _, rfl, hc⟩
  constructor
  · cases hs : Txt.startswith (Txt.join slS A) slS with
    | false => rfl
    | true =>
      have := (starts_iff _).mp hs
      rcases key with k | ⟨c, r, k, hc⟩
      · rw [k] at this; cases this
      · rw [k] at this; exact absurd (Option.some.inj this) hc
  · rcases key with k | ⟨c, r, k, hc⟩
    · exact .inl k
    · exact .inr (.inl ⟨c, r, k, hc⟩)
theorem joinE_cons (x : Str) (r : List Str) : Str.join (Str.ofString "") (x :: r) = x ++ Str.join (Str.ofString "") r := by
  cases r with
  | nil => exact (app_nil x).symm
  | cons y r =>
    show x ++ Str.ofString "" ++ _ = _
    rw [app_nil]
theorem slashF_cons (a : Str) (r : List Str) : slashF (a :: r) = slS ++ a ++ slashF r := by
  unfold slashF
  rw [joinE_eq, joinE_eq, List.map_cons, joinE_cons]
theorem slashF_nil : slashF [] = Str.ofString "" := by decide +kernel
theorem slashF_ne : ∀ (A : List Str), A ≠ [] → slashF A = slS ++ Txt.join slS A
  | [], h => absurd rfl h
  | [a], _ => by
    rw [slashF_cons, slashF_nil, app_nil, join_eq]
    rfl
  | a :: b :: r, _ => by
    rw [slashF_cons, slashF_ne (b :: r) (by simp), join_eq, join_eq, join_cons2]
    rw [app_assoc, app_assoc]
theorem orRoot_slash (A : List Str) : orRoot (slashF A) = slS ++ Txt.join slS A := by
  cases A with
  | nil => decide +kernel
  | cons a r =>
    rw [slashF_ne _ (by simp)]
    unfold orRoot
    rw [if_neg]
    rw [Str.length_append]
    have : slS.length = 1 := by decide
    omega
theorem way_place {A : List Str} (h : ∀ x ∈ A, GoodN x) : Way (slS ++ Txt.join slS A) A := by
  refine ⟨_, rfl, (join_root h).2, ?_⟩
  have := split_joinG h []
  rwa [List.nil_append] at this
/-- the names from a depth on, joined to the folder's place -/
theorem way_rest {A B : List Str} (hA : ∀ x ∈ A, GoodN x) (hB : ∀ x ∈ B, GoodN x) :
    Txt.slice (slashF B) (some 1) none = Txt.join slS B ∧ Way (joinF (slS ++ Txt.join slS A) (Txt.join slS B)) (A ++ B) ∧ (joinF (slS ++ Txt.join slS A) (Txt.join slS B)).length ≤ (slS ++ Txt.join slS A).length + 1 + (Txt.join slS B).length := by
  have h1 := (way_place hA).join (join_root hB).1
  rw [split_joinG hB] at h1
  refine ⟨?_, h1⟩
  by_cases e : B = []
  · subst e; decide +kernel
  · rw [slashF_ne B e, slice_one]
theorem keep_good {x : Str} (h : GoodN x) : keepC x = true := by
  obtain ⟨_, h1, h2, _⟩ := h
  unfold keepC
  rw [Bool.and_eq_true]
  refine ⟨by simp only [bne_iff_ne]; exact h1, ?_⟩
  rw [bne, h2]; rfl
theorem parts_place {A : List Str} (h : ∀ x ∈ A, GoodN x) : (Txt.split (slS ++ Txt.join slS A) slS).filter keepC = A := by
  have e : slS ++ Txt.join slS A = Str.ofString "" ++ (slS ++ Txt.join slS A) := (nil_app _).symm
  rw [e, split_app, split_nil, List.filter_append]
  have e2 : ([Str.ofString ""] : List Str).filter keepC = [] := by decide +kernel
  rw [e2, List.nil_append]
  by_cases hA : A = []
  · subst hA
    rw [join_nilE, split_nil]; exact e2
  · rw [split_join hA fun p hp => (h p hp).1]
    exact List.filter_eq_self.mpr fun x hx => keep_good (h x hx)
theorem starts_place (A : List Str) : Txt.startswith (slS ++ Txt.join slS A) slS = true := (starts_iff _).mpr (by rw [cl_app, sl_cl]; rfl)

noncomputable abbrev txs (r : Addr × List (Str × Tok)) : List Str := r.2.map (·.1)
noncomputable def NameOk (x : Str × Tok) : Prop := GoodN x.1 ∧ x.1.length ≤ 2 ∧ PyData.strOk x.1 = true
/-- what holds of the rows and the heap, the newest step's number being n; lo is the least number that the heap must have -/
structure Core (lo n : Nat) (rs : List (Addr × List (Str × Tok))) (pl : List (Str × Tok)) (xs : List It) : Prop where
  hn : n ≤ 50
  rlen : rs.length = n
  places : pl.map (·.1) = rs.map fun r => orRoot (slashF (txs r))
  rgood : ∀ r ∈ rs, r.2.length ≤ 30 ∧ ∀ x ∈ r.2, NameOk x
  chain : ∀ j a b, (rs.map txs)[j]? = some a → (rs.map txs)[j + 1]? = some b → StepRel a b
  heap : HeapP xs
  idx : ∀ y ∈ xs, ∃ j r, y.2.2 = ((j : Nat) : Int) ∧ rs[j]? = some r ∧ y.2.1 = ((r.2.length : Nat) : Int)
  nodup : Dist xs
  win : ∀ j, lo ≤ j → j < n → ∃ y ∈ xs, y.2.2 = ((j : Nat) : Int)
  xlen : xs.length ≤ n
theorem Core.plen {lo n : Nat} {rs : List (Addr × List (Str × Tok))} {pl : List (Str × Tok)} {xs : List It} (C : Core lo n rs pl xs) : pl.length = n := by
  have := congrArg List.length C.places
  rw [List.length_map, List.length_map, C.rlen] at this
  exact this
theorem Core.fresh {lo n : Nat} {rs : List (Addr × List (Str × Tok))} {pl : List (Str × Tok)} {xs : List It} (C : Core lo n rs pl xs) : (xs.map (fun x => x.2.2) ++ [((n : Nat) : Int)]).Nodup := by
  refine List.nodup_append.mpr ⟨C.nodup, by simp, fun a ha b hb => ?_⟩
  obtain ⟨y, hy, rfl⟩ := List.mem_map.mp ha
  obtain ⟨j, r, e1, e2, _⟩ := C.idx y hy
  have := (List.getElem?_eq_some_iff.mp e2).1
  have h := C.rlen
  rw [List.mem_singleton.mp hb, e1]
  omega
theorem Core.push {lo n : Nat} {rs : List (Addr × List (Str × Tok))} {pl : List (Str × Tok)} {xs : List It} {na D : Addr} {ns : List (Str × Tok)} {pt : Tok} (C : Core lo n rs pl xs) (hn : n + 1 ≤ 50) (hg : ∀ x ∈ ns, NameOk x) (hl : ns.length ≤ 30)
    (hs : ∀ r, rs.getLast? = some r → StepRel (txs r) (ns.map (·.1))) :
    Core lo (n + 1) (rs ++ [(na, ns)]) (pl ++ [(orRoot (slashF (ns.map (·.1))), pt)]) (sdF (D, (ns.length : Int), (n : Int)) xs.length (xs ++ [(D, (ns.length : Int), (n : Int))]) xs.length) := by
  obtain ⟨hp1, hp2⟩ := push_heap (x := (D, (ns.length : Int), (n : Int))) C.heap
  have hrl := C.rlen
  refine ⟨hn, by rw [List.length_append, hrl]; rfl, by rw [List.map_append, List.map_append, C.places]; rfl, fun r hr => ?_, fun j a b ha hb => ?_, hp1, fun y hy => ?_, ?_, fun j hj hjn => ?_, ?_⟩
  · rcases List.mem_append.mp hr with h | h
    · exact C.rgood r h
    · rw [List.mem_singleton.mp h]; exact ⟨hl, hg⟩
  · rw [List.map_append] at ha hb
    have hbl := (List.getElem?_eq_some_iff.mp hb).1
    rw [List.length_append, List.length_map, hrl] at hbl
    rw [List.getElem?_append_left (by rw [List.length_map, hrl]; have : ([(na, ns)].map txs).length = 1 := rfl; omega)] at ha
    by_cases h : j + 1 < n
    · rw [List.getElem?_append_left (by rw [List.length_map, hrl]; exact h)] at hb
      exact C.chain j a b ha hb
    · have hj : j + 1 = n := by have : ([(na, ns)].map txs).length = 1 := rfl; omega
      rw [List.getElem?_append_right (by rw [List.length_map, hrl]; omega), List.length_map, hrl, hj, Nat.sub_self] at hb
      have hb' : ns.map (·.1) = b := Option.some.inj hb
      rw [← hb']
      rw [List.getElem?_map] at ha
      cases hr : rs[j]? with
      | none => rw [hr] at ha; cases ha
      | some r =>
        rw [hr] at ha
        rw [← (Option.some.inj ha : txs r = a)]
        refine hs r ?_
        rw [List.getLast?_eq_getElem?, hrl, show n - 1 = j by omega, hr]
  · have hy' := hp2.mem_iff.mp hy
    rcases List.mem_append.mp hy' with h | h
    · obtain ⟨j, r, e1, e2, e3⟩ := C.idx y h
      exact ⟨j, r, e1, by rw [List.getElem?_append_left (List.getElem?_eq_some_iff.mp e2).1]; exact e2, e3⟩
    · rw [List.mem_singleton.mp h]
      exact ⟨n, (na, ns), rfl, by rw [List.getElem?_append_right (by omega), hrl, Nat.sub_self]; rfl, rfl⟩
  · refine Dist.perm ?_ hp2.symm
    unfold Dist
    rw [List.map_append]
    exact C.fresh
  · by_cases h : j < n
    · obtain ⟨y, hy, e⟩ := C.win j hj h
      exact ⟨y, hp2.mem_iff.mpr (List.mem_append_left _ hy), e⟩
    · exact ⟨_, hp2.mem_iff.mpr (List.mem_append_right _ (.head _)), by show (n : Int) = _; omega⟩
  · rw [hp2.length_eq, List.length_append]
    have := C.xlen
    show _ + 1 ≤ _
    omega
theorem Core.pop {lo n : Nat} {rs : List (Addr × List (Str × Tok))} {pl : List (Str × Tok)} {x0 x : It} {mid : List It} (C : Core lo n rs pl (x0 :: mid ++ [x])) (h : x0.2.2 < (lo : Int)) :
    Core lo n rs pl (siftF x (x :: mid)) ∧ (siftF x (x :: mid)).length < (x0 :: mid ++ [x]).length := by
  have hp := siftF_perm x mid
  have hsub : ∀ y, y ∈ siftF x (x :: mid) ↔ y ∈ mid ++ [x] := fun y => by
    rw [hp.mem_iff]
    simp only [List.mem_cons, List.mem_append, List.not_mem_nil, or_false]
    exact Or.comm
  have hlen : (siftF x (x :: mid)).length = mid.length + 1 := hp.length_eq
  have hl2 : (x0 :: mid ++ [x]).length = mid.length + 2 := by simp
  refine ⟨⟨C.hn, C.rlen, C.places, C.rgood, C.chain, pop_heap C.heap, fun y hy => C.idx y (.tail _ ((hsub y).mp hy)), ?_, fun j hj hjn => ?_, by have := C.xlen; omega⟩, by omega⟩
  · have h1 : Dist (mid ++ [x]) := (List.nodup_cons.mp C.nodup).2
    exact h1.perm ((List.perm_append_singleton x mid).trans hp.symm)
  · obtain ⟨y, hy, e⟩ := C.win j hj hjn
    rcases List.mem_cons.mp hy with q | q
    · rw [q] at e; omega
    · exact ⟨y, (hsub y).mpr q, e⟩
theorem Core.anyI {lo n : Nat} {rs : List (Addr × List (Str × Tok))} {pl : List (Str × Tok)} {xs : List It} (C : Core lo n rs pl xs) (hl : lo < n) : xs ≠ [] ∧ ∀ y, xs = [y] → ¬ y.2.2 < (lo : Int) := by
  obtain ⟨y, hy, e⟩ := C.win lo (Nat.le_refl _) hl
  refine ⟨fun q => (by rw [q] at hy; cases hy), fun x q h => ?_⟩
  rw [q] at hy
  rw [List.mem_singleton.mp hy] at e
  omega
theorem Core.up {lo lo' n : Nat} {rs : List (Addr × List (Str × Tok))} {pl : List (Str × Tok)} {xs : List It} (C : Core lo n rs pl xs) (h : lo ≤ lo') : Core lo' n rs pl xs :=
  ⟨C.hn, C.rlen, C.places, C.rgood, C.chain, C.heap, C.idx, C.nodup, fun j hj hn => C.win j (Nat.le_trans h hj) hn, C.xlen⟩
theorem getD_fst (pl : List (Str × Tok)) (j : Nat) (p : Str) (h : (pl.map (·.1))[j]? = some p) : (pl.getD j default).1 = p := by
  rw [List.getElem?_map] at h
  rw [List.getD_eq_getElem?_getD]
  cases q : pl[j]? with
  | none => rw [q] at h; cases h
  | some x => rw [q] at h; exact Option.some.inj h
theorem Core.plain {lo n zn : Nat} {rs : List (Addr × List (Str × Tok))} {pl : List (Str × Tok)} {y : It} {ys : List It} (C : Core lo n rs pl (y :: ys)) (hlo : lo = n - zn) (hl : lo < n) (hy : ¬ y.2.2 < (lo : Int)) :
    ∀ K, IsShared (rs.drop (rs.length - zn)) K → y.2.1 = (K : Int) ∧ (pl.getD y.2.2.toNat default).1 = orRoot (slashF ((((rs.drop (rs.length - zn)).headD default).2.take K).map (·.1))) ∧
      (∀ c, IsCommon (pl.drop (pl.length - zn)) c → c = orRoot (slashF ((((rs.drop (rs.length - zn)).headD default).2.take K).map (·.1)))) ∧
      ∃ j r, y.2.2 = ((j : Nat) : Int) ∧ rs[j]? = some r ∧ txs r = (((rs.drop (rs.length - zn)).headD default).2.take K).map (·.1) := by
  intro K hK
  have hR := isShared_R hK
  rw [C.rlen, ← hlo] at hR ⊢
  rw [C.plen, ← hlo]
  have hrl := C.rlen
  obtain ⟨r0, hr0⟩ : ∃ r0, rs[lo]? = some r0 := ⟨_, List.getElem?_eq_getElem (by omega)⟩
  have hhd : (rs.drop lo).headD default = r0 := by
    rw [List.headD_eq_head?_getD, List.head?_drop, hr0]; rfl
  rw [hhd] at hR ⊢
  have hget : ∀ j, ((rs.drop lo).map fun r => txs r)[j]? = (rs.map txs)[lo + j]? := fun j => by
    rw [List.getElem?_map, List.getElem?_drop, List.getElem?_map]
  obtain ⟨j, r, e1, e2, e3⟩ := C.idx y (.head _)
  have hjn : j < n := by have := (List.getElem?_eq_some_iff.mp e2).1; omega
  have hjl : lo ≤ j := by omega
  have hq : txs r ∈ (rs.drop lo).map fun r => txs r := by
    refine List.mem_of_getElem? (i := j - lo) ?_
    rw [hget, show lo + (j - lo) = j by omega, List.getElem?_map, e2]; rfl
  have hmin : ∀ c ∈ (rs.drop lo).map fun r => txs r, (txs r).length ≤ c.length := fun c hc => by
    obtain ⟨k, hk, ek⟩ := List.getElem_of_mem hc
    have hk' : ((rs.drop lo).map fun r => txs r)[k]? = some c := by rw [List.getElem?_eq_getElem hk, ek]
    rw [hget, List.getElem?_map] at hk'
    cases hrk : rs[lo + k]? with
    | none => rw [hrk] at hk'; cases hk'
    | some rk =>
      rw [hrk] at hk'
      rw [← (Option.some.inj hk' : txs rk = c)]
      have hkn : lo + k < n := by have := (List.getElem?_eq_some_iff.mp hrk).1; omega
      obtain ⟨y', hy', e'⟩ := C.win (lo + k) (Nat.le_add_right _ _) hkn
      obtain ⟨j', r', f1, f2, f3⟩ := C.idx y' hy'
      have : j' = lo + k := by omega
      rw [this, hrk] at f2
      have f2' := Option.some.inj f2
      have hle := top_min C.heap y' hy'
      unfold leI at hle
      rw [List.length_map, List.length_map, f2']
      omega
  obtain ⟨m1, m2⟩ := shared_min (r0 := txs r0) (by rw [hget, Nat.add_zero, List.getElem?_map, hr0]; rfl) (fun j a b ha hb => C.chain (lo + j) a b (by rw [← hget]; exact ha) (by rw [Nat.add_assoc, ← hget]; exact hb)) hq hmin hR
  have etk : (r0.2.take K).map (·.1) = txs r := by rw [m2, List.map_take]
  rw [etk]
  refine ⟨by rw [e3]; rw [List.length_map] at m1; omega, ?_, fun c hc => ?_, j, r, e1, e2, rfl⟩
  · refine getD_fst pl _ _ ?_
    rw [C.places, e1, Int.toNat_natCast, List.getElem?_map, e2]; rfl
  · obtain ⟨a, b, ha, hb, hcc, rfl⟩ := hc
    have hCs : ((pl.drop lo).map fun p => (Txt.split p.1 slS).filter keepC) = (rs.drop lo).map fun r => txs r := by
      have h1 : ((pl.drop lo).map fun p => (Txt.split p.1 slS).filter keepC) = ((pl.map (·.1)).drop lo).map fun p => (Txt.split p slS).filter keepC := by rw [← List.map_drop, List.map_map]; rfl
      rw [h1, C.places, ← List.map_drop, List.map_map]
      refine List.map_congr_left fun r hr => ?_
      show (Txt.split (orRoot (slashF (txs r))) slS).filter keepC = txs r
      rw [orRoot_slash]
      exact parts_place fun x hx => by
        obtain ⟨q, hq, rfl⟩ := List.mem_map.mp hx
        exact ((C.rgood r (List.mem_of_mem_drop hr)).2 q hq).1
    rw [hCs] at ha hb hcc
    rw [common_shared (r0 := txs r0) (List.mem_of_getElem? (i := 0) (by rw [hget, Nat.add_zero, List.getElem?_map, hr0]; rfl)) ha hb hcc hR, orRoot_slash, ← m2]

/-- the accumulator holds the names, each behind a slash -/
noncomputable def AccOk (l : List Pr) (ns : List (Str × Tok)) : Prop := l.map (fun x => (x.2.1.1, x.2.2.1)) = ns.map fun x => (Str.ofString "/", x.1)
theorem AccOk.len {l : List Pr} {ns : List (Str × Tok)} (h : AccOk l ns) : l.length = ns.length := by
  have := congrArg List.length h
  rwa [List.length_map, List.length_map] at this
theorem AccOk.take {l : List Pr} {ns : List (Str × Tok)} (h : AccOk l ns) (K : Nat) : AccOk (l.take K) (ns.take K) := by
  unfold AccOk at *
  rw [List.map_take, h, List.map_take]
theorem AccOk.drop {l : List Pr} {ns : List (Str × Tok)} (h : AccOk l ns) (K : Nat) : AccOk (l.drop K) (ns.drop K) := by
  unfold AccOk at *
  rw [List.map_drop, h, List.map_drop]
theorem join_two (a b : Str) : Txt.join (Str.ofString "") [a, b] = a ++ b := by
  rw [joinE_eq, joinE_cons]; rfl
theorem AccOk.text : ∀ {l : List Pr} {ns : List (Str × Tok)}, AccOk l ns → accS l = slashF (ns.map (·.1))
  | [], [], _ => rfl
  | [], _ :: _, h => by cases h
  | _ :: _, [], h => by cases h
  | x :: l, y :: ns, h => by
    have h' : (x.2.1.1, x.2.2.1) = (Str.ofString "/", y.1) ∧ AccOk l ns := List.cons.inj h
    have ih := AccOk.text h'.2
    unfold accS at *
    rw [List.map_cons, List.map_cons, slashF_cons, ← ih, joinE_eq, joinE_cons, ← joinE_eq, join_two]
    rw [(Prod.mk.inj h'.1).1, (Prod.mk.inj h'.1).2]
theorem AccOk.sum : ∀ {l : List Pr} {ns : List (Str × Tok)}, AccOk l ns → (l.map fun x => x.2.1.1.length + x.2.2.1.length).sum = (slashF (ns.map (·.1))).length
  | [], [], _ => by decide +kernel
  | [], _ :: _, h => by cases h
  | _ :: _, [], h => by cases h
  | x :: l, y :: ns, h => by
    have h' : (x.2.1.1, x.2.2.1) = (Str.ofString "/", y.1) ∧ AccOk l ns := List.cons.inj h
    have ih := AccOk.sum h'.2
    rw [List.map_cons, List.sum_cons, ih, List.map_cons, slashF_cons, Str.length_append, Str.length_append, (Prod.mk.inj h'.1).1, (Prod.mk.inj h'.1).2]
theorem AccOk.rest : ∀ {l : List Pr} {ns : List (Str × Tok)}, AccOk l ns → Txt.join (Str.ofString "") (l.map fun p => p.2.1.1 ++ p.2.2.1) = slashF (ns.map (·.1)) := fun {l ns} h => by
  rw [← h.text]
  unfold accS
  congr 1
theorem AccOk.bound {l : List Pr} {ns : List (Str × Tok)} (h : AccOk l ns) (hg : ∀ x ∈ ns, NameOk x) : ∀ x ∈ l, x.2.1.1.length ≤ 2 ∧ x.2.2.1.length ≤ 2 := fun x hx => by
  have h1 : (x.2.1.1, x.2.2.1) ∈ ns.map fun x => (Str.ofString "/", x.1) := by
    rw [← h]; exact List.mem_map_of_mem (f := fun x : Pr => (x.2.1.1, x.2.2.1)) hx
  obtain ⟨y, hy, e⟩ := List.mem_map.mp h1
  have e' := Prod.mk.inj e
  rw [← e'.1, ← e'.2]
  have : (Str.ofString "/").length = 1 := by decide
  exact ⟨by omega, (hg y hy).2.1⟩
theorem slash_le : ∀ (A : List Str), (∀ x ∈ A, x.length ≤ 2) → (slashF A).length ≤ 3 * A.length
  | [], _ => by decide +kernel
  | a :: r, h => by
    have h1 := h a (.head _)
    have h2 := slash_le r fun x hx => h x (.tail _ hx)
    have : slS.length = 1 := by decide
    rw [slashF_cons, Str.length_append, Str.length_append, List.length_cons]
    omega
theorem place_le {A : List Str} (h : ∀ x ∈ A, x.length ≤ 2) (hl : A.length ≤ 30) : (orRoot (slashF A)).length ≤ 100 := by
  have := slash_le A h
  unfold orRoot
  split
  · decide
  · omega
theorem joinS_le {A : List Str} (h : ∀ x ∈ A, x.length ≤ 2) : (Txt.join slS A).length ≤ 3 * A.length := by
  by_cases e : A = []
  · subst e; decide +kernel
  · have h1 := slash_le A h
    rw [slashF_ne A e, Str.length_append] at h1
    omega
/-- the newest row is among those that share -/
theorem shared_last {rs : List (Addr × List (Str × Tok))} {na : Addr} {ns : List (Str × Tok)} {zn K : Nat} (hz : 0 < zn) (hK : IsShared ((rs ++ [(na, ns)]).drop ((rs ++ [(na, ns)]).length - zn)) K) :
    K ≤ ns.length ∧ ((((rs ++ [(na, ns)]).drop ((rs ++ [(na, ns)]).length - zn)).headD default).2.take K).map (·.1) = (ns.take K).map (·.1) := by
  have hm : (na, ns) ∈ (rs ++ [(na, ns)]).drop ((rs ++ [(na, ns)]).length - zn) := by
    have hl : (rs ++ [(na, ns)]).length = rs.length + 1 := by simp
    refine List.mem_of_getElem? (i := rs.length - ((rs ++ [(na, ns)]).length - zn)) ?_
    rw [List.getElem?_drop, show (rs ++ [(na, ns)]).length - zn + (rs.length - ((rs ++ [(na, ns)]).length - zn)) = rs.length by omega]
    simp
  obtain ⟨h1, h2, _⟩ := hK
  have h3 := h2 _ hm
  dsimp only at h3
  have hl := congrArg List.length h3
  rw [List.length_take, List.length_take, List.length_map, List.length_map] at hl
  refine ⟨by omega, ?_⟩
  rw [List.map_take, List.map_take]
  exact h3.symm

/-- what keeps the objects that change apart -/
structure Ctx (own R : List (Addr × Obj)) (S ta pa ra : Addr) : Prop where
  st : @Ne Nat S ta
  sp : @Ne Nat S pa
  sr : @Ne Nat S ra
  s1 : @Ne Nat S 63
  s2 : @Ne Nat S 70
  tp : @Ne Nat ta pa
  tr : @Ne Nat ta ra
  t1 : @Ne Nat ta 63
  t2 : @Ne Nat ta 70
  pr : @Ne Nat pa ra
  p1 : @Ne Nat pa 63
  p2 : @Ne Nat pa 70
  r1 : @Ne Nat ra 63
  r2 : @Ne Nat ra 70
  oS : ∀ p ∈ R ++ own, p.1 ≠ S
  oT : ∀ p ∈ R ++ own, p.1 ≠ ta
  oP : ∀ p ∈ R ++ own, p.1 ≠ pa
  oR : ∀ p ∈ R ++ own, p.1 ≠ ra
  o1 : ∀ p ∈ R ++ own, p.1 ≠ (63 : Addr)
  o2 : ∀ p ∈ R ++ own, p.1 ≠ (70 : Addr)
  ow : ∀ p ∈ R, ∀ q ∈ own, p.1 ≠ q.1
theorem Ctx.grow {own R add old : List (Addr × Obj)} {S ta pa ra : Addr} (C : Ctx own R S ta pa ra) (A : Apart add old) (hS : ∃ o, (S, o) ∈ old) (hT : ∃ o, (ta, o) ∈ old) (hP : ∃ o, (pa, o) ∈ old) (hR : ∃ o, (ra, o) ∈ old) (h1 : ∃ o, ((63 : Addr), o) ∈ old) (h2 : ∃ o, ((70 : Addr), o) ∈ old)
    (hr : ∀ q ∈ R ++ own, q ∈ old) : Ctx own (add ++ R) S ta pa ra := by
  have key : ∀ (x : Addr), (∃ o, (x, o) ∈ old) → (∀ p ∈ R ++ own, p.1 ≠ x) → ∀ p ∈ add ++ R ++ own, p.1 ≠ x := fun x hx ho p hp => by
    rw [List.append_assoc] at hp
    rcases List.mem_append.mp hp with h | h
    · obtain ⟨o, hx⟩ := hx
      exact A p h _ hx
    · exact ho p h
  exact { C with
    oS := key S hS C.oS
    oT := key ta hT C.oT
    oP := key pa hP C.oP
    oR := key ra hR C.oR
    o1 := key 63 h1 C.o1
    o2 := key 70 h2 C.o2
    ow := fun p hp q hq => (List.mem_append.mp hp).elim (fun h => A p h q (hr q (List.mem_append_right _ hq))) fun h => C.ow p h q hq }
theorem news_cons {g h : Heap} {L : Addr} {a : Addr × Obj} {l : List (Addr × Obj)} (x : h.get? a.1 = some a.2 ∧ a.1 ≠ L ∧ g.get? a.1 = none) (N : News g L h l) : News g L h (a :: l) := fun p hp => (List.mem_cons.mp hp).elim (fun e => e ▸ x) (N p)
theorem news_cat {g h : Heap} {L : Addr} {l r : List (Addr × Obj)} (N : News g L h l) (M : News g L h r) : News g L h (l ++ r) := fun p hp => (List.mem_append.mp hp).elim (N p) (M p)
theorem off_cons {X : Addr} {a : Addr × Obj} {l : List (Addr × Obj)} (x : a.1 ≠ X) (t : ∀ p ∈ l, p.1 ≠ X) : ∀ p ∈ a :: l, p.1 ≠ X := fun p hp => (List.mem_cons.mp hp).elim (fun e => e ▸ x) (t p)
theorem off_cat {X : Addr} {l r : List (Addr × Obj)} (x : ∀ p ∈ l, p.1 ≠ X) (t : ∀ p ∈ r, p.1 ≠ X) : ∀ p ∈ l ++ r, p.1 ≠ X := fun p hp => (List.mem_append.mp hp).elim (x p) (t p)
/-- the objects that change -/
noncomputable def six (S ta pa ra ld : Addr) (l : List Pr) (n0 : Nat) (xs : List It) (n1 : Nat) (pl : List (Str × Tok)) (n2 : Nat) (rs : List (Addr × List (Str × Tok))) (n3 : Nat) (p1 p2 : Array Value) : List (Addr × Obj) :=
  [(S, accO ld (accV l) n0), (ta, W.listOf (itV xs).toArray n1), (pa, W.listOf (strValues pl).toArray n2), (ra, W.listOf (rs.map fun r => Value.ref r.1).toArray n3), (63, tabObj p1), (70, tabObj p2)]
/-- what lies in the objects that stay -/
structure Objs (R : List (Addr × Obj)) (ld na : Addr) (hs : Int) (kt zt : Tok) (z : Int) (ns : List (Str × Tok)) (rs : List (Addr × List (Str × Tok))) (pl : List (Str × Tok)) (xs : List It) (l : List Pr) : Prop where
  ld : (ld, accD hs kt zt z) ∈ R
  na : ∃ nn, (na, W.listOf (strValues ns).toArray nn) ∈ R
  rs : ∀ r ∈ rs, ∃ n, (r.1, W.listOf (strValues r.2).toArray n) ∈ R
  xs : ∀ y ∈ xs, TupIn R (fun k => (pl.getD k.toNat default).1) y
  pr : ∀ x ∈ l, (x.1, tup2 (.str x.2.1.1 x.2.1.2) (.str x.2.2.1 x.2.2.2)) ∈ R
theorem TupIn.mono {R R' : List (Addr × Obj)} {G G' : Int → Str} {y : It} (h : TupIn R G y) (hs : ∀ p ∈ R, p ∈ R') (hg : G' y.2.2 = G y.2.2) : TupIn R' G' y := by
  obtain ⟨a, b, c, d, e⟩ := h
  exact ⟨a, b, c, d, by rw [hg]; exact hs _ e⟩
theorem Objs.mono {R R' : List (Addr × Obj)} {ld na : Addr} {hs : Int} {kt zt : Tok} {z : Int} {ns : List (Str × Tok)} {rs : List (Addr × List (Str × Tok))} {pl : List (Str × Tok)} {xs : List It} {l : List Pr} (O : Objs R ld na hs kt zt z ns rs pl xs l) (h : ∀ p ∈ R, p ∈ R') : Objs R' ld na hs kt zt z ns rs pl xs l :=
  ⟨h _ O.ld, let ⟨n, q⟩ := O.na; ⟨n, h _ q⟩, fun r hr => let ⟨n, q⟩ := O.rs r hr; ⟨n, h _ q⟩, fun y hy => (O.xs y hy).mono h rfl, fun x hx => h _ (O.pr x hx)⟩
local macro_rules | `(tactic| walk_at "m_in1") => `(tactic| first | with_reducible exact List.Mem.head _ | with_reducible assumption | (with_reducible refine List.Mem.tail _ ?_; walk_at "m_in1") | (with_reducible refine List.mem_append_left _ ?_; walk_at "m_in1") | (with_reducible refine List.mem_append_right _ ?_; walk_at "m_in1"))
local macro_rules | `(tactic| walk_at "m_in0") => `(tactic| first | exact List.Mem.head _ | assumption | (refine List.Mem.tail _ ?_; walk_at "m_in0") | (refine List.mem_append_left _ ?_; walk_at "m_in0") | (refine List.mem_append_right _ ?_; walk_at "m_in0"))
local macro_rules | `(tactic| walk_at "m_in") => `(tactic| first | walk_at "m_in1" | walk_at "m_in0")
local macro_rules | `(tactic| walk_at "m_rr") => `(tactic| (rename News _ _ _ _ => n; first | (refine news_cons (n _ (by walk_at "m_in")) ?_; walk_at "m_rr") | exact fun p hp => n p (by walk_at "m_in") | ((with_reducible refine news_cat ?_ ?_) <;> walk_at "m_rr")))
local macro_rules | `(tactic| walk_at "m_re") => `(tactic| ((try dsimp only [six, List.cons_append, List.nil_append]); walk_at "m_rr"))
local macro_rules | `(tactic| walk_at "m_n1") => `(tactic| (rename Ctx _ _ _ _ _ _ => c; first | exact Ctx.st c | exact Ctx.sp c | exact Ctx.sr c | exact Ctx.s1 c | exact Ctx.s2 c | exact Ctx.tp c | exact Ctx.tr c | exact Ctx.t1 c | exact Ctx.t2 c | exact Ctx.pr c | exact Ctx.p1 c | exact Ctx.p2 c | exact Ctx.r1 c | exact Ctx.r2 c | (show (63 : Nat) ≠ 70; decide)))
local macro_rules | `(tactic| walk_at "m_ne") => `(tactic| (first | walk_at "m_n1" | (refine Ne.symm ?_; walk_at "m_n1")))
local macro_rules | `(tactic| walk_at "m_oo") => `(tactic| first | ((with_reducible refine off_cons ?_ ?_); (walk_at "m_ne"); walk_at "m_oo") | (rename Ctx _ _ _ _ _ _ => c; intro p hp; first | exact Ctx.oS c p (by walk_at "m_in") | exact Ctx.oT c p (by walk_at "m_in") | exact Ctx.oP c p (by walk_at "m_in") | exact Ctx.oR c p (by walk_at "m_in") | exact Ctx.o1 c p (by walk_at "m_in") | exact Ctx.o2 c p (by walk_at "m_in")) | ((with_reducible refine off_cat ?_ ?_) <;> walk_at "m_oo"))
local macro_rules | `(tactic| walk_at "m_off") => `(tactic| ((try dsimp only [six, List.cons_append, List.nil_append]); walk_at "m_oo"))

section
variable {w : World} {outer : List Env} {s : Shared} {Q : Flow → Shared → Prop} {env : Env} {A : Around} {M : Model} {E : Value → Shared → Prop}
theorem seq_at (b : List Stmt) (k n : Nat) (h : wpAny M A (execs ((b.drop k).take n) env) (fun f s' => match f with | .next => wpAny M A (execs (b.drop (k + n)) env) Q E s' | f => Q f s') E s) : wpAny M A (execs (b.drop k) env) Q E s := by
  refine execs_split n ?_
  rw [List.drop_drop]
  exact h
end
theorem turn_end {fo : Obj} {w : World} (ho : (hd.heap_1 w.params).lookup 268 = some fo) {g : Heap} (X : (hd.heap_1 w.params).In g)
    {A : Around} {env : Env} {Q : Flow → Shared → Prop} {E : Value → Shared → Prop} {s : Shared} (h : Q .next s) : wpAny (model PG w) A (execs ((turnOf (bodyO fo)).drop 18) env) Q E s := by
  revert ho X
  unfold PG
  k_fill
  intro ho X
  have hq := ho.symm.trans (by k_is : (hd.heap_1 w.params).lookup 268 = some ⟨_, _, .func (fnX _ _ _ _ _ _ _ _ _ _ _ _ _), _⟩)
  cases hq
  exact wpAny_execs_nil h
theorem int_step {i zn j : Nat} (h : (j : Int) ≤ (i : Int) - (zn : Int)) : (j : Int) < ((i + 1 - zn : Nat) : Int) := by omega
theorem int_stay {i zn j : Nat} (h : ¬ (j : Int) ≤ (i : Int) - (zn : Int)) : ¬ (j : Int) < ((i + 1 - zn : Nat) : Int) := by omega
theorem getD_app {pl : List (Str × Tok)} {q : Str × Tok} {j : Nat} (h : j < pl.length) : (pl ++ [q]).getD j default = pl.getD j default := by
  rw [List.getD_eq_getElem?_getD, List.getD_eq_getElem?_getD, List.getElem?_append_left h]
theorem getD_new {pl : List (Str × Tok)} {q : Str × Tok} {j : Nat} (h : pl.length = j) : (pl ++ [q]).getD j default = q := by
  rw [List.getD_eq_getElem?_getD, List.getElem?_append_right (Nat.le_of_eq h), h, Nat.sub_self]; rfl
set_option maxHeartbeats 1000000 in
theorem turn_tail {fo : Obj} {w : World} (ho : (hd.heap_1 w.params).lookup 268 = some fo)
    {outer : List Env} {s : Shared} {g : Heap} {L : Addr} {mg mb m : Str → Option Value} {Q : Flow → Shared → Prop} {S ta pa ra na sa ld bm : Addr} {t wt zt kt zt' : Tok} {i zn : Nat} {way : Str} {hs : Int} {own R : List (Addr × Obj)} {ns : List (Str × Tok)} {rs : List (Addr × List (Str × Tok))} {pl : List (Str × Tok)} {xs : List It} {l : List Pr} {n0 n1 n2 n3 : Nat} {p1 p2 : Array Value} {ob : Obj}
    (X : (hd.heap_1 w.params).In g) (T : TopRead VW LW mg mb g) (M : BMod g mainGlobals mg bm ob)
    (F : Fr g L s.heap m) (WW : WM m i t S ta pa ra na sa way wt (zn : Int) zt) (N : News g L s.heap (six S ta pa ra ld l n0 xs n1 pl n2 rs n3 p1 p2 ++ (R ++ own))) (C : Ctx own R S ta pa ra) (O : Objs R ld na hs kt zt' (zn : Int) ns rs pl xs l)
    (hz0 : 0 < zn) (hz1 : zn < 1000) (co : Core (i - zn) i rs pl xs) (hacc : AccOk l ns) (hi : i + 1 ≤ 50) (hg : ∀ x ∈ ns, NameOk x) (hnl : ns.length ≤ 30) (hstep : ∀ r, rs.getLast? = some r → StepRel (txs r) (ns.map (·.1))) (hway : Way way (ns.map (·.1))) (hwl : way.length ≤ 900) (ht1 : TriplesOk p1.toList) (ht2 : TriplesOk p2.toList)
    (next : ∀ h' tk gs m' R' pt xs' l' n0' n1' n2' n3' (p1' p2' : Array Value), (AllBare s.gens → AllBare gs) → WM m' i t S ta pa ra na sa way wt (zn : Int) zt → Fr g L h' m' → News g L h' (six S ta pa ra ld l' n0' xs' n1' (pl ++ [(orRoot (slashF (ns.map (·.1))), pt)]) n2' (rs ++ [(na, ns)]) n3' p1' p2' ++ (R' ++ own)) → Ctx own R' S ta pa ra →
      Objs R' ld na hs kt zt' (zn : Int) ns (rs ++ [(na, ns)]) (pl ++ [(orRoot (slashF (ns.map (·.1))), pt)]) xs' l' → Core (i + 1 - zn) (i + 1) (rs ++ [(na, ns)]) (pl ++ [(orRoot (slashF (ns.map (·.1))), pt)]) xs' → AccOk l' ns → TriplesOk p1'.toList → TriplesOk p2'.toList → Q .next { s with heap := h', toks := tk, gens := gs }) :
    wpAny (model PG w) ((Ar 800 2800 outer).deeper (envO fo L)) (execs ((turnOf (bodyO fo)).drop 2) (envO fo L)) Q (fun _ _ => False) s := by
  have hgood : ∀ x ∈ ns.map (·.1), GoodN x := fun x hx => by obtain ⟨y, hy, rfl⟩ := List.mem_map.mp hx; exact (hg y hy).1
  have hsmall : ∀ x ∈ ns.map (·.1), x.length ≤ 2 := fun x hx => by obtain ⟨y, hy, rfl⟩ := List.mem_map.mp hx; exact (hg y hy).2.1
  have hrl := co.rlen
  have hpl := co.plen
  have hi50 : i ≤ 50 := Nat.le_of_succ_le hi
  have hrs50 : rs.length ≤ 50 := hrl ▸ hi50
  have hpl50 : pl.length ≤ 50 := hpl ▸ hi50
  have hll := hacc.len
  have hll30 : l.length ≤ 30 := hll ▸ hnl
  have hns3 : 3 * ns.length ≤ 90 := Nat.mul_le_mul_left 3 hnl
  have hnorm : normF way = orRoot (slashF (ns.map (·.1))) := by rw [hway.norm, orRoot_slash]
  obtain ⟨nn, hna⟩ := O.na
  -- flat, rows, places
  refine seq_at _ 2 3 ?_
  refine turn_places ho (xt := wt) (rv := rs.map fun r => Value.ref r.1) (ns := ns) (pl := pl) (nn := nn) (n1 := n3) (n2 := n2)
    (rest := (S, accO ld (accV l) n0) :: (ta, W.listOf (itV xs).toArray n1) :: (63, tabObj p1) :: (70, tabObj p2) :: (R ++ own)) X T F WW (by (have n0 := N; walk_at "m_re")) (by (have c0 := C; walk_at "m_ne")) (by (have c0 := C; walk_at "m_off")) (by (have c0 := C; walk_at "m_off"))
    (by rw [List.length_map]; exact Nat.le_trans hrs50 (by decide)) (by rw [len_strs]; exact Nat.le_trans hpl50 (by decide)) (by walk_at "m_in") (Nat.le_trans hnl (by decide)) (fun x hx => Nat.le_trans (hsmall x hx) (by decide)) (Nat.le_trans hwl (by decide)) hway.rooted ?_
  intro h2 tk2 m2 pt n3a n2a W2 ⟨ft, hfl⟩ F2 N2
  rw [hnorm] at N2
  have er : (rs.map fun r => Value.ref r.1) ++ [Value.ref na] = (rs ++ [(na, ns)]).map fun r => Value.ref r.1 := by rw [List.map_append]; rfl
  rw [er] at N2
  have ep : strValues (pl ++ [(orRoot (slashF (ns.map (·.1))), pt)]) = strValues pl ++ [Value.str (orRoot (slashF (ns.map (·.1)))) pt] := by simp [strValues]
  rw [ep] at N2
  obtain ⟨P, hP⟩ : ∃ P, orRoot (slashF (ns.map (·.1))) = P := ⟨_, rfl⟩
  rw [hP] at N2 ep next hnorm
  clear N F er
  have hav : (accV l).length = ns.length := by unfold accV; rw [List.length_map, hacc.len]
  have hprR : ∀ {R' : List (Addr × Obj)}, (∀ p ∈ R, p ∈ R') → ∀ x ∈ l, (x.1, tup2 (.str x.2.1.1 x.2.1.2) (.str x.2.2.1 x.2.2.2)) ∈ R' ∧ x.1 ≠ S := fun h x hx => ⟨h _ (O.pr x hx), C.oS _ (List.mem_append_left _ (O.pr x hx))⟩
  have hfz := slash_le (ns.map (·.1)) hsmall
  rw [List.length_map] at hfz
  have hld := O.ld
  dsimp only
  -- the check
  refine seq_at _ 5 1 ?_
  refine turn_check ho (xt := wt) (ld := ld) (n := n0) (n2 := n2a) (l := l) (pl := pl) (c := P) (fl := slashF (ns.map (·.1))) (cu := pt) (z := (zn : Int)) (hs := hs) (kt := kt) (zt' := zt')
    (rest := (S, accO ld (accV l) n0) :: (ta, W.listOf (itV xs).toArray n1) :: (pa, W.listOf (strValues pl ++ [Value.str P pt]).toArray n2a) :: (ra, W.listOf ((rs ++ [(na, ns)]).map fun r => Value.ref r.1).toArray n3a) :: (R ++ own)) X T M F2 W2 hfl (by (have n0 := N2; walk_at "m_re")) (by (have c0 := C; walk_at "m_off")) (by (have c0 := C; walk_at "m_off"))
    (by walk_at "m_in") (by walk_at "m_in") (C.oS _ (List.mem_append_left _ hld)) (hprR fun p hp => by walk_at "m_in") ⟨Int.natCast_nonneg _, Int.ofNat_lt.mpr hz1⟩ (Nat.le_trans hll30 (by decide)) ht1 ht2 (fun x hx => ⟨Nat.le_trans (hacc.bound hg x hx).1 (by decide), Nat.le_trans (hacc.bound hg x hx).2 (by decide)⟩) (by walk_at "m_in") (Nat.le_trans hpl50 (by decide)) (by rw [← hP]; rfl) hacc.text hacc.sum (Nat.le_trans hfz (Nat.le_trans hns3 (by decide))) ?_
  intro h3 tk3 gs3 p1a p2a hB3 F3 N3 ht1a ht2a
  clear N2 F2
  dsimp only
  -- the heap's newest
  have hG : ∀ j, j < i → (fun k : Int => ((pl ++ [(P, pt)]).getD k.toNat default).1) (j : Int) = (fun k : Int => (pl.getD k.toNat default).1) (j : Int) := fun j hj => by
    show ((pl ++ [(P, pt)]).getD ((j : Int)).toNat default).1 = (pl.getD ((j : Int)).toNat default).1
    rw [Int.toNat_natCast, getD_app (hpl.symm ▸ hj)]
  have hxs1 : ∀ {R' : List (Addr × Obj)}, (∀ p ∈ R, p ∈ R') → ∀ y ∈ xs, TupIn R' (fun k : Int => ((pl ++ [(P, pt)]).getD k.toNat default).1) y := fun h y hy => by
    refine (O.xs y hy).mono h ?_
    obtain ⟨j, r, e1, e2, _⟩ := co.idx y hy
    rw [e1]
    exact hG j (hrl ▸ (List.getElem?_eq_some_iff.mp e2).1)
  refine seq_at _ 6 1 ?_
  refine turn_push ho (xt := wt) (ld := ld) (n := n0) (n2 := n2a) (n3 := n1) (vs := accV l) (pl := pl) (xs := xs) (c := P) (cu := pt) (hs := hs) (kt := kt) (zt' := zt') (zz := (zn : Int)) (G := fun k : Int => ((pl ++ [(P, pt)]).getD k.toNat default).1)
    (rest := (S, accO ld (accV l) n0) :: (pa, W.listOf (strValues pl ++ [Value.str P pt]).toArray n2a) :: (ra, W.listOf ((rs ++ [(na, ns)]).map fun r => Value.ref r.1).toArray n3a) :: (63, tabObj p1a) :: (70, tabObj p2a) :: (R ++ own)) X T F3 W2 (by (have n0 := N3; walk_at "m_re")) (by (have c0 := C; walk_at "m_off"))
    (by walk_at "m_in") (by walk_at "m_in") (C.oS _ (List.mem_append_left _ hld)) (by walk_at "m_in") (Nat.le_trans hpl50 (by decide)) (hxs1 fun p hp => by walk_at "m_in") (Nat.le_trans (Nat.succ_le_succ co.xlen) (Nat.le_trans hi (by decide))) co.fresh (by
      show ((pl ++ [(P, pt)]).getD ((i : Int)).toNat default).1 = P
      rw [Int.toNat_natCast, getD_new hpl]) ?_
  intro h4 tk4 D n1b t1 F4 N4 A4
  clear N3 F3
  have C4 := C.grow A4 ⟨_, by walk_at "m_in"⟩ ⟨_, by walk_at "m_in"⟩ ⟨_, by walk_at "m_in"⟩ ⟨_, by walk_at "m_in"⟩ ⟨_, by walk_at "m_in"⟩ ⟨_, by walk_at "m_in"⟩ (fun q hq => by walk_at "m_in")
  have co4 := (co.push (na := na) (D := D) (pt := pt) hi hg hnl hstep).up (lo' := i + 1 - zn) (Nat.sub_le_sub_right (Nat.le_succ i) zn)
  rw [hav] at N4 C4
  rw [hP] at co4
  have N4' : News g L h4 ((ta, W.listOf (itV (sdF (D, (ns.length : Int), (i : Int)) xs.length (xs ++ [(D, (ns.length : Int), (i : Int))]) xs.length)).toArray n1b) :: (S, accO ld (accV l) n0) :: (pa, W.listOf (strValues pl ++ [Value.str P pt]).toArray n2a) :: (ra, W.listOf ((rs ++ [(na, ns)]).map fun r => Value.ref r.1).toArray n3a) :: (63, tabObj p1a) :: (70, tabObj p2a) :: (([(D, tup3 (.int (ns.length : Int) t1) (.int (i : Int) t) (.str P pt) 0)] ++ R) ++ own)) := by (have n0 := N4; walk_at "m_re")
  obtain ⟨R1, hR1⟩ : ∃ R1, [(D, tup3 (.int (ns.length : Int) t1) (.int (i : Int) t) (.str P pt) 0)] ++ R = R1 := ⟨_, rfl⟩
  rw [hR1] at N4' C4
  have hsub : ∀ p ∈ R, p ∈ R1 := fun p hp => hR1 ▸ List.mem_append_right _ hp
  have hDm : (D, tup3 (.int (ns.length : Int) t1) (.int (i : Int) t) (.str P pt) 0) ∈ R1 := hR1 ▸ List.mem_append_left _ (.head _)
  have hGi : (fun k : Int => ((pl ++ [(P, pt)]).getD k.toNat default).1) (i : Int) = P := by
    show ((pl ++ [(P, pt)]).getD ((i : Int)).toNat default).1 = P
    rw [Int.toNat_natCast, getD_new hpl]
  obtain ⟨G, hGd⟩ : ∃ G : Int → Str, (fun k : Int => ((pl ++ [(P, pt)]).getD k.toNat default).1) = G := ⟨_, rfl⟩
  rw [hGd] at hGi hxs1
  have tup4 : ∀ y ∈ sdF (D, (ns.length : Int), (i : Int)) xs.length (xs ++ [(D, (ns.length : Int), (i : Int))]) xs.length, TupIn R1 G y := fun y hy => by
    have hy' := (push_heap (x := (D, (ns.length : Int), (i : Int))) co.heap).2.mem_iff.mp hy
    rcases List.mem_append.mp hy' with h | h
    · exact hxs1 hsub y h
    · rw [List.mem_singleton.mp h]
      exact ⟨t1, t, pt, 0, by rw [hGi]; exact hDm⟩
  have hld1 := hsub _ hld
  have hna1 := hsub _ hna
  clear N4 A4 hR1 hDm
  dsimp only
  have hlo : i + 1 - zn < i + 1 := Nat.sub_lt (Nat.succ_pos i) hz0
  -- the tops that are too old
  refine seq_at _ 7 1 ?_
  refine turn_pops ho (xt := wt) (G := G) (fun ys => Core (i + 1 - zn) (i + 1) (rs ++ [(na, ns)]) (pl ++ [(P, pt)]) ys ∧ ∀ y ∈ ys, TupIn R1 G y)
    (rest := (S, accO ld (accV l) n0) :: (pa, W.listOf (strValues pl ++ [Value.str P pt]).toArray n2a) :: (ra, W.listOf ((rs ++ [(na, ns)]).map fun r => Value.ref r.1).toArray n3a) :: (63, tabObj p1a) :: (70, tabObj p2a) :: (R1 ++ own)) X T F4 W2 N4' (by (have c0 := C4; walk_at "m_off")) ⟨co4, tup4⟩ ?_ ?_ ?_
  · rintro ys ⟨c, tp⟩
    refine ⟨(c.anyI hlo).1, fun y e h => ?_, Nat.le_trans c.xlen (Nat.le_trans hi (by decide)), c.nodup, fun y hy => (tp y hy).mono (fun p hp => by walk_at "m_in") rfl⟩
    obtain ⟨j, r, e1, _, _⟩ := c.idx y (by rw [e]; exact .head _)
    exact (c.anyI hlo).2 y e (by rw [e1] at h ⊢; exact int_step h)
  · rintro x0 mid x ⟨c, tp⟩ hle
    obtain ⟨j, r, e1, _, _⟩ := c.idx x0 (.head _)
    obtain ⟨c1, c2⟩ := c.pop (by rw [e1] at hle ⊢; exact int_step hle)
    refine ⟨⟨c1, fun y hy => ?_⟩, c2⟩
    refine tp y ?_
    have := (siftF_perm x mid).mem_iff.mp hy
    rcases List.mem_cons.mp this with q | q
    · rw [q]; simp
    · exact List.mem_append_left _ (.tail _ q)
  intro h5 tk5 n1c y ys ⟨co5, tup5⟩ hny F5 N5
  clear N4' F4 co4 tup4
  obtain ⟨jy, ry, ey1, ey2, ey3⟩ := co5.idx y (.head _)
  have hrs5 : ∀ r ∈ rs ++ [(na, ns)], ∃ n, (r.1, W.listOf (strValues r.2).toArray n) ∈ R1 := fun r hr => by
    rcases List.mem_append.mp hr with h | h
    · obtain ⟨n, q⟩ := O.rs r h
      exact ⟨n, hsub _ q⟩
    · rw [List.mem_singleton.mp h]; exact ⟨nn, hna1⟩
  have hpl5 := co5.plen
  have hplaces : ∀ x ∈ pl ++ [(P, pt)], x.1.length ≤ 100 ∧ Txt.startswith x.1 slS = true := fun x hx => by
    have h1 : x.1 ∈ (pl ++ [(P, pt)]).map (·.1) := List.mem_map_of_mem hx
    rw [co5.places] at h1
    obtain ⟨r, hr, e⟩ := List.mem_map.mp h1
    obtain ⟨g1, g2⟩ := co5.rgood r hr
    have g3 : ∀ x ∈ txs r, x.length ≤ 2 := fun x hx => by obtain ⟨q, hq, rfl⟩ := List.mem_map.mp hx; exact (g2 q hq).2.1
    rw [← e]
    refine ⟨place_le g3 (by rw [List.length_map]; exact g1), ?_⟩
    rw [orRoot_slash]
    exact starts_place _
  have hplain5 := co5.plain (zn := zn) rfl hlo (by rw [ey1] at hny ⊢; exact int_stay hny)
  dsimp only
  -- depth, shared, folder
  refine seq_at _ 8 5 ?_
  refine turn_top ho (xt := wt) (nt := n1c) (nr := n3a) (np := n2a) (zn := zn) (y := y) (ys := ys) (G := G) (rs := rs ++ [(na, ns)]) (pl := pl ++ [(P, pt)])
    (rest := (ta, W.listOf (itV (y :: ys)).toArray n1c) :: (S, accO ld (accV l) n0) :: (pa, W.listOf (strValues pl ++ [Value.str P pt]).toArray n2a) :: (ra, W.listOf ((rs ++ [(na, ns)]).map fun r => Value.ref r.1).toArray n3a) :: (63, tabObj p1a) :: (70, tabObj p2a) :: (R1 ++ own)) X T F5 W2 N5 rfl hz0
    (.head _) (Nat.le_of_succ_le (Nat.le_trans co5.xlen (Nat.le_trans hi (by decide)))) ((tup5 y (.head _)).mono (fun p hp => by walk_at "m_in") rfl) (by walk_at "m_in") (fun r hr => let ⟨n, q⟩ := hrs5 r hr; ⟨n, by walk_at "m_in"⟩) (co5.rlen ▸ Nat.le_trans hi (by decide)) (by simp) (fun r hr => let ⟨g1, g2⟩ := co5.rgood r hr; ⟨Nat.le_trans g1 (by decide), fun x hx => ⟨Nat.le_trans (g2 x hx).2.1 (by decide), (g2 x hx).2.2⟩⟩)
    (by rw [ep]; walk_at "m_in") (hpl5 ▸ Nat.le_trans hi (by decide)) (by simp) hplaces (fun K hK => by
      obtain ⟨a, b, c, _⟩ := hplain5 K hK
      refine ⟨a, ?_, c⟩
      rw [← hGd]; exact b) ?_
  intro h6 tk6 m6 K hK W6 ⟨dt, hdt⟩ ⟨fft, hff⟩ F6 N6
  clear N5 F5
  obtain ⟨hKn, hKe⟩ := shared_last hz0 hK
  obtain ⟨hdep, hGy, _, _⟩ := hplain5 K hK
  rw [hKe] at hff hGy
  replace hGy : G y.2.2 = orRoot (slashF ((ns.take K).map (·.1))) := by rw [← hGd]; exact hGy
  have hgA : ∀ x ∈ (ns.take K).map (·.1), GoodN x := fun x hx => by obtain ⟨q, hq, rfl⟩ := List.mem_map.mp hx; exact (hg q (List.mem_of_mem_take hq)).1
  have hgB : ∀ x ∈ (ns.drop K).map (·.1), GoodN x := fun x hx => by obtain ⟨q, hq, rfl⟩ := List.mem_map.mp hx; exact (hg q (List.mem_of_mem_drop hq)).1
  have hsA : ∀ x ∈ (ns.take K).map (·.1), x.length ≤ 2 := fun x hx => by obtain ⟨q, hq, rfl⟩ := List.mem_map.mp hx; exact (hg q (List.mem_of_mem_take hq)).2.1
  have hsB : ∀ x ∈ (ns.drop K).map (·.1), x.length ≤ 2 := fun x hx => by obtain ⟨q, hq, rfl⟩ := List.mem_map.mp hx; exact (hg q (List.mem_of_mem_drop hq)).2.1
  have hpr1 : ∀ x ∈ l, (x.1, tup2 (.str x.2.1.1 x.2.1.2) (.str x.2.2.1 x.2.2.2)) ∈ R1 := fun x hx => hsub _ (O.pr x hx)
  dsimp only
  -- what is gone
  refine seq_at _ 13 2 ?_
  refine turn_gone ho (xt := wt) (ld := ld) (n := n0) (nn := nn) (K := K) (l := l) (ns := ns) (ff := slashF ((ns.take K).map (·.1))) (hs := hs) (kt := kt) (zt' := zt') (zz := (zn : Int))
    (rest := (ta, W.listOf (itV (y :: ys)).toArray n1c) :: (pa, W.listOf (strValues pl ++ [Value.str P pt]).toArray n2a) :: (ra, W.listOf ((rs ++ [(na, ns)]).map fun r => Value.ref r.1).toArray n3a) :: (63, tabObj p1a) :: (R1 ++ own)) X T M F6 W6 hdt hff (by (have n0 := N6; walk_at "m_re")) (by (have c0 := C4; walk_at "m_off")) (by (have c0 := C4; walk_at "m_off")) C4.s2
    (by walk_at "m_in") (fun x hx => by have := hpr1 x hx; walk_at "m_in") (Nat.le_trans hll30 (by decide)) ht2a (fun x hx => ⟨Nat.le_trans (hacc.bound hg x hx).1 (by decide), Nat.le_trans (hacc.bound hg x hx).2 (by decide)⟩) (hll ▸ hKn) (by walk_at "m_in") (Nat.le_trans hnl (by decide)) hacc (fun x hx => (hg x hx).2.2) (hacc.take K).text ?_
  intro h7 tk7 gs7 m7 D7 n0a nd p2b hB7 W7 hgo7 F7 N7 ht2b A7
  have C7 := C4.grow A7 ⟨_, by walk_at "m_in"⟩ ⟨_, by walk_at "m_in"⟩ ⟨_, by walk_at "m_in"⟩ ⟨_, by walk_at "m_in"⟩ ⟨_, by walk_at "m_in"⟩ ⟨_, by walk_at "m_in"⟩ (fun q hq => by walk_at "m_in")
  have N7' : News g L h7 ((S, accO ld (accV (l.take K)) n0a) :: (ta, W.listOf (itV (y :: ys)).toArray n1c) :: (pa, W.listOf (strValues pl ++ [Value.str P pt]).toArray n2a) :: (ra, W.listOf ((rs ++ [(na, ns)]).map fun r => Value.ref r.1).toArray n3a) :: (63, tabObj p1a) :: (70, tabObj p2b) :: (([(D7, W.listOf (accV (l.drop K)).toArray nd)] ++ R1) ++ own)) := by (have n0 := N7; walk_at "m_re")
  obtain ⟨R2, hR2⟩ : ∃ R2, [(D7, W.listOf (accV (l.drop K)).toArray nd)] ++ R1 = R2 := ⟨_, rfl⟩
  rw [hR2] at N7' C7
  have hsub2 : ∀ p ∈ R1, p ∈ R2 := fun p hp => hR2 ▸ List.mem_append_right _ hp
  have hD7 : (D7, W.listOf (accV (l.drop K)).toArray nd) ∈ R2 := hR2 ▸ List.mem_append_left _ (.head _)
  have hld2 := hsub2 _ hld1
  have hpr2 : ∀ x ∈ l, (x.1, tup2 (.str x.2.1.1 x.2.1.2) (.str x.2.2.1 x.2.2.2)) ∈ R2 := fun x hx => hsub2 _ (hpr1 x hx)
  clear N7 N6 F6 A7 hR2
  dsimp only
  -- the rest of the way
  obtain ⟨hsl, hwr, hwl2⟩ := way_rest hgA hgB
  have hAB : (ns.take K).map (·.1) ++ (ns.drop K).map (·.1) = ns.map (·.1) := by rw [← List.map_append, List.take_append_drop]
  rw [hAB] at hwr
  have eG : G y.2.2 = slS ++ Txt.join slS ((ns.take K).map (·.1)) := by rw [hGy, orRoot_slash]
  have eR : Txt.slice (Txt.join (Str.ofString "") ((l.drop K).map fun p => p.2.1.1 ++ p.2.2.1)) (some 1) none = Txt.join slS ((ns.drop K).map (·.1)) := by rw [(hacc.drop K).rest]; exact hsl
  have hGlen : (slS ++ Txt.join slS ((ns.take K).map (·.1))).length ≤ 100 := by rw [← orRoot_slash]; exact place_le hsA (by rw [List.length_map, List.length_take]; exact Nat.le_trans (Nat.min_le_right _ _) hnl)
  have hRlen := joinS_le hsB
  rw [List.length_map, List.length_drop] at hRlen
  have hR90 := Nat.le_trans hRlen (Nat.le_trans (Nat.mul_le_mul_left 3 (Nat.sub_le _ _)) hns3)
  have hdl : l.length - K ≤ 30 := Nat.le_trans (Nat.sub_le _ _) hll30
  refine seq_at _ 15 2 ?_
  refine turn_rest ho (xt := wt) (nt := n1c) (np := n2a) (nd := nd) (D := D7) (gl := l.drop K) (y := y) (ys := ys) (G := G) (pl := pl) (c := P) (cu := pt)
    (rest := (S, accO ld (accV (l.take K)) n0a) :: (ta, W.listOf (itV (y :: ys)).toArray n1c) :: (pa, W.listOf (strValues pl ++ [Value.str P pt]).toArray n2a) :: (ra, W.listOf ((rs ++ [(na, ns)]).map fun r => Value.ref r.1).toArray n3a) :: (63, tabObj p1a) :: (70, tabObj p2b) :: (R2 ++ own)) X T F7 W7 hgo7 N7'
    (by walk_at "m_in") (Nat.le_of_succ_le (Nat.le_trans co5.xlen (Nat.le_trans hi (by decide)))) ((tup5 y (.head _)).mono (fun p hp => by have := hsub2 p hp; walk_at "m_in") rfl) (by walk_at "m_in") (Nat.le_trans hpl50 (by decide)) (by walk_at "m_in") (fun x hx => by have := hpr2 x (List.mem_of_mem_drop hx); walk_at "m_in") (by rw [List.length_drop]; exact Nat.le_trans hdl (by decide)) (fun x hx => ⟨Nat.le_trans (hacc.bound hg x (List.mem_of_mem_drop hx)).1 (by decide), Nat.le_trans (hacc.bound hg x (List.mem_of_mem_drop hx)).2 (by decide)⟩)
    (by rw [eG]; exact Nat.le_trans hGlen (by decide)) (by rw [eR]; exact Nat.le_trans hR90 (by decide)) (by rw [eG, eR]; exact Nat.le_trans hwl2 (Nat.le_trans (Nat.add_le_add (Nat.add_le_add_right hGlen 1) hR90) (by decide))) (by rw [eG, eR]; exact hwr.rooted) (by rw [eG, eR, hwr.norm, ← orRoot_slash]; exact hP) ?_
  intro h8 tk8 m8 W8 hgo8 F8 N8
  clear N7' F7
  dsimp only
  -- the names pushed back
  refine seq_at _ 17 1 ?_
  refine turn_back ho (xt := wt) (n := n0a) (nd := nd) (D := D7) (ld := ld) (gl := l.drop K) (lk := l.take K) (hs := hs) (kt := kt) (zt' := zt') (zz := (zn : Int))
    (rest := (ta, W.listOf (itV (y :: ys)).toArray n1c) :: (pa, W.listOf (strValues pl ++ [Value.str P pt]).toArray n2a) :: (ra, W.listOf ((rs ++ [(na, ns)]).map fun r => Value.ref r.1).toArray n3a) :: (63, tabObj p1a) :: (70, tabObj p2b) :: (R2 ++ own)) X T F8 W8 hgo8 (by (have n0 := N8; walk_at "m_re")) (by (have c0 := C7; walk_at "m_off"))
    (by walk_at "m_in") (by walk_at "m_in") (fun x hx => by have := hpr2 x (List.mem_of_mem_drop hx); walk_at "m_in") (by rw [List.length_take, List.length_drop]; exact Nat.le_trans (Nat.add_le_add (Nat.le_trans (Nat.min_le_right _ _) hll30) hdl) (by decide)) ?_
  intro h9 tk9 m9 n0b l' W9 hl' F9 N9 A9
  have C9 := C7.grow A9 ⟨_, by walk_at "m_in"⟩ ⟨_, by walk_at "m_in"⟩ ⟨_, by walk_at "m_in"⟩ ⟨_, by walk_at "m_in"⟩ ⟨_, by walk_at "m_in"⟩ ⟨_, by walk_at "m_in"⟩ (fun q hq => by walk_at "m_in")
  dsimp only
  refine turn_end ho X ?_
  rw [← ep] at N9
  refine next _ _ _ m9 (prObjs l' ++ R2) pt (y :: ys) (l.take K ++ l') n0b n1c n2a n3a p1a p2b (fun B => hB7 (hB3 B)) W9 F9 ?_ C9 ?_ co5 ?_ ht1a ht2b
  · (have n0 := N9; walk_at "m_re")
  · refine ⟨List.mem_append_right _ hld2, ⟨nn, List.mem_append_right _ (hsub2 _ hna1)⟩, fun r hr => let ⟨n, q⟩ := hrs5 r hr; ⟨n, List.mem_append_right _ (hsub2 _ q)⟩, fun z hz => (tup5 z hz).mono (fun p hp => List.mem_append_right _ (hsub2 _ hp)) ?_, fun x hx => ?_⟩
    · rw [← hGd]
    · rcases List.mem_append.mp hx with q | q
      · exact List.mem_append_right _ (hpr2 x (List.mem_of_mem_take q))
      · exact List.mem_append_left _ (List.mem_map.mpr ⟨x, q, rfl⟩)
  · have e1 : l'.map (fun x => (x.2.1.1, x.2.2.1)) = (l.drop K).map fun x => (x.2.1.1, x.2.2.1) := by
      have := congrArg (fun z => z.map fun q : (Str × Tok) × (Str × Tok) => (q.1.1, q.2.1)) hl'
      simp only [List.map_map] at this
      exact this
    unfold AccOk at *
    rw [List.map_append, e1, ← List.map_append, List.take_append_drop]
    exact hacc

/-- the eight texts of a step -/
noncomputable def StepTxt (x : Str) : Prop := x = Str.ofString ".." ∨ (x = Str.ofString "a" ∨ x = Str.ofString "b" ∨ x = Str.ofString "ab") ∨ (x = Str.ofString ".//" ∨ x = Str.ofString "")
theorem stepTxt_len {x : Str} (h : StepTxt x) : x.length ≤ 3 ∧ Txt.startswith x slS = false := by
  rcases h with rfl | (rfl | rfl | rfl) | (rfl | rfl) <;> exact ⟨by decide, by decide +kernel⟩
theorem stepTxt_name {x : Str} {u : Tok} (h : x = Str.ofString "a" ∨ x = Str.ofString "b" ∨ x = Str.ofString "ab") : NameOk (x, u) ∧ ∀ acc : List Str, (Txt.split x slS).foldl normStep acc = acc ++ [x] := by
  have key : GoodN x ∧ x.length ≤ 2 ∧ PyData.strOk x = true ∧ Txt.split x slS = [x] := by
    rcases h with rfl | rfl | rfl <;> exact ⟨⟨by unfold FreeS; decide, by decide, by decide, by decide⟩, by decide, by decide +kernel, by decide +kernel⟩
  obtain ⟨a, b, c, d⟩ := key
  refine ⟨⟨a, b, c⟩, fun acc => ?_⟩
  rw [d, List.foldl_cons, List.foldl_nil]
  exact norm_push a.2.1 a.2.2.1 a.2.2.2
theorem way_step {a b c i : Nat} (h : a ≤ 3 + 4 * i) (h3 : b ≤ 3) (hc : c ≤ a + 1 + b) : c ≤ 3 + 4 * (i + 1) := by omega
theorem way_fits {i : Nat} (h : i + 1 ≤ 29) : 3 + 4 * (i + 1) ≤ 900 := by omega
theorem way_now {a i : Nat} (h : a ≤ 3 + 4 * i) (hi : i + 1 ≤ 29) : a ≤ 1048576 := by omega
theorem up_fold (acc : List Str) : (Txt.split (Str.ofString "..") slS).foldl normStep acc = acc.dropLast := by
  rw [show Txt.split (Str.ofString "..") slS = [Str.ofString ".."] by decide +kernel, List.foldl_cons, List.foldl_nil]
  exact norm_pop (by decide) (by decide) (by decide)
theorem stay_fold {x : Str} (h : x = Str.ofString ".//" ∨ x = Str.ofString "") (acc : List Str) : (Txt.split x slS).foldl normStep acc = acc := by
  rcases h with rfl | rfl
  · rw [show Txt.split (Str.ofString ".//") slS = [Str.ofString ".", Str.ofString "", Str.ofString ""] by decide +kernel, List.foldl_cons, List.foldl_cons, List.foldl_cons, List.foldl_nil, normStep_nil, normStep_nil]
    exact norm_skip2 (by decide) (by decide)
  · rw [split_nil, List.foldl_cons, List.foldl_nil, normStep_nil]
set_option maxHeartbeats 1000000 in
theorem turn_full {fo : Obj} {w : World} (ho : (hd.heap_1 w.params).lookup 268 = some fo)
    {outer : List Env} {s : Shared} {g : Heap} {L : Addr} {mg mb m : Str → Option Value} {Q : Flow → Shared → Prop} {S ta pa ra na sa ld bm : Addr} {t wt zt kt zt' xt : Tok} {i zn : Nat} {way x : Str} {hs : Int} {own R : List (Addr × Obj)} {sl ns : List (Str × Tok)} {rs : List (Addr × List (Str × Tok))} {pl : List (Str × Tok)} {xs : List It} {l : List Pr} {n0 n1 n2 n3 : Nat} {p1 p2 : Array Value} {ob : Obj}
    (X : (hd.heap_1 w.params).In g) (T : TopRead VW LW mg mb g) (M : BMod g mainGlobals mg bm ob) (hsl : g.IsList sa (strValues sl).toArray) (hx : sl[i]? = some (x, xt)) (hsz : sl.length ≤ 1000) (hxt : StepTxt x)
    (F : Fr g L s.heap m) (WW : WM m i t S ta pa ra na sa way wt (zn : Int) zt) (N : News g L s.heap (six S ta pa ra ld l n0 xs n1 pl n2 rs n3 p1 p2 ++ (R ++ own))) (C : Ctx own R S ta pa ra) (O : Objs R ld na hs kt zt' (zn : Int) ns rs pl xs l)
    (hz0 : 0 < zn) (hz1 : zn < 1000) (co : Core (i - zn) i rs pl xs) (hacc : AccOk l ns) (hi : i + 1 ≤ 29) (hg : ∀ x ∈ ns, NameOk x) (hnl : ns.length ≤ i) (hlast : ∀ r, rs.getLast? = some r → txs r = ns.map (·.1)) (hway : Way way (ns.map (·.1))) (hwl : way.length ≤ 3 + 4 * i) (ht1 : TriplesOk p1.toList) (ht2 : TriplesOk p2.toList)
    (next : ∀ h' tk gs m' R' na' ns' way' wt' rs' pl' xs' l' n0' n1' n2' n3' (p1' p2' : Array Value), (AllBare s.gens → AllBare gs) → WM m' i t S ta pa ra na' sa way' wt' (zn : Int) zt → Fr g L h' m' → News g L h' (six S ta pa ra ld l' n0' xs' n1' pl' n2' rs' n3' p1' p2' ++ (R' ++ own)) → Ctx own R' S ta pa ra →
      Objs R' ld na' hs kt zt' (zn : Int) ns' rs' pl' xs' l' → Core (i + 1 - zn) (i + 1) rs' pl' xs' → AccOk l' ns' → (∀ x ∈ ns', NameOk x) → ns'.length ≤ i + 1 → (∀ r, rs'.getLast? = some r → txs r = ns'.map (·.1)) → Way way' (ns'.map (·.1)) → way'.length ≤ 3 + 4 * (i + 1) → TriplesOk p1'.toList → TriplesOk p2'.toList → Q .next { s with heap := h', toks := tk, gens := gs }) :
    wpAny (model PG w) ((Ar 800 2800 outer).deeper (envO fo L)) (execs (turnOf (bodyO fo)) (envO fo L)) Q (fun _ _ => False) s := by
  obtain ⟨hx3, hxs⟩ := stepTxt_len hxt
  obtain ⟨hw2, hwl2⟩ := hway.join hxs
  have hll := hacc.len
  have hi29 : i ≤ 29 := Nat.le_of_succ_le hi
  have hi1 : i ≤ 1000 := Nat.le_trans hi29 (by decide)
  have hj1 : (joinF way x).length ≤ 3 + 4 * (i + 1) := way_step hwl hx3 hwl2
  have hw1 : 3 + 4 * (i + 1) ≤ 900 := way_fits hi
  obtain ⟨nn, hna⟩ := O.na
  have hld := O.ld
  refine execs_split 1 ?_
  refine turn_way ho X T hsl hx hsz F WW N (way_now hwl hi) (Nat.le_trans hx3 (by decide)) ?_
  rintro h1 tk1 m1 ⟨wt1, W1⟩ F1 N1
  clear N F
  have fin : ∀ (h2 : Heap) (tk2 : Nat) (m2 : Str → Option Value) (R2 : List (Addr × Obj)) (na2 : Addr) (ns2 : List (Str × Tok)) (l2 : List Pr) (n02 : Nat), WM m2 i t S ta pa ra na2 sa (joinF way x) wt1 (zn : Int) zt → Fr g L h2 m2 →
      News g L h2 (six S ta pa ra ld l2 n02 xs n1 pl n2 rs n3 p1 p2 ++ (R2 ++ own)) → Ctx own R2 S ta pa ra → (∀ p ∈ R, p ∈ R2) → (∃ nn, (na2, W.listOf (strValues ns2).toArray nn) ∈ R2) → (∀ x ∈ l2, (x.1, tup2 (.str x.2.1.1 x.2.1.2) (.str x.2.2.1 x.2.2.2)) ∈ R2) → AccOk l2 ns2 → (∀ x ∈ ns2, NameOk x) → ns2.length ≤ i + 1 →
      StepRel (ns.map (·.1)) (ns2.map (·.1)) → Way (joinF way x) (ns2.map (·.1)) → wpAny (model PG w) ((Ar 800 2800 outer).deeper (envO fo L)) (execs ((turnOf (bodyO fo)).drop 2) (envO fo L)) Q (fun _ _ => False) { s with heap := h2, toks := tk2 } := by
    intro h2 tk2 m2 R2 na2 ns2 l2 n02 W2 F2 N2 C2 hsub hna2 hpr2 hacc2 hg2 hnl2 hst2 hway2
    refine turn_tail ho X T M F2 W2 N2 C2 ⟨hsub _ hld, hna2, fun r hr => let ⟨n, q⟩ := O.rs r hr; ⟨n, hsub _ q⟩, fun y hy => (O.xs y hy).mono hsub rfl, hpr2⟩ hz0 hz1 co hacc2 (Nat.le_trans hi (by decide)) hg2 (Nat.le_trans hnl2 (Nat.le_trans hi (by decide))) (fun r hr => by rw [hlast r hr]; exact hst2) hway2 (Nat.le_trans hj1 hw1) ht1 ht2 ?_
    intro h3 tk3 gs3 m3 R3 pt xs3 l3 a0 a1 a2 a3 q1 q2 hB3 W3 F3 N3 C3 O3 co3 hacc3 ht13 ht23
    refine next _ _ _ _ _ _ _ _ _ _ _ _ _ _ _ _ _ _ _ hB3 W3 F3 N3 C3 O3 co3 hacc3 hg2 hnl2 (fun r hr => ?_) hway2 hj1 ht13 ht23
    rw [List.getLast?_concat] at hr
    cases hr
    rfl
  dsimp only
  refine seq_at _ 1 1 ?_
  rcases hxt with rfl | hdown | hstay
  · rw [up_fold] at hw2
    rcases List.eq_nil_or_concat ns with rfl | ⟨ms, q, rfl⟩
    · have hl0 : l = [] := List.length_eq_zero_iff.mp (by rw [hll]; rfl)
      subst hl0
      refine turn_up0 ho (n := n0) (nn := nn) (ld := ld) (hs := hs) (kt := kt) (zt' := zt') (zz := (zn : Int))
        (rest := (ta, W.listOf (itV xs).toArray n1) :: (pa, W.listOf (strValues pl).toArray n2) :: (ra, W.listOf (rs.map fun r => Value.ref r.1).toArray n3) :: (63, tabObj p1) :: (70, tabObj p2) :: (R ++ own)) X T hsl hx hsz F1 W1 (by (have n0 := N1; walk_at "m_re")) (by (have c0 := C; walk_at "m_off")) (by walk_at "m_in") (by walk_at "m_in") ?_
      intro h2 tk2 m2 D n' W2 F2 N2 A2
      have C2 := C.grow A2 ⟨_, by walk_at "m_in"⟩ ⟨_, by walk_at "m_in"⟩ ⟨_, by walk_at "m_in"⟩ ⟨_, by walk_at "m_in"⟩ ⟨_, by walk_at "m_in"⟩ ⟨_, by walk_at "m_in"⟩ (fun q hq => by walk_at "m_in")
      exact fin h2 tk2 m2 _ D [] [] n0 W2 F2 (by (have n0 := N2; walk_at "m_re")) C2 (fun p hp => List.mem_append_right _ hp) ⟨n', List.mem_append_left _ (.head _)⟩ (fun _ h => nomatch h) rfl (fun _ h => nomatch h) (Nat.zero_le _) (.inl rfl) hw2
    · rw [List.concat_eq_append] at *
      obtain ⟨c, cu⟩ := q
      rcases List.eq_nil_or_concat l with rfl | ⟨l1, p, rfl⟩
      · simp at hll
      rw [List.concat_eq_append] at *
      have hac : AccOk l1 ms ∧ (p.2.1.1, p.2.2.1) = (Str.ofString "/", c) := by
        unfold AccOk at hacc
        rw [List.map_append, List.map_append] at hacc
        obtain ⟨e1, e2⟩ := List.append_inj' hacc rfl
        exact ⟨e1, (List.cons.inj e2).1⟩
      obtain ⟨pD, ⟨pa1, pt1⟩, ⟨pb1, pt2⟩⟩ := p
      obtain ⟨rfl, rfl⟩ : pa1 = Str.ofString "/" ∧ pb1 = c := ⟨(Prod.mk.inj hac.2).1, (Prod.mk.inj hac.2).2⟩
      have hnc := hg _ (List.mem_append_right _ (.head _))
      have hpr := O.pr _ (List.mem_append_right _ (.head _))
      have e1 : strValues (ms ++ [(pb1, cu)]) = strValues ms ++ [Value.str pb1 cu] := by simp [strValues]
      have e2 : accV (l1 ++ [(pD, (Str.ofString "/", pt1), (pb1, pt2))]) = accV l1 ++ [Value.ref pD] := by simp [accV]
      rw [e1] at hna
      unfold six at N1
      rw [e2] at N1
      refine turn_up1 ho (n := n0) (nn := nn) (ld := ld) (pr := pD) (ms := ms) (x := pb1) (vs := accV l1) (hs := hs) (kt := kt) (zt' := zt') (zz := (zn : Int))
        (rest := (ta, W.listOf (itV xs).toArray n1) :: (pa, W.listOf (strValues pl).toArray n2) :: (ra, W.listOf (rs.map fun r => Value.ref r.1).toArray n3) :: (63, tabObj p1) :: (70, tabObj p2) :: (R ++ own)) X T hsl hx hsz F1 W1 (by (have n0 := N1; walk_at "m_re")) (by (have c0 := C; walk_at "m_off")) (by walk_at "m_in") (by walk_at "m_in") (by unfold accV; rw [List.length_map]; simp at hll hnl; omega) (by simp at hnl; omega) hnc.2.2 (by walk_at "m_in") ?_
      intro h2 tk2 m2 D n' n2' W2 F2 N2 A2
      have C2 := C.grow A2 ⟨_, by walk_at "m_in"⟩ ⟨_, by walk_at "m_in"⟩ ⟨_, by walk_at "m_in"⟩ ⟨_, by walk_at "m_in"⟩ ⟨_, by walk_at "m_in"⟩ ⟨_, by walk_at "m_in"⟩ (fun q hq => by walk_at "m_in")
      refine fin h2 tk2 m2 _ D ms l1 n2' W2 F2 (by (have n0 := N2; walk_at "m_re")) C2 (fun p hp => List.mem_append_right _ hp) ⟨n', List.mem_append_left _ (.head _)⟩ (fun x hx => List.mem_append_right _ (O.pr x (List.mem_append_left _ hx))) hac.1 (fun x hx => hg x (List.mem_append_left _ hx)) (by simp at hnl; omega) (.inr (.inr ⟨pb1, by rw [List.map_append]; rfl⟩)) ?_
      rw [List.map_append, show ([(pb1, cu)] : List (Str × Tok)).map (·.1) = [pb1] from rfl, List.dropLast_concat] at hw2
      exact hw2
  · obtain ⟨hnx, hfold⟩ := stepTxt_name (u := xt) hdown
    rw [hfold] at hw2
    refine turn_down ho (n := n0) (nn := nn) (ld := ld) (ns := ns) (x := x) (vs := accV l) (hs := hs) (kt := kt) (zt' := zt') (zz := (zn : Int))
      (rest := (ta, W.listOf (itV xs).toArray n1) :: (pa, W.listOf (strValues pl).toArray n2) :: (ra, W.listOf (rs.map fun r => Value.ref r.1).toArray n3) :: (63, tabObj p1) :: (70, tabObj p2) :: (R ++ own)) X T hsl hx hdown hsz F1 W1 (by (have n0 := N1; walk_at "m_re")) (by (have c0 := C; walk_at "m_off")) (by walk_at "m_in") (by unfold accV; rw [List.length_map, hll]; exact Nat.le_trans hnl hi1) (Nat.le_trans hnl hi1) (by walk_at "m_in") ?_
    intro h2 tk2 m2 D D2 n' n2' t2 W2 F2 N2 A2
    have C2 := C.grow A2 ⟨_, by walk_at "m_in"⟩ ⟨_, by walk_at "m_in"⟩ ⟨_, by walk_at "m_in"⟩ ⟨_, by walk_at "m_in"⟩ ⟨_, by walk_at "m_in"⟩ ⟨_, by walk_at "m_in"⟩ (fun q hq => by walk_at "m_in")
    have e2 : accV (l ++ [(D2, (Str.ofString "/", t2), (x, xt))]) = accV l ++ [Value.ref D2] := by simp [accV]
    rw [← e2] at N2
    refine fin h2 tk2 m2 _ D (ns ++ [(x, xt)]) (l ++ [(D2, (Str.ofString "/", t2), (x, xt))]) n2' W2 F2 (by (have n0 := N2; walk_at "m_re")) C2 (fun p hp => List.mem_append_right _ hp) ⟨n', List.mem_append_left _ (.head _)⟩ (fun y hy => ?_) ?_ (fun y hy => ?_) (by rw [List.length_append]; exact Nat.succ_le_succ hnl) (.inr (.inl ⟨x, by rw [List.map_append]; rfl⟩)) (by rw [List.map_append]; exact hw2)
    · rcases List.mem_append.mp hy with h | h
      · exact List.mem_append_right _ (O.pr y h)
      · rw [List.mem_singleton.mp h]
        exact List.mem_append_left _ (.tail _ (.head _))
    · unfold AccOk at *
      rw [List.map_append, List.map_append, hacc]; rfl
    · rcases List.mem_append.mp hy with h | h
      · exact hg y h
      · rw [List.mem_singleton.mp h]; exact hnx
  · rw [stay_fold hstay] at hw2
    refine turn_stay ho (n := n0) (ld := ld) (x := x) (vs := accV l)
      (rest := (ta, W.listOf (itV xs).toArray n1) :: (pa, W.listOf (strValues pl).toArray n2) :: (ra, W.listOf (rs.map fun r => Value.ref r.1).toArray n3) :: (63, tabObj p1) :: (70, tabObj p2) :: (R ++ own)) X T hsl hx hstay hsz F1 W1 (by (have n0 := N1; walk_at "m_re")) (by (have c0 := C; walk_at "m_off")) ?_
    intro h2 tk2 m2 W2 F2 N2
    exact fin h2 tk2 m2 R na ns l n0 W2 F2 (by (have n0 := N2; walk_at "m_re")) C (fun p hp => hp) ⟨nn, hna⟩ O.pr hacc hg (Nat.le_succ_of_le hnl) (.inl rfl) hw2

theorem Ctx.toOwn {own R : List (Addr × Obj)} {S ta pa ra ld : Addr} {l : List Pr} {n0 : Nat} {xs : List It} {n1 : Nat} {pl : List (Str × Tok)} {n2 : Nat} {rs : List (Addr × List (Str × Tok))} {n3 : Nat} {p1 p2 : Array Value} (C : Ctx [] R S ta pa ra) (h : ∀ p ∈ own, ∀ q ∈ six S ta pa ra ld l n0 xs n1 pl n2 rs n3 p1 p2 ++ R, p.1 ≠ q.1) : Ctx own R S ta pa ra := by
  have key : ∀ (x : Addr) (o : Obj), (x, o) ∈ six S ta pa ra ld l n0 xs n1 pl n2 rs n3 p1 p2 ++ R → (∀ p ∈ R ++ [], p.1 ≠ x) → ∀ p ∈ R ++ own, p.1 ≠ x := fun x o hx ho p hp => by
    rcases List.mem_append.mp hp with q | q
    · exact ho p (List.mem_append_left _ q)
    · exact h p q _ hx
  exact { C with
    oS := key S _ (.head _) C.oS
    oT := key ta _ (.tail _ (.head _)) C.oT
    oP := key pa _ (.tail _ (.tail _ (.head _))) C.oP
    oR := key ra _ (.tail _ (.tail _ (.tail _ (.head _)))) C.oR
    o1 := key 63 _ (.tail _ (.tail _ (.tail _ (.tail _ (.head _))))) C.o1
    o2 := key 70 _ (.tail _ (.tail _ (.tail _ (.tail _ (.tail _ (.head _)))))) C.o2
    ow := fun p hp q hq => Ne.symm (h q hq p (List.mem_append_right _ hp)) }
theorem Ctx.toNil {own R : List (Addr × Obj)} {S ta pa ra : Addr} (C : Ctx own R S ta pa ra) : Ctx [] R S ta pa ra := by
  have key : ∀ p ∈ R ++ [], p ∈ R ++ own := fun p hp => by rw [List.append_nil] at hp; exact List.mem_append_left _ hp
  exact { C with
    oS := fun p hp => C.oS p (key p hp)
    oT := fun p hp => C.oT p (key p hp)
    oP := fun p hp => C.oP p (key p hp)
    oR := fun p hp => C.oR p (key p hp)
    o1 := fun p hp => C.o1 p (key p hp)
    o2 := fun p hp => C.o2 p (key p hp)
    ow := fun _ _ _ hq => nomatch hq }
theorem Ctx.sep {own R : List (Addr × Obj)} {S ta pa ra ld : Addr} {l : List Pr} {n0 : Nat} {xs : List It} {n1 : Nat} {pl : List (Str × Tok)} {n2 : Nat} {rs : List (Addr × List (Str × Tok))} {n3 : Nat} {p1 p2 : Array Value} (C : Ctx own R S ta pa ra) : ∀ p ∈ six S ta pa ra ld l n0 xs n1 pl n2 rs n3 p1 p2 ++ R, ∀ q ∈ own, p.1 ≠ q.1 := by
  intro p hp q hq
  have hq' : q ∈ R ++ own := List.mem_append_right _ hq
  simp only [six, List.cons_append, List.nil_append, List.mem_cons] at hp
  rcases hp with e | e | e | e | e | e | hp
  · rw [e]; exact Ne.symm (C.oS q hq')
  · rw [e]; exact Ne.symm (C.oT q hq')
  · rw [e]; exact Ne.symm (C.oP q hq')
  · rw [e]; exact Ne.symm (C.oR q hq')
  · rw [e]; exact Ne.symm (C.o1 q hq')
  · rw [e]; exact Ne.symm (C.o2 q hq')
  · exact C.ow p hp q hq
theorem WM.next {m : Str → Option Value} {i j : Nat} {t t2 : Tok} {S ta pa ra na sa : Addr} {way : Str} {wt zt : Tok} {z : Int} (W : WM m i t S ta pa ra na sa way wt z zt) : WM (fun y => if y = Str.ofString "now" then some (.int (j : Int) t2) else m y) j t2 S ta pa ra na sa way wt z zt :=
  ⟨if_pos rfl, (if_neg (by decide)).trans W.stack, (if_neg (by decide)).trans W.tops, (if_neg (by decide)).trans W.places, (if_neg (by decide)).trans W.rows, (if_neg (by decide)).trans W.names, (if_neg (by decide)).trans W.way, (if_neg (by decide)).trans W.steps, (if_neg (by decide)).trans W.size⟩
theorem core_nil (lo : Nat) : Core lo 0 [] [] [] :=
  ⟨by decide, rfl, rfl, (fun _ h => nomatch h), (fun j a b h => by simp at h), (fun j _ h => absurd h (Nat.not_lt_zero _)), (fun _ h => nomatch h), List.nodup_nil, (fun j _ h => absurd h (Nat.not_lt_zero _)), Nat.le_refl _⟩
/-- between the turns of the walk -/
inductive WalkInv (S ta pa ra sa ld : Addr) (hs : Int) (kt zt : Tok) (zn i : Nat) (m : Str → Option Value) (nx : List (Addr × Obj)) : Prop
  | mk (R : List (Addr × Obj)) (na : Addr) (ns : List (Str × Tok)) (way : Str) (wt : Tok) (rs : List (Addr × List (Str × Tok))) (pl : List (Str × Tok)) (xs : List It) (l : List Pr) (n0 n1 n2 n3 : Nat) (p1 p2 : Array Value) :
      (∀ t : Tok, WM (fun y => if y = Str.ofString "now" then some (.int (i : Int) t) else m y) i t S ta pa ra na sa way wt (zn : Int) zt) → nx = six S ta pa ra ld l n0 xs n1 pl n2 rs n3 p1 p2 ++ R → Ctx [] R S ta pa ra →
      Objs R ld na hs kt zt (zn : Int) ns rs pl xs l → Core (i - zn) i rs pl xs → AccOk l ns → (∀ x ∈ ns, NameOk x) → ns.length ≤ i → (∀ r, rs.getLast? = some r → txs r = ns.map (·.1)) → Way way (ns.map (·.1)) → way.length ≤ 3 + 4 * i → TriplesOk p1.toList → TriplesOk p2.toList → WalkInv S ta pa ra sa ld hs kt zt zn i m nx
section
local macro_rules | `(tactic| walk_at "call type:range") => `(tactic| (k_here; refine Hold.out ?_))
local macro_rules | `(tactic| walk_at "call builtin:len") => `(tactic| (k_here; (with_reducible show wpAny _ _ (call (Value.builtin "len") [Value.ref _]) _ _ _); k_dflt (refine' len_isl (by k_asm) (by assumption) (by assumption) (by assumption) ?_; k_whole)))
local macro_rules | `(tactic| k_enter) => `(tactic| (refine' enterH (by k_asm) (by k_asm) (by assumption) (by assumption) (by assumption) (by k_is) (by k_is) (by k_room) (by exact BindsTo.of_eq rfl) (by exact locs rfl) ?_ (by exact rfl) (by exact rfl) (by exact rfl) (by decide); k_whole; intro g L' h' tk' kg' F' N' X' T' l1'; (try dsimp only)))
local macro_rules | `(tactic| walk_at "call ref") => `(tactic| (k_here; refine Hold.out ?_))
local macro_rules | `(tactic| walk_at "exec For Name Call cons nil") => `(tactic| (k_here; refine Hold.out ?_))
set_option maxHeartbeats 4000000 in
theorem walk_c (w : World) (outer : List Env) (s : Shared) (h₀ : Heap) (mg mb : Str → Option Value) (Q E : Value → Shared → Prop) (sa : Addr) (sl : List (Str × Tok)) (b0 : Str) (bt : Tok) (zn : Nat) (zt : Tok) (bm : Addr) (ob : Obj) (hsl : h₀.IsList sa (strValues sl).toArray) (hsz : sl.length ≤ 12) (hst : ∀ x ∈ sl, StepTxt x.1) (hb0 : Way b0 []) (hbl : b0.length ≤ 3) (hz0 : 0 < zn) (hz1 : zn < 1000) :
    (hd.heap_1 w.params).In h₀ → TopRead VW LW mg mb h₀ → BMod h₀ mainGlobals mg bm ob → Keeps h₀ s.heap → (∀ p ∈ [((63 : Addr), tabObj #[]), (70, tabObj #[])], h₀.get? p.1 = none) → (∀ p ∈ [((63 : Addr), tabObj #[]), (70, tabObj #[])], s.heap.get? p.1 = some p.2) →
    (∀ h' tk gs, (AllBare s.gens → AllBare gs) → (∀ b o, b ∉ [(63 : Addr), 70] → s.heap.get? b = some o → h'.get? b = some o) → (∃ p, h'.get? 63 = some (tabObj p)) → (∃ p, h'.get? 70 = some (tabObj p)) → Q (.bool true) { s with heap := h', toks := tk, gens := gs }) →
    wpAny (model PG w) (Ar 800 2800 outer) (call (.ref 268) [.ref sa, .str b0 bt, .int (zn : Int) zt]) Q E s := by
  unfold PG VW LW
  k_fill
  intro X T M hsub hh hat hret
  refine wpAny_call ?_
  k_dflt k_enter
  rename ∀ b o, _ → s.heap.get? b = some o → _ => kg
  have kg0 := keep_base hsub hh kg
  have hslg := hsl.at fun o e => kg0 _ o e
  have Mg := M.keeps kg0
  k_steps
  with_reducible show Hold _
  rename_i g L0 h0 tk0 X' T' l1' ha na hb l1a hc tkA ra hd' l1b he tkB pa hf l1c hg tkC ta hh' l1d hi F5 N5
  refine use_pure (acc_c w (zn : Int) zt) F5 N5 X' T' rfl True.intro ?_
  rintro r h6 tk6 ⟨S, ld, hs, kt, rfl, hne, hS, hld, hnS, hnl⟩ F6 N6 new6
  obtain ⟨NS, aS⟩ := new6 _ _ hnS hS
  obtain ⟨Nl, al⟩ := new6 _ _ hnl hld
  have bS := gnNe_mem aS
  have bl := gnNe_mem al
  have N7 : News g L0 h6 (six S ta pa ra ld [] 0 [] 0 [] 0 [] 0 #[] #[] ++ [(ld, accD hs kt zt (zn : Int)), (na, W.listOf (strValues []).toArray 0)]) := by
    intro p hp
    simp only [six, List.cons_append, List.nil_append, List.mem_cons, List.not_mem_nil, or_false] at hp
    rcases hp with hp | hp | hp | hp | hp | hp | hp | hp
    all_goals (rw [hp]; first | exact NS _ (by walk_at "m_in") | exact Nl _ (by walk_at "m_in"))
  clear new6 NS Nl F5 N5 N6
  k_steps
  with_reducible show Hold _
  have hln : (strValues sl).length = sl.length := len_strs sl
  have hlz : (strValues sl).length ≤ 2097152 := by rw [hln]; omega
  rename Fr _ _ _ _ => F8
  rename News _ _ _ _ => N8
  refine for_range (n := sl.length) (h₀ := g) (news := six S ta pa ra ld [] 0 [] 0 [] 0 [] 0 #[] #[] ++ [(ld, accD hs kt zt (zn : Int)), (na, W.listOf (strValues []).toArray 0)])
    (WalkInv S ta pa ra sa ld hs kt zt zn)
    rfl ?hiter (by omega) rfl rfl F8 N8 ?h0 ?turn ?done
  case hiter =>
    intro Q' hq
    k_steps
    with_reducible show Hold _
    refine call_range_1 ?_
    refine hq _ _ _ _ _ _ (IsRange.new _ _ _ _ _ _ _) fun b o e => Heap.get?_push_of_some _ e
  case h0 =>
    have e1 : @Ne Nat S ta := Ne.symm (bS (ta, W.listOf #[] 0) (by walk_at "m_in"))
    have e2 : @Ne Nat S pa := Ne.symm (bS (pa, W.listOf #[] 0) (by walk_at "m_in"))
    have e3 : @Ne Nat S ra := Ne.symm (bS (ra, W.listOf #[] 0) (by walk_at "m_in"))
    have e4 : @Ne Nat S na := Ne.symm (bS (na, W.listOf #[] 0) (by walk_at "m_in"))
    have e5 : @Ne Nat S 63 := Ne.symm (bS (63, tabObj #[]) (by walk_at "m_in"))
    have e6 : @Ne Nat S 70 := Ne.symm (bS (70, tabObj #[]) (by walk_at "m_in"))
    have f1 : @Ne Nat ld ta := Ne.symm (bl (ta, W.listOf #[] 0) (by walk_at "m_in"))
    have f2 : @Ne Nat ld pa := Ne.symm (bl (pa, W.listOf #[] 0) (by walk_at "m_in"))
    have f3 : @Ne Nat ld ra := Ne.symm (bl (ra, W.listOf #[] 0) (by walk_at "m_in"))
    have f5 : @Ne Nat ld 63 := Ne.symm (bl (63, tabObj #[]) (by walk_at "m_in"))
    have f6 : @Ne Nat ld 70 := Ne.symm (bl (70, tabObj #[]) (by walk_at "m_in"))
    refine ⟨[(ld, accD hs kt zt (zn : Int)), (na, W.listOf (strValues []).toArray 0)], na, [], b0, bt, [], [], [], [], 0, 0, 0, 0, #[], #[], fun t => ?_, rfl, ?_, ?_, ?_, rfl, (fun _ h => nomatch h), Nat.zero_le _, (fun _ h => nomatch h), hb0, by omega, ?_, ?_⟩
    · exact ⟨rfl, rfl, rfl, rfl, rfl, rfl, rfl, rfl, rfl⟩
    · exact ⟨e1, e2, e3, e5, e6, Nat.ne_of_gt l1d.1, Nat.ne_of_gt l1d.2.1, Nat.ne_of_gt l1d.2.2.2.1, Nat.ne_of_gt l1d.2.2.2.2, Nat.ne_of_gt l1c.1, Nat.ne_of_gt l1c.2.2.1, Nat.ne_of_gt l1c.2.2.2, Nat.ne_of_gt l1b.2.1, Nat.ne_of_gt l1b.2.2,
        off_cons (Ne.symm hne) (off_cons (Ne.symm e4) fun _ h => nomatch h), off_cons f1 (off_cons (Nat.ne_of_lt l1d.2.2.1) fun _ h => nomatch h), off_cons f2 (off_cons (Nat.ne_of_lt l1c.2.1) fun _ h => nomatch h), off_cons f3 (off_cons (Nat.ne_of_lt l1b.1) fun _ h => nomatch h),
        off_cons f5 (off_cons (Nat.ne_of_gt l1a.1) fun _ h => nomatch h), off_cons f6 (off_cons (Nat.ne_of_gt l1a.2) fun _ h => nomatch h), fun _ _ _ h => nomatch h⟩
    · exact ⟨.head _, ⟨0, .tail _ (.head _)⟩, (fun _ h => nomatch h), (fun _ h => nomatch h), (fun _ h => nomatch h)⟩
    · exact core_nil _
    · exact trivial
    · exact trivial
  case turn =>
    rintro i t m₁ news₁ h tk gs own _ hi ⟨R, na1, ns, way, wt, rs, pl, xs, l, n0, n1, n2, n3, p1, p2, hW, rfl, hC, hO, hco, hac, hg, hnl, hla, hwy, hwl, ht1, ht2⟩ hsep F1 N1
    have ho := (by k_is : (hd.heap_1 w.params).lookup 268 = some ⟨_, _, .func (fnX _ _ _ _ _ _ _ _ _ _ _ _ _), _⟩)
    obtain ⟨⟨x, xt⟩, hx⟩ : ∃ q, sl[i]? = some q := ⟨_, List.getElem?_eq_getElem hi⟩
    refine turn_full ho X' T' Mg hslg hx (by omega) (hst _ (List.mem_of_getElem? hx)) F1 (hW t) (by rw [← List.append_assoc]; exact N1) (hC.toOwn hsep) hO hz0 hz1 hco hac (by omega) hg hnl hla hwy hwl ht1 ht2 ?_
    intro h' tk' gs' m' R' na' ns' way' wt' rs' pl' xs' l' a0 a1 a2 a3 q1 q2 hB' W' F' N' C' O' co' ac' g' nl' la' wy' wl' ht1' ht2'
    refine ⟨h', tk', gs', m', six S ta pa ra ld l' a0 xs' a1 pl' a2 rs' a3 q1 q2 ++ R', rfl, F', by rw [List.append_assoc]; exact N', C'.sep, hB', R', na', ns', way', wt', rs', pl', xs', l', a0, a1, a2, a3, q1, q2, fun t2 => W'.next, rfl, C'.toNil, O', co', ac', g', nl', la', wy', wl', ht1', ht2'⟩
  case done =>
    rintro m9 nx9 h9 tk9 gs9 hB9 ⟨R, na1, ns, way, wt, rs, pl, xs, l, n0, n1, n2, n3, p1, p2, hW, rfl, _⟩ F9 N9
    have z1 := (N9 (63, tabObj p1) (by unfold six; walk_at "m_in")).1
    have z2 := (N9 (70, tabObj p2) (by unfold six; walk_at "m_in")).1
    k_steps
    dsimp only
    exact hret _ _ _ hB9 (kbut F9 kg) ⟨p1, z1⟩ ⟨p2, z2⟩
end

section
set_option maxHeartbeats 4000000 in
theorem step_c (w : World) (v : Int) (t : Tok) (h0 : 0 ≤ v) (h8 : v < 8) : PureC w 253 [.int v t] 900 4000 (fun _ => True) (fun _ r _ => ∃ x u, r = .str x u ∧ StepTxt x) := by
  have hv : v = 0 ∨ v = 1 ∨ v = 2 ∨ v = 3 ∨ v = 4 ∨ v = 5 ∨ v = 6 ∨ v = 7 := by
    obtain ⟨n, rfl⟩ := Int.eq_ofNat_of_zero_le h0
    have hn : n < 8 := Int.ofNat_lt.mp h8
    exact (by decide : ∀ n : Nat, n < 8 → (n : Int) = 0 ∨ (n : Int) = 1 ∨ (n : Int) = 2 ∨ (n : Int) = 3 ∨ (n : Int) = 4 ∨ (n : Int) = 5 ∨ (n : Int) = 6 ∨ (n : Int) = 7) n hn
  clear h0 h8
  unfold PureC PG LW VW
  k_fill
  rcases hv with rfl | rfl | rfl | rfl | rfl | rfl | rfl | rfl
  all_goals intro outer s mg mb Q E X T _ hret
  all_goals refine wpAny_call ?_
  all_goals k_dflt k_enter
  all_goals k_steps
  all_goals dsimp only
  all_goals refine hret _ _ _ ⟨_, _, rfl, ?_⟩ (Fr.keep (by with_reducible assumption))
  · exact .inr (.inl (.inl rfl))
  · exact .inr (.inl (.inr (.inl rfl)))
  · exact .inr (.inl (.inr (.inr rfl)))
  · exact .inl rfl
  · exact .inl rfl
  · exact .inl rfl
  · exact .inr (.inr (.inl rfl))
  · exact .inr (.inr (.inr rfl))
end

section
variable {h : Heap} {mg mb : Str → Option Value} {bm : Addr} {ob : Obj}
theorem hide_get (hT : ∀ P ∈ [(63 : Addr), 70], h.get? P = some (tabObj #[])) {b : Addr} {o : Obj} (e : h.get? b = some o) (hn : o ≠ tabObj #[]) : (hideAll h [63, 70]).get? b = some o :=
  hideAll_get _ e fun hm => hn (Option.some.inj (e.symm.trans (hT b hm)))
theorem hide_ns (hT : ∀ P ∈ [(63 : Addr), 70], h.get? P = some (tabObj #[])) {a : Addr} {mm : Str → Option Value} (x : h.Ns a mm) : (hideAll h [63, 70]).Ns a mm :=
  let ⟨o, es, ep, e, hd, r⟩ := x; ⟨o, es, ep, hide_get hT e (fun q => by rw [q] at hd; cases hd), hd, r⟩
theorem hide_list (hT : ∀ P ∈ [(63 : Addr), 70], h.get? P = some (tabObj #[])) {a : Addr} {its : Array Value} (x : h.IsList a its) : (hideAll h [63, 70]).IsList a its := by
  obtain ⟨o, e, hc, r⟩ := x
  exact ⟨o, hide_get hT e (fun q => by rw [q] at hc; cases hc), hc, r⟩
theorem hide_top {p : Program} {loose : List Str} (hT : ∀ P ∈ [(63 : Addr), 70], h.get? P = some (tabObj #[])) (T : TopRead p loose mg mb h) : TopRead p loose mg mb (hideAll h [63, 70]) :=
  ⟨hide_ns hT T.g, hide_ns hT T.b, let ⟨mc, a, r⟩ := T.nolimit; ⟨mc, hide_ns hT a, r⟩, T.builtins, T.free⟩
theorem hide_bmod (hT : ∀ P ∈ [(63 : Addr), 70], h.get? P = some (tabObj #[])) (M : BMod h mainGlobals mg bm ob) : BMod (hideAll h [63, 70]) mainGlobals mg bm ob :=
  ⟨hide_ns hT M.ns, M.name, M.ne, hide_get hT M.obj (fun q => by have := M.cls; rw [q] at this; cases this), M.cls, M.dict, M.data⟩
theorem hide_K {K : Frag} (hT : ∀ P ∈ [(63 : Addr), 70], h.get? P = some (tabObj #[])) (X : K.In h) (hK : noTabs K = true) : K.In (hideAll h [63, 70]) := fun a o e => by
  refine hide_get hT (X a o e) fun q => ?_
  have h2 := List.all_eq_true.mp hK (a, o) (mem_of_lookupK e)
  subst q
  exact absurd (show false = true from h2) Bool.false_ne_true
end
theorem oldK_tabs {h₀ h : Heap} {c1 c2 : Addr} (t1 : h₀.TableAt c1 63 #[]) (t2 : h₀.TableAt c2 70 #[]) (keep : ∀ b o, b ∉ [(63 : Addr), 70] → h₀.get? b = some o → h.get? b = some o) (z1 : ∃ p, h.get? 63 = some (tabObj p)) (z2 : ∃ p, h.get? 70 = some (tabObj p)) : OldK h₀ h := by
  have one : ∀ (P c : Addr), h₀.TableAt c P #[] → (∃ p, h.get? P = some (tabObj p)) → ∀ o, h₀.get? P = some o → asItWas h₀ h P o := fun P c t ⟨p, z⟩ o e => by
    have e₀ : o = { cls := .none, data := .fields #[] } := Option.some.inj (e.symm.trans t.2)
    subst e₀
    exact .inr (.inl ⟨t.isCodeTable, rfl, #[], p, rfl, by rw [Array.empty_append]; exact z⟩)
  refine ⟨fun b o e => ?_, fun b o e => ?_⟩
  · by_cases h1 : b = 63
    · subst h1; exact one 63 c1 t1 z1 o e
    · by_cases h2 : b = 70
      · subst h2; exact one 70 c2 t2 z2 o e
      · exact .inl (keep b o (by simp only [List.mem_cons, List.not_mem_nil, or_false, not_or]; exact ⟨h1, h2⟩) e)
  · by_cases h1 : b = 63
    · subst h1; exact let ⟨p, z⟩ := z1; ⟨_, z⟩
    · by_cases h2 : b = 70
      · subst h2; exact let ⟨p, z⟩ := z2; ⟨_, z⟩
      · exact ⟨o, keep b o (by simp only [List.mem_cons, List.not_mem_nil, or_false, not_or]; exact ⟨h1, h2⟩) e⟩
theorem zn_of (x : Int) : ∃ zn : Nat, 2 + x.fmod 3 = (zn : Int) ∧ 0 < zn ∧ zn < 1000 := by
  have h1 := Int.fmod_nonneg_of_pos x (show (0 : Int) < 3 by decide)
  have h2 := Int.fmod_lt_of_pos x (show (0 : Int) < 3 by decide)
  exact ⟨(2 + x.fmod 3).toNat, by omega, by omega, by omega⟩
theorem way_one : Way (Str.ofString "/") [] := ⟨Str.ofString "", by decide +kernel, .inl (by decide), by decide +kernel⟩
theorem way_three : Way (Str.ofString "///") [] := ⟨Str.ofString "//", by decide +kernel, .inr (.inr ⟨[], by decide⟩), by decide +kernel⟩
theorem walk_z {w : World} {A : Around} {s : Shared} {mg mb : Str → Option Value} {Q E : Value → Shared → Prop} {sa : Addr} {sl : List (Str × Tok)} {b0 : Str} {bt zt : Tok} {z : Int} {bm : Addr} {ob : Obj}
    (hA : okA A 800 2800 = true)
    (X : (hd.heap_1 w.params).In s.heap) (hK : noTabs (hd.heap_1 w.params) = true) (T : TopRead VW LW mg mb s.heap) (M : BMod s.heap mainGlobals mg bm ob) (hT : ∀ P ∈ [(63 : Addr), 70], s.heap.get? P = some (tabObj #[]))
    (hsl : s.heap.IsList sa (strValues sl).toArray) (hsz : sl.length ≤ 12) (hst : ∀ x ∈ sl, StepTxt x.1) (hb0 : Way b0 []) (hbl : b0.length ≤ 3) (hz : ∃ zn : Nat, z = (zn : Int) ∧ 0 < zn ∧ zn < 1000)
    (h : ∀ h' tk gs, (AllBare s.gens → AllBare gs) → (∀ b o, b ∉ [(63 : Addr), 70] → s.heap.get? b = some o → h'.get? b = some o) → (∃ p, h'.get? 63 = some (tabObj p)) → (∃ p, h'.get? 70 = some (tabObj p)) → Q (.bool true) { s with heap := h', toks := tk, gens := gs }) : wpAny (model PG w) A (call (.ref 268) [.ref sa, .str b0 bt, .int z zt]) Q E s := by
  obtain ⟨zn, rfl, hz0, hz1⟩ := hz
  refine wpAny_Ar (fun outer => walk_c w outer s (hideAll s.heap [63, 70]) mg mb Q E sa sl b0 bt zn zt bm ob (hide_list hT hsl) hsz hst hb0 hbl hz0 hz1 (hide_K hT X hK) (hide_top hT T) (hide_bmod hT M) (fun b o e => of_hideAll _ e) (fun p hp => hideAll_none _ ?_) (fun p hp => ?_) h) hA
  · rcases List.mem_cons.mp hp with e | hp
    · rw [e]; exact .head _
    · rw [List.mem_singleton.mp hp]; exact .tail _ (.head _)
  · rcases List.mem_cons.mp hp with e | hp
    · rw [e]; exact hT 63 (.head _)
    · rw [List.mem_singleton.mp hp]; exact hT 70 (.tail _ (.head _))
theorem step_out {vs : List Value} {outs : List Out} (h : Paired (OutIs (fun _ => true) fun v y os => ∃ x u, y = .str x u ∧ StepTxt x ∧ os = []) vs outs) : ∃ sl : List (Str × Tok), outY outs = strValues sl ∧ sl.length = vs.length ∧ ∀ x ∈ sl, StepTxt x.1 := by
  induction h with
  | nil => exact ⟨[], rfl, rfl, fun _ h => nomatch h⟩
  | cons h _ ih =>
    obtain ⟨sl, e1, e2, e3⟩ := ih
    rcases h with ⟨_, y, os, rfl, x, u, rfl, hx, rfl⟩ | ⟨hf, _⟩
    · refine ⟨(x, u) :: sl, ?_, by rw [List.length_cons, List.length_cons, e2], fun z hz => ?_⟩
      · show _ :: outY _ = _; rw [e1]; rfl
      · rcases List.mem_cons.mp hz with e | hz
        · rw [e]; exact hx
        · exact e3 z hz
    · cases hf

theorem news_drop {g h : Heap} {L : Addr} {a : Addr × Obj} {l r : List (Addr × Obj)} (N : News g L h (a :: (l ++ r))) : News g L h (a :: l) := fun p hp => N p ((List.mem_cons.mp hp).elim (fun e => e ▸ .head _) fun q => .tail _ (List.mem_append_left _ q))
theorem wpAny_noE {α : Type} {M : Model} {A : Around} {t : Sem α} {Q : α → Shared → Prop} {E : Value → Shared → Prop} {s : Shared} (h : wpAny M A t Q (fun _ _ => False) s) : wpAny M A t Q E s := wpAny_mono h (fun _ _ x => x) fun _ _ x => x.elim
section
local macro_rules | `(tactic| walk_at "call ref") => `(tactic| (k_here; refine Hold.out ?_))
local macro_rules | `(tactic| walk_at "exec Assign cons ListComp") => `(tactic| (k_here; (with_reducible show wpAny _ _ (exec (PySem.Stmt.Assign [PySem.Expr.Name (PySem.Str.ofString "steps") _] _ _) _) _ _ _); refine Hold.out ?_))
set_option maxHeartbeats 8000000 in
theorem law_holds : PySem.Challenge.rw_ik0196_01.Holds := by
  refine hd ?_
  k_fill
  intro w s₀ s₁ mg mb G Y fa o pm cd doc dV kV ho hd hcd hD hmg hg args vals as hpre hlay hrd hwl hlo
  have KX := km_in_of Y
  have KT := km_tabs_of Y
  have X := (Ground.X G).1
  have V := (Ground.X G).2
  try w_nolog (first | (have GL := glob_more (Ground.glob G (by decide +kernel) (by decide +kernel)) V) | (have GL := glob_more (Ground.glob G (by decide +kernel)) V))
  refine Ground.open G ?_
  intro T B D TE TW
  try (refine guard_noD D (by decide +kernel) ?_; clear D)
  obtain ⟨_, _, M⟩ := bmod_of_top T
  have TA := at_of_top T
  try (obtain ⟨_, _, he, B0⟩ := based_of_top T rfl hmg ho hd; have he' : cd = _ := he; subst he'; clear he)
  clear hmg
  wrow_args hpre hlay hrd hwl hlo
  all_goals (
    first | refine callC_kw (enter_call ?_) | refine enter_call ?_ | refine callC_kw (enter_callW ?_) | refine enter_callW ?_ | w_how
    w_top on
    have K0 := below_caller (Top.heap T)
    w_call any ho hd hcd hD T F
    clear hd TA
    k_drop
    skip)
  k_steps
  with_reducible show Hold _
  rename IntsAre ys _ => hI8
  rename List Int => ns
  rename Fr _ _ _ _ => F1
  rename News _ _ _ _ => N1
  refine wpAny_noE ?_
  refine' assign_seqG (m := frameOf F1) (fun _ => true) (fun v y os => ∃ x u, y = .str x u ∧ StepTxt x ∧ os = []) ?h1 ?h2 ?h3 ?h4 ?h5 ?h6 ?h7 ?h8 ?h9 ?hit ?hs
  case h1 => rfl
  case h2 => rfl
  case h3 => rfl
  case h4 => decide
  case h5 => rfl
  case h6 => decide
  case h7 => rfl
  case h8 => rfl
  case h9 => rfl
  case hs => exact fun _ => rfl
  case hit =>
    k_steps
    have TR := topRead_of ‹Top _ _ _ _ _ _›
    rename IntsAre _ ([0, 2, 3, 1] ++ _) => hIw
    rename Fr _ _ _ _ => F2
    rename News _ _ _ _ => N2
    have hwl := hIw.length
    have hwl12 : ([0, 2, 3, 1] ++ List.map (fun k' : Int => k'.fmod 8) (List.take 8 ns)).length ≤ 12 := by
      rw [List.length_append, List.length_map, List.length_take]
      exact Nat.add_le_add_left (Nat.min_le_left 8 _) 4
    have h8 : ∀ k ∈ [0, 2, 3, 1] ++ List.map (fun k' : Int => k'.fmod 8) (List.take 8 ns), 0 ≤ k ∧ k < 8 := fun k hk => by
      rcases List.mem_append.mp hk with q | q
      · exact (by decide : ∀ k ∈ ([0, 2, 3, 1] : List Int), 0 ≤ k ∧ k < 8) k q
      · obtain ⟨j, _, rfl⟩ := List.mem_map.mp q
        exact ⟨Int.fmod_nonneg_of_pos _ (by decide), Int.fmod_lt_of_pos _ (by decide)⟩
    refine ⟨_, _, rfl, Nat.le_trans (Nat.le_of_eq hwl) (Nat.le_trans hwl12 (by decide)), .inl ⟨_, (N2 _ (.head _)).1, rfl, _, rfl⟩, F2.ns, ?tests, ?helt, ?done⟩
    case tests =>
      intro C i v s₄ m₄ hv hC hn hm kp
      exact wpAny_pure (TestEnd.go rfl fun _ _ e => e)
    case helt =>
      intro C i v s₄ m₄ hv hC hn hm kp _
      obtain ⟨k, t, rfl, hk⟩ := hIw.at i v hv
      obtain ⟨hk0, hk8⟩ := h8 k (List.mem_of_getElem? hk)
      have kS : Keeps s₁.heap s₄.heap := fun b o e => by
        obtain ⟨h5, tk5, rfl, k5⟩ := kp
        exact k5 b o (F2.keep b o e)
      clear F2 N2
      k_steps
      refine gname_global rfl rfl (TR.g.keeps kS) (mg_of KX TR.g (by k_is)) ?_
      k_steps
      · exact KX.keeps kS
      · with_reducible show Hold _
        refine wpAny_Ar (fun outer => step_c w k t hk0 hk8 outer s₄ mg mb _ _ (KX.keeps kS) (TR.keeps kS) True.intro fun r h' tk hr kr => ?_) rfl
        obtain ⟨x, u, rfl, hst⟩ := hr
        exact ⟨[], ⟨x, u, rfl, hst, rfl⟩, ⟨h', tk, rfl, kr⟩, fun q h => nomatch h⟩
    case done =>
      intro D h' tk outs hD hpl hP hO hns hk
      obtain ⟨sl, e1, e2, e3⟩ := step_out hP
      rw [e1] at hpl
      obtain ⟨n3, F3, N3⟩ := asg_news F2 N2 hD hpl hO hns hk
      have hslz : sl.length ≤ 12 := by rw [e2, hwl]; exact hwl12
      replace N3 := news_drop N3
      clear F2 N2 hns hk hO hP hpl
      unfold frameOf at F3
      dsimp only
      k_steps
      all_goals with_reducible show Hold _
      all_goals rename Fr _ _ _ _ => F5
      all_goals rename News _ _ _ _ => N5
      all_goals have hT5 : ∀ P ∈ [(63 : Addr), 70], _ = some (tabObj #[]) := fun P hP => F5.keep _ _ (KT P hP)
      all_goals refine walk_z (sl := sl) rfl (KX.keeps F5.keep) (by kernel_rfl) (TR.keeps F5.keep) (‹BMod _ _ _ _ _›.keeps F5.keep) hT5 ⟨_, (N5 _ (.tail _ (.head _))).1, rfl, _, rfl⟩ hslz e3 (by first | exact way_one | exact way_three) (by decide) (zn_of _) ?_
      all_goals intro h9 tk9 gs9 hB9 hk9 hz1 hz2
      all_goals have t63 : s₁.heap.TableAt 67 63 #[] := ⟨⟨_, _, KX _ _ (by k_is), by rfl, by rfl, by rfl⟩, KT 63 (.head _)⟩
      all_goals have t70 : s₁.heap.TableAt 74 70 #[] := ⟨⟨_, _, KX _ _ (by k_is), by rfl, by rfl, by rfl⟩, KT 70 (.tail _ (.head _))⟩
      all_goals exact ⟨.inl ⟨_, _, [], rfl, fun _ => rfl, .bool true, by first | wrow_post | kc_post, unshared_nil⟩, oldK_tabs t63 t70 (fun b o hb e => hk9 b o hb (F5.keep b o e)) hz1 hz2, rfl, hB9 (AllBare.of_eq hg)⟩
end

end Mine
theorem PySem.Challenge.cw_ik0196_01_holds : PySem.Challenge.rw_ik0196_01.Holds :=
  Mine.law_holds

