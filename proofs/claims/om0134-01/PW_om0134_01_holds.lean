import PyProof.Rows.All
import Wide.All
import OpenK.AllK
import Wide.FinOn
import PySem.Challenge.RW_om0134_01
open PySem PySem.W PyProof.Rows PySem.Spec PySem.Calls
set_option Elab.async false
set_option maxRecDepth 100000
set_option maxHeartbeats 8000000
set_option rowWalk.seconds 0
set_option linter.unusedSimpArgs false
set_option linter.unusedVariables false
namespace Mine
local macro_rules | `(tactic| omega) => `(tactic| lia)
local macro_rules | `(tactic| walk_at $s:str) => `(tactic| k_extra $s)
local macro_rules | `(tactic| k_all) => `(tactic| k_extra "k_all")
local macro_rules | `(tactic| k_lt $h) => `(tactic| (revert $h:ident; intro hx; k_extra "k_lt"))
local macro_rules | `(tactic| k_ne) => `(tactic| k_extra "k_ne")
local macro_rules | `(tactic| k_upd) => `(tactic| k_extra "k_upd")
local macro_rules | `(tactic| k_updF) => `(tactic| k_extra "k_updF")
theorem said : PySem.Challenge.rw_om0134_01.wellSaid = true := by decide +kernel
#guard_msgs (drop error) in
lay_quick_some 0 no_such_name
open_top hd for PySem.Challenge.rw_om0134_01.row
lay_quick_some 0 Nat
theorem at_Base : True := by
  w_top off
  exact trivial
theorem drink {α : Type} (ne : Nonempty α) (P : α → Prop) (h : P (@Classical.epsilon α ne fun x => ¬ P x)) (x : α) : P x :=
  Classical.byContradiction fun hx => @Classical.epsilon_spec α (fun x => ¬ P x) ⟨x, hx⟩ h
noncomputable def world0 : World := ⟨fun _ _ => 0, { strHash := fun _ => 0, shareClass := fun _ => 0, mergeTok := id, idOf := fun _ => 0, idOfShared := fun _ _ => 0, followText := fun _ => false, idOfImm := fun _ => 0 }⟩
theorem mt2 {α : Type} {a0 a1 p : α} {r : List α} (h : p ∈ r) : p ∈ a0 :: a1 ::  r := .tail _ (.tail _ h)
theorem mt4 {α : Type} {a0 a1 a2 a3 p : α} {r : List α} (h : p ∈ r) : p ∈ a0 :: a1 :: a2 :: a3 ::  r := .tail _ (.tail _ (.tail _ (.tail _ h)))
theorem mt8 {α : Type} {a0 a1 a2 a3 a4 a5 a6 a7 p : α} {r : List α} (h : p ∈ r) : p ∈ a0 :: a1 :: a2 :: a3 :: a4 :: a5 :: a6 :: a7 ::  r := .tail _ (.tail _ (.tail _ (.tail _ (.tail _ (.tail _ (.tail _ (.tail _ h)))))))
theorem mt16 {α : Type} {a0 a1 a2 a3 a4 a5 a6 a7 a8 a9 a10 a11 a12 a13 a14 a15 p : α} {r : List α} (h : p ∈ r) : p ∈ a0 :: a1 :: a2 :: a3 :: a4 :: a5 :: a6 :: a7 :: a8 :: a9 :: a10 :: a11 :: a12 :: a13 :: a14 :: a15 ::  r := .tail _ (.tail _ (.tail _ (.tail _ (.tail _ (.tail _ (.tail _ (.tail _ (.tail _ (.tail _ (.tail _ (.tail _ (.tail _ (.tail _ (.tail _ (.tail _ h)))))))))))))))
theorem al_cons {α : Type} {P : α → Prop} {a : α} {r : List α} (h : P a) (t : ∀ p ∈ r, P p) : ∀ p ∈ a :: r, P p := fun p hp => (List.mem_cons.mp hp).elim (fun e => e ▸ h) (t p)
noncomputable abbrev VW : Program := hd.view_1
noncomputable abbrev LS : List Str := looseW hd.view_1 [Str.ofString "_NodeInfo"]
structure Left (h : Heap) (news : List (Addr × Obj)) (h' : Heap) (news' : List (Addr × Obj)) : Prop where
  keep : ∀ b o, h.get? b = some o → b ∉ news.map (·.1) → h'.get? b = some o
  here : ∀ p ∈ news', h'.get? p.1 = some p.2
  new : ∀ p ∈ news', p.1 ∈ news.map (·.1) ∨ h.get? p.1 = none
theorem Left.fr {h₀ h h' : Heap} {L : Addr} {m : Str → Option Value} {news news' : List (Addr × Obj)} (X : Left h news h' news') (F : Fr h₀ L h m) (N : News h₀ L h news) : Fr h₀ L h' m := by
  obtain ⟨oL, a1, a2, hL, a3⟩ := F.ns
  refine ⟨⟨oL, a1, a2, X.keep _ _ hL fun q => ?_, a3⟩, fun b o e => X.keep _ _ (F.keep b o e) fun q => ?_, F.above⟩
  · obtain ⟨p, hp, e⟩ := List.mem_map.mp q
    exact (N p hp).2.1 e
  · obtain ⟨p, hp, rfl⟩ := List.mem_map.mp q
    rw [(N p hp).2.2] at e; cases e
theorem Left.news {h₀ h h' : Heap} {L : Addr} {m : Str → Option Value} {news news' rest : List (Addr × Obj)} (X : Left h news h' news') (F : Fr h₀ L h m) (N : News h₀ L h news) (NR : News h₀ L h rest) (hr : ∀ p ∈ rest, p.1 ∉ news.map (·.1)) : News h₀ L h' (news' ++ rest) := by
  obtain ⟨oL, a1, a2, hL, a3⟩ := F.ns
  intro p hp
  rcases List.mem_append.mp hp with hp | hp
  · refine ⟨X.here p hp, ?_, ?_⟩
    · rcases X.new p hp with q | q
      · obtain ⟨p', hp', e⟩ := List.mem_map.mp q
        exact e ▸ (N p' hp').2.1
      · intro e; rw [e, hL] at q; cases q
    · rcases X.new p hp with q | q
      · obtain ⟨p', hp', e⟩ := List.mem_map.mp q
        exact e ▸ (N p' hp').2.2
      · cases hq : h₀.get? p.1 with
        | none => rfl
        | some o => rw [F.keep _ _ hq] at q; cases q
  · exact ⟨X.keep _ _ (NR p hp).1 (hr p hp), (NR p hp).2⟩
noncomputable def Con (w : World) (mean : ExcName → Option Value) (mg mb : Str → Option Value) (dp un : Nat) (f : Addr) (args : List Value) (news : List (Addr × Obj)) (R : Value → List (Addr × Obj) → Prop) : Prop :=
  ∀ (gd : Option (List Code)) (cn : Str) (cs : Scope) (L a : Addr) (ccd : Value) (cl : List (Str × Addr)) (outer : List Env) (A₀ : Around) (base h₀ : Heap) (m : Str → Option Value) (s : Shared) (RR : Result → Shared → Prop),
    Below A₀ base outer h₀ → Fr h₀ L s.heap m → (hd.heap_1 w.params).In h₀ → News h₀ L s.heap news → Top VW LS mean mg mb h₀ → cs.kind = .function →
    (∀ r news' h' tk', Left s.heap news h' news' → R r news' → RR (.ok (.ret r)) { s with heap := h', toks := tk' }) →
    codeAny (model Challenge.rw_om0134_01.row.prog w) (ktrTop dp un gd cn cs L a ccd cl outer) (.call (.ref f) ⟨args, []⟩) RR s
noncomputable def ConB (w : World) (mean : ExcName → Option Value) (mg mb : Str → Option Value) (dp un : Nat) (f : Addr) (args : List Value) (news : List (Addr × Obj)) (R : Value → List (Addr × Obj) → Prop) (gd : Option (List Code)) (cn : Str) (cs : Scope) (L a : Addr) (ccd : Value) (cl : List (Str × Addr)) (outer : List Env) (A₀ : Around) (base h₀ : Heap) (m : Str → Option Value) (s : Shared) (RR : Result → Shared → Prop) : Prop :=
    Below A₀ base outer h₀ → Fr h₀ L s.heap m → (hd.heap_1 w.params).In h₀ → News h₀ L s.heap news → Top VW LS mean mg mb h₀ → cs.kind = .function →
    (∀ r news' h' tk', Left s.heap news h' news' → R r news' → RR (.ok (.ret r)) { s with heap := h', toks := tk' }) →
    codeAny (model Challenge.rw_om0134_01.row.prog w) (ktrTop dp un gd cn cs L a ccd cl outer) (.call (.ref f) ⟨args, []⟩) RR s
theorem Con.mono {w : World} {mean : ExcName → Option Value} {mg mb : Str → Option Value} {dp un : Nat} {f : Addr} {args : List Value} {news : List (Addr × Obj)} {R R' : Value → List (Addr × Obj) → Prop}
    (C : Con w mean mg mb dp un f args news R) (h : ∀ r n, R r n → R' r n) : Con w mean mg mb dp un f args news R' :=
  fun gd cn cs L a ccd cl outer A₀ base h₀ m s RR B F X N T hk hret => C gd cn cs L a ccd cl outer A₀ base h₀ m s RR B F X N T hk fun r n h' tk' l r' => hret r n h' tk' l (h _ _ r')
theorem below_le {Γ : PySem.Ctx} {A A' : Around} (h : Γ.Below A) (h1 : A.handled = A'.handled) (h2 : A.depth ≤ A'.depth) (h3 : A.frames = A'.frames) (h4 : A.guards = A'.guards) (h5 : A.units ≤ A'.units) : Γ.Below A' :=
  ⟨h.1.trans h1, Nat.le_trans h.2.1 h2, h3 ▸ h.2.2.1, h4 ▸ h.2.2.2.1, Nat.le_trans h.2.2.2.2 h5⟩
theorem codeAny_le {M : Model} {A A' : Around} {c : Code} {R : Result → Shared → Prop} {s : Shared} (h : codeAny M A' c R s) (h1 : A.handled = A'.handled) (h2 : A.depth ≤ A'.depth) (h3 : A.frames = A'.frames) (h4 : A.guards = A'.guards) (h5 : A.units ≤ A'.units) : codeAny M A c R s :=
  fun Γ p hc hb => h Γ p hc (below_le hb h1 h2 h3 h4 h5)
section
variable {prog : Program} {w : World} {A A₀ : Around} {s : Shared} {K : Frag} {L : Addr} {h₀ base : Heap} {m mg mb : Str → Option Value} {news : List (Addr × Obj)} {p : Program} {loose : List Str} {mean : ExcName → Option Value}
theorem enter_def {env : Env} {outer : List Env} {RR : Result → Shared → Prop} {name qual : Str} {params : Arguments} {body : List Stmt} {scope : Scope} {dV kV doc pm cdv ct oc : Value} {an od : Option Addr} {osl : Array (Option Value)} {f : Addr} {args : Args} {binds : List (Str × Value)}
    (B : Below A₀ base outer h₀) (F : Fr h₀ L s.heap m) (X₀ : K.In h₀) (N : News h₀ L s.heap news) (T : Top p loose mean mg mb h₀) (hA : A.frames = some (env :: outer)) (hf : env.frame = some L) (hke : env.scope.kind = .function)
    (ho : K.lookup f = some ⟨oc, od, .func (fnOf name qual params body scope dV kV doc pm an cdv ct), osl⟩) (hcd : codeIn K cdv qual = true) (hroom : A.depth < recursionLimit)
    (hbind : BindsTo s (fnOf name qual params body scope dV kV doc pm an cdv ct) args binds) (hloc : ∀ y ∈ binds, scope.names.lookup y.1 = some .local)
    (hco : scope.isCoroutine = false) (hgen : scope.isGenerator = false) (hk : scope.kind = .function)
    (hcell : ∀ x ∈ scope.names, x.2 ≠ .cell)
    (h : ∀ g L' h₁, Fr h₀ L g m → Fr g L' h₁ (fun y => binds.reverse.lookup y) → News g L' h₁ news → Below A base (env :: outer) g → K.In g → Top p loose mean mg mb g → (∀ p ∈ news, p.1 < L') →
      (∀ b o, s.heap.get? b = some o → b ∉ news.map (·.1) → g.get? b = some o) →
      wpAny (model prog w) (A.deeper (envOf qual scope L' f cdv)) (execs body (envOf qual scope L' f cdv))
        (fun fl s' => LeaveK h₀ L m g RR (match fl with | .ret v => v | _ => .none) s')
        (fun e s' => wpAny (model prog w) (A.deeper (envOf qual scope L' f cdv)) (leaving (envOf qual scope L' f cdv) e) (fun _ s'' => RR (.error e) s'') (fun e' s'' => RR (.error e') s'') s')
        { s with heap := h₁, toks := s.toks + binds.length }) : codeAny (model prog w) A (.call (.ref f) args) RR s := by
  obtain ⟨FG, BG, st, lv⟩ := groundX (R := RR) B F N hA hf hke
  refine codeAny_call_def (fd := fnOf name qual params body scope dV kV doc pm an cdv ct) (body := body) (binds := binds) hroom ((X₀.keeps F.keep) _ _ ho) rfl (T.nolimit.keeps F.keep) (codeRec_of (X₀.keeps F.keep) hcd) rfl hbind hcell hloc (fun h₁ hns hk₁ => ?_) hco hgen hk
  exact wpAny_mono (h _ s.heap.objs.size h₁ FG ⟨hns, fun b o e => hk₁ b o (of_hideAll _ e), Nat.le_of_eq (hideAll_size _ _)⟩
    (fun p hp => ⟨hk₁ _ _ (N p hp).1, Nat.ne_of_lt (Heap.lt_size (N p hp).1), hideAll_none _ (List.mem_map_of_mem hp)⟩) BG (X₀.keeps st) (T.keeps st) (fun p hp => Heap.lt_size (N p hp).1)
    (fun b o e n => hideAll_get _ e n)) (fun fl s' hl => lv _ _ hl) fun _ _ y => y
theorem enter_defC {env : Env} {outer : List Env} {RR : Result → Shared → Prop} {name qual : Str} {params : Arguments} {body : List Stmt} {scope : Scope} {dV kV doc pm cdv ct oc : Value} {an od : Option Addr} {osl : Array (Option Value)} {f : Addr} {args : Args} {binds : List (Str × Value)}
    (B : Below A₀ base outer h₀) (F : Fr h₀ L s.heap m) (X₀ : K.In h₀) (N : News h₀ L s.heap news) (T : Top p loose mean mg mb h₀) (hA : A.frames = some (env :: outer)) (hf : env.frame = some L) (hke : env.scope.kind = .function)
    (ho : K.lookup f = some ⟨oc, od, .func (fnOf name qual params body scope dV kV doc pm an cdv ct), osl⟩) (hcd : codeIn K cdv qual = true) (hroom : A.depth < recursionLimit)
    (hbind : BindsTo s (fnOf name qual params body scope dV kV doc pm an cdv ct) args binds) (hkind : (binds.all fun y => scope.names.lookup y.1 == some .local || scope.names.lookup y.1 == some .cell) = true)
    (hnd : ((cellsFrom 0 scope.names []).map (·.1)).Nodup)
    (hco : scope.isCoroutine = false) (hgen : scope.isGenerator = false) (hk : scope.kind = .function)
    (h : ∀ g L' h₁ tk cells, Fr h₀ L g m → Fr g L' h₁ (bindL (envOfC qual scope L' f cdv).kindOf binds fun _ => none) → News g L' h₁ (cells ++ news) →
      CellsAre (bindC (envOfC qual scope L' f cdv).kindOf binds fun _ => none) (cellsFrom (L' + 1) scope.names []) cells → Below A base (env :: outer) g → K.In g → Top p loose mean mg mb g → (∀ p ∈ news, p.1 < L') →
      (∀ b o, s.heap.get? b = some o → b ∉ news.map (·.1) → g.get? b = some o) →
      wpAny (model prog w) (A.deeper (envOfC qual scope L' f cdv)) (execs body (envOfC qual scope L' f cdv))
        (fun fl s' => LeaveK h₀ L m g RR (match fl with | .ret v => v | _ => .none) s')
        (fun e s' => wpAny (model prog w) (A.deeper (envOfC qual scope L' f cdv)) (leaving (envOfC qual scope L' f cdv) e) (fun _ s'' => RR (.error e) s'') (fun e' s'' => RR (.error e') s'') s')
        { s with heap := h₁, toks := tk }) : codeAny (model prog w) A (.call (.ref f) args) RR s := by
  obtain ⟨FG, BG, st, lv⟩ := groundX (R := RR) B F N hA hf hke
  refine codeAny_call_function hroom ((X₀.keeps F.keep) _ _ ho) rfl hco hgen rfl (codeRec_of (X₀.keeps F.keep) hcd) (hbind _ _ _ _ ?_)
  refine wpAny_newFunctionEnv_cells hk (kindsX hkind _) fun env' he s' x => ?_
  subst he
  refine ⟨(T.nolimit.keeps F.keep).keeps x.toInCall.keep, codeAny_func ?_⟩
  obtain ⟨h₁, tk, rfl, _⟩ := x.done
  have hk₁ := x.toInCall.keep
  obtain ⟨cells, NC, Y⟩ := Cl.news (h₀ := s.heap) (Nat.le_refl _) fun n c hm => ⟨x.cell n c (lookup_of_mem_nodup (cellsFrom_names scope.names 0 (s.heap.objs.size + 1) [] [] rfl ▸ hnd) hm), x.above n c hm⟩
  refine wpAny_mono (h _ s.heap.objs.size h₁ tk cells FG ⟨x.toInCall.ns, fun b o e => hk₁ b o (of_hideAll _ e), Nat.le_of_eq (hideAll_size _ _)⟩ (fun p hp => ?_) Y BG (X₀.keeps st) (T.keeps st) (fun p hp => Heap.lt_size (N p hp).1) (fun b o e n => hideAll_get _ e n)) (fun fl s' hl => lv _ _ hl) fun _ _ y => y
  rcases List.mem_append.mp hp with hp | hp
  · refine ⟨(NC p hp).1, (NC p hp).2.1, ?_⟩
    cases q : (hideAll s.heap (news.map (·.1))).get? p.1 with
    | none => rfl
    | some o => have := of_hideAll _ q; rw [(NC p hp).2.2] at this; cases this
  · exact ⟨hk₁ _ _ (N p hp).1, Nat.ne_of_lt (Heap.lt_size (N p hp).1), hideAll_none _ (List.mem_map_of_mem hp)⟩
end
theorem left_of {g s h' : Heap} {L' : Addr} {m' : Str → Option Value} {news news' : List (Addr × Obj)} (F' : Fr g L' h' m') (N' : News g L' h' news')
    (hg : ∀ b o, s.get? b = some o → b ∉ news.map (·.1) → g.get? b = some o) : Left s news h' news' where
  keep := fun b o e n => F'.keep b o (hg b o e n)
  here := fun p hp => (N' p hp).1
  new := fun p hp => by
    by_cases q : p.1 ∈ news.map (·.1)
    · exact .inl q
    · refine .inr ?_
      cases e : s.get? p.1 with
      | none => rfl
      | some o => have := (N' p hp).2.2; rw [hg _ _ e q] at this; cases this
theorem lines_Base_32 : True := by
  k_with "c_enter" => (refine' enter_def ?k1ₖ₁ ?k2ₖ₁ ?k3ₖ₁ ?k4ₖ₁ ?k5ₖ₁ ?kAₖ₁ ?kFₖ₁ ?kKₖ₁ ?k6ₖ₁ ?k7ₖ₁ ?k8ₖ₁ ?k9ₖ₁ ?kBₖ₁ ?c2ₖ₁ ?c3ₖ₁ ?c4ₖ₁ ?c5ₖ₁ ?_; (case kAₖ₁ => exact rfl); (case kFₖ₁ => exact rfl); (case kKₖ₁ => assumption); (case k1ₖ₁ => k_asm); (case k2ₖ₁ => k_asm); (case k3ₖ₁ => k_asm); (case k4ₖ₁ => k_asm); (case k5ₖ₁ => k_asm); (case k6ₖ₁ => k_is); (case k7ₖ₁ => k_is); (case k8ₖ₁ => exact Nat.le_of_ble_eq_true rfl); (case k9ₖ₁ => exact BindsTo.of_eq rfl); (case c5ₖ₁ => decide); (case kBₖ₁ => exact locs rfl); (case c2ₖ₁ => exact rfl); (case c3ₖ₁ => exact rfl); (case c4ₖ₁ => exact rfl); k_whole; intro g'ₖ L'ₖ h'ₖ FG'ₖ F'ₖ N'ₖ B'ₖ X'ₖ T'ₖ hlt'ₖ hg'ₖ; (try dsimp only); (try k_fold))
  k_with "c_enterC" => (refine' enter_defC ?k1ₖ₂ ?k2ₖ₂ ?k3ₖ₂ ?k4ₖ₂ ?k5ₖ₂ ?kAₖ₂ ?kFₖ₂ ?kKₖ₂ ?k6ₖ₂ ?k7ₖ₂ ?k8ₖ₂ ?k9ₖ₂ ?kBₖ₂ ?kDₖ₂ ?c2ₖ₂ ?c3ₖ₂ ?c4ₖ₂ ?_; (case kAₖ₂ => exact rfl); (case kFₖ₂ => exact rfl); (case kKₖ₂ => assumption); (case k1ₖ₂ => k_asm); (case k2ₖ₂ => k_asm); (case k3ₖ₂ => k_asm); (case k4ₖ₂ => k_asm); (case k5ₖ₂ => k_asm); (case k6ₖ₂ => k_is); (case k7ₖ₂ => k_is); (case k8ₖ₂ => exact Nat.le_of_ble_eq_true rfl); (case k9ₖ₂ => exact BindsTo.of_eq rfl); (case kBₖ₂ => exact rfl); (case kDₖ₂ => decide +kernel); (case c2ₖ₂ => exact rfl); (case c3ₖ₂ => exact rfl); (case c4ₖ₂ => exact rfl); k_whole; intro g'ₖ L'ₖ h'ₖ tk'ₖ cells'ₖ FG'ₖ F'ₖ N'ₖ Y'ₖ B'ₖ X'ₖ T'ₖ l1ₖ hg'ₖ; (try k_lt l1ₖ); k_cells Y'ₖ; (try simp only [List.nil_append, List.cons_append] at N'ₖ); (try dsimp only); (try k_fold))
  k_with "c_startC" => ((first | (unfold Con; intro gdₖ cnₖ csₖ Lₖ aₖ ccdₖ clₖ outerₖ A₀ₖ baseₖ h₀ₖ mₖ sₖ RRₖ Bₖ Fₖ Xₖ Nₖ Tₖ hkₖ hretₖ) | (unfold ConB; intro Bₖ Fₖ Xₖ Nₖ Tₖ hkₖ hretₖ)); revert Xₖ; k_fill; intro Xₖ; k_dflt walk_at "c_enterC")
  k_with "c_start" => ((first | (unfold Con; intro gdₖ cnₖ csₖ Lₖ aₖ ccdₖ clₖ outerₖ A₀ₖ baseₖ h₀ₖ mₖ sₖ RRₖ Bₖ Fₖ Xₖ Nₖ Tₖ hkₖ hretₖ) | (unfold ConB; intro Bₖ Fₖ Xₖ Nₖ Tₖ hkₖ hretₖ)); revert Xₖ; k_fill; intro Xₖ; k_dflt walk_at "c_enter")
  exact trivial
theorem at_Loops : True := by
  w_top off
  exact trivial
section
variable {prog : Program} {w : World} {A : Around} {E : Value → Shared → Prop} {s : Shared} {env : Env} {h₀ : Heap} {target : PySem.Expr} {body : List Stmt} {Q : Flow → Shared → Prop}
noncomputable def TEnd (h₀ : Heap) (L : Addr) (s : Shared) (I : Addr) (it : Obj) (J : (Str → Option Value) → List (Addr × Obj) → Prop) (Q : Flow → Shared → Prop) (f : Flow) (s₂ : Shared) : Prop :=
  match f with
  | .ret v => Q (.ret v) s₂
  | .brk => Q .next s₂
  | _ => ∃ h' tk m' news', s₂ = { s with heap := h', toks := tk } ∧ Fr h₀ L h' m' ∧ News h₀ L h' ((I, it) :: news') ∧ (∀ p ∈ news', p.1 ≠ I) ∧ J m' news'
theorem TEnd.next {L : Addr} {I : Addr} {it : Obj} {J : (Str → Option Value) → List (Addr × Obj) → Prop} {h' : Heap} {tk : Nat} {m' : Str → Option Value} {all : List (Addr × Obj)} (F : Fr h₀ L h' m') (N : News h₀ L h' all) (news' : List (Addr × Obj))
    (hI : (I, it) ∈ all) (sub : ∀ p ∈ news', p ∈ all) (off : ∀ p ∈ news', p.1 ≠ I) (j : J m' news') : TEnd h₀ L s I it J Q .next { s with heap := h', toks := tk } :=
  ⟨h', tk, m', news', rfl, F, fun p hp => (List.mem_cons.mp hp).elim (fun e => e ▸ N _ hI) fun hp => N _ (sub p hp), off, j⟩
theorem TEnd.cont {L : Addr} {I : Addr} {it : Obj} {J : (Str → Option Value) → List (Addr × Obj) → Prop} {h' : Heap} {tk : Nat} {m' : Str → Option Value} {all : List (Addr × Obj)} (F : Fr h₀ L h' m') (N : News h₀ L h' all) (news' : List (Addr × Obj))
    (hI : (I, it) ∈ all) (sub : ∀ p ∈ news', p ∈ all) (off : ∀ p ∈ news', p.1 ≠ I) (j : J m' news') : TEnd h₀ L s I it J Q .cont { s with heap := h', toks := tk } :=
  ⟨h', tk, m', news', rfl, F, fun p hp => (List.mem_cons.mp hp).elim (fun e => e ▸ N _ hI) fun hp => N _ (sub p hp), off, j⟩
theorem items_of {I : Addr} {cls : String} {keep : List (Addr × Obj)} (J : List Itm → (Str → Option Value) → List (Addr × Obj) → Prop)
    (hk : ∀ r m n, J r m n → SubL keep n)
    (turn : ∀ a r v m₁ news₁ it h tk, it.cls = .type cls → J (a :: r) m₁ news₁ → a.Is v h → Fr h₀ env.locals h m₁ → News h₀ env.locals h ((I, it) :: news₁) →
      wpAny (model prog w) A (assign target env v) (fun _ s₂ => wpAny (model prog w) A (execs body env) (TEnd h₀ env.locals s I it (J r) Q) E s₂) E { s with heap := h, toks := tk })
    (done : ∀ m₁ news₁ h tk, J [] m₁ news₁ → Fr h₀ env.locals h m₁ → News h₀ env.locals h news₁ → Q .next { s with heap := h, toks := tk }) :
    ∀ r m news, J r m news → ItemsRest prog w A E h₀ env target body Q s [(I, cls)] keep r m news
  | [], m, news, j => fun h tk F N => done m news h tk j F N
  | a :: r, m, news, j => by
    intro v h tk hv F it hit N
    refine wpAny_mono (turn a r v m news it h tk hit j hv F N) (fun _ s₂ x => wpAny_mono x (fun f s₃ y => ?_) fun _ _ e => e) fun _ _ e => e
    cases f with
    | ret v => exact y
    | brk => exact y
    | next =>
      obtain ⟨h', tk', m', news', rfl, F', N', off, j'⟩ := y
      exact ⟨h', tk', m', news', rfl, F', N', fun p hp q hq => (List.mem_singleton.mp hq) ▸ off p hp, hk _ _ _ j', items_of J hk turn done r m' news' j'⟩
    | cont =>
      obtain ⟨h', tk', m', news', rfl, F', N', off, j'⟩ := y
      exact ⟨h', tk', m', news', rfl, F', N', fun p hp q hq => (List.mem_singleton.mp hq) ▸ off p hp, hk _ _ _ j', items_of J hk turn done r m' news' j'⟩
theorem for_list {ax : Addr} {lo : Obj} {vs : List Value} {n : Nat} {m₀ : Str → Option Value} {news : List (Addr × Obj)} (J : List Value → (Str → Option Value) → List (Addr × Obj) → Prop)
    (hh : A.handled = none) (F : Fr h₀ env.locals s.heap m₀) (N : News h₀ env.locals s.heap news) (hm : (ax, lo) ∈ news) (hc : lo.cls = .type "list") (hd : lo.data = .seq vs.toArray n)
    (h0 : J vs m₀ news) (hk : ∀ r m n, J r m n → (ax, lo) ∈ n)
    (turn : ∀ I v r m₁ news₁ it h tk, (∀ p ∈ news, p.1 < I) → it.cls = .type "list_iterator" → J (v :: r) m₁ news₁ → Fr h₀ env.locals h m₁ → News h₀ env.locals h ((I, it) :: news₁) →
      wpAny (model prog w) A (assign target env v) (fun _ s₂ => wpAny (model prog w) A (execs body env) (TEnd h₀ env.locals s I it (J r) Q) E s₂) E { s with heap := h, toks := tk })
    (done : ∀ m₁ news₁ h tk, J [] m₁ news₁ → Fr h₀ env.locals h m₁ → News h₀ env.locals h news₁ → Q .next { s with heap := h, toks := tk }) :
    wpAny (model prog w) A (pyIter (.ref ax)) (fun it s₂ => TurnsAt prog w A h₀ env target body Q E it s₂) E s := by
  refine iter_listTurns hh F N hm hc hd fun I hI => ?_
  refine items_of (I := I) (cls := "list_iterator") (keep := [(ax, lo)]) (fun r m n => ∃ us, r = us.map Itm.val ∧ J us m n) (fun r m n ⟨us, _, j⟩ => ⟨hk _ _ _ j, trivial⟩) ?_ ?_ _ _ _ ⟨vs, rfl, h0⟩
  · rintro a r v m₁ news₁ it h tk hit ⟨us, e, j⟩ hv F₁ N₁
    cases us with
    | nil => cases e
    | cons u us =>
      injection e with e1 e2
      subst e1 e2
      have : v = u := hv
      subst this
      refine wpAny_mono (turn I v us m₁ news₁ it h tk hI hit j F₁ N₁) (fun _ s₂ x => wpAny_mono x (fun f s₃ y => ?_) fun _ _ e => e) fun _ _ e => e
      cases f with
      | ret v => exact y
      | brk => exact y
      | next => obtain ⟨h', tk', m', news', rfl, F', N', off, j'⟩ := y; exact ⟨h', tk', m', news', rfl, F', N', off, us, rfl, j'⟩
      | cont => obtain ⟨h', tk', m', news', rfl, F', N', off, j'⟩ := y; exact ⟨h', tk', m', news', rfl, F', N', off, us, rfl, j'⟩
  · rintro m₁ news₁ h tk ⟨us, e, j⟩ F₁ N₁
    cases us with
    | nil => exact done m₁ news₁ h tk j F₁ N₁
    | cons u us => cases e
theorem for_tup {ax : Addr} {lo : Obj} {vs : List Value} {n : Nat} {m₀ : Str → Option Value} {news : List (Addr × Obj)} (J : List Value → (Str → Option Value) → List (Addr × Obj) → Prop)
    (hh : A.handled = none) (F : Fr h₀ env.locals s.heap m₀) (N : News h₀ env.locals s.heap news) (hm : (ax, lo) ∈ news) (hc : lo.cls = .type "tuple") (hd : lo.data = .seq vs.toArray n)
    (h0 : J vs m₀ news) (hk : ∀ r m n, J r m n → (ax, lo) ∈ n)
    (turn : ∀ I v r m₁ news₁ it h tk, (∀ p ∈ news, p.1 < I) → it.cls = .type "tuple_iterator" → J (v :: r) m₁ news₁ → Fr h₀ env.locals h m₁ → News h₀ env.locals h ((I, it) :: news₁) →
      wpAny (model prog w) A (assign target env v) (fun _ s₂ => wpAny (model prog w) A (execs body env) (TEnd h₀ env.locals s I it (J r) Q) E s₂) E { s with heap := h, toks := tk })
    (done : ∀ m₁ news₁ h tk, J [] m₁ news₁ → Fr h₀ env.locals h m₁ → News h₀ env.locals h news₁ → Q .next { s with heap := h, toks := tk }) :
    wpAny (model prog w) A (pyIter (.ref ax)) (fun it s₂ => TurnsAt prog w A h₀ env target body Q E it s₂) E s := by
  refine iter_tupTurns hh F N hm hc hd fun I hI => ?_
  refine items_of (I := I) (cls := "tuple_iterator") (keep := [(ax, lo)]) (fun r m n => ∃ us, r = us.map Itm.val ∧ J us m n) (fun r m n ⟨us, _, j⟩ => ⟨hk _ _ _ j, trivial⟩) ?_ ?_ _ _ _ ⟨vs, rfl, h0⟩
  · rintro a r v m₁ news₁ it h tk hit ⟨us, e, j⟩ hv F₁ N₁
    cases us with
    | nil => cases e
    | cons u us =>
      injection e with e1 e2
      subst e1 e2
      have : v = u := hv
      subst this
      refine wpAny_mono (turn I v us m₁ news₁ it h tk hI hit j F₁ N₁) (fun _ s₂ x => wpAny_mono x (fun f s₃ y => ?_) fun _ _ e => e) fun _ _ e => e
      cases f with
      | ret v => exact y
      | brk => exact y
      | next => obtain ⟨h', tk', m', news', rfl, F', N', off, j'⟩ := y; exact ⟨h', tk', m', news', rfl, F', N', off, us, rfl, j'⟩
      | cont => obtain ⟨h', tk', m', news', rfl, F', N', off, j'⟩ := y; exact ⟨h', tk', m', news', rfl, F', N', off, us, rfl, j'⟩
  · rintro m₁ news₁ h tk ⟨us, e, j⟩ F₁ N₁
    cases us with
    | nil => exact done m₁ news₁ h tk j F₁ N₁
    | cons u us => cases e
theorem items_get {a₀ : Int} : ∀ (n b i : Nat), i < n → ((List.range' b n).map fun k => Itm.tok (fun t => .int (a₀ + (k : Nat)) t))[i]? = some (Itm.tok (fun t => .int (a₀ + ((b + i : Nat))) t)) := by
  intro n b i hi
  simp [hi]
theorem for_range {r : Addr} {a₀ b₀ : Int} {t₀ u₀ v₀ : Tok} {n : Nat} {x : Str} {px : Pos} {m₀ : Str → Option Value} {news : List (Addr × Obj)} (J : Nat → (Str → Option Value) → List (Addr × Obj) → Prop)
    (hh : A.handled = none) (hr : IsRange s.heap r a₀ b₀ 1 t₀ u₀ v₀) (hsmall : Builtin.Range.small a₀ b₀ 1 = true) (hn : Builtin.Range.rangeSize a₀ b₀ 1 = (n : Int)) (F : Fr h₀ env.locals s.heap m₀) (N : News h₀ env.locals s.heap news)
    (h0 : J 0 m₀ news)
    (turn : ∀ I i t m₁ news₁ it h tk, i < n → (∀ p ∈ news, p.1 < I) → it.cls = .type "range_iterator" → J i m₁ news₁ → Fr h₀ env.locals h m₁ → News h₀ env.locals h ((I, it) :: news₁) →
      wpAny (model prog w) A (assign (.Name x px) env (.int (a₀ + (i : Nat)) t)) (fun _ s₂ => wpAny (model prog w) A (execs body env) (TEnd h₀ env.locals s I it (J (i + 1)) Q) E s₂) E { s with heap := h, toks := tk })
    (done : ∀ m₁ news₁ h tk, J n m₁ news₁ → Fr h₀ env.locals h m₁ → News h₀ env.locals h news₁ → Q .next { s with heap := h, toks := tk }) :
    wpAny (model prog w) A (pyIter (.ref r)) (fun it s₂ => TurnsAt prog w A h₀ env (.Name x px) body Q E it s₂) E s := by
  refine wpAny_pyIter_range hr hsmall ?_
  have W : Walks prog w A s.heap.objs.size [s.heap.objs.size] [s.heap.objs.size] n (fun i v => i < n ∧ ∃ t, v = .int (a₀ + i * 1) t)
      (fun i h => IsRangeIter h s.heap.objs.size (a₀ + (i : Nat) * 1) ((n : Int) - (i : Nat)) 1) := (Walks.range hh _ a₀ 1 n).bound
  have rest : ItemsRest prog w A E h₀ env (.Name x px) body Q s [(s.heap.objs.size, "range_iterator")] [] ((List.range' 0 n).map fun k => Itm.tok (fun t => .int (a₀ + (k : Nat)) t)) m₀ news := by
    refine items_of (I := s.heap.objs.size) (cls := "range_iterator") (keep := []) (fun r m nw => ∃ i k, i + k = n ∧ r = ((List.range' i k).map fun k => Itm.tok (fun t => .int (a₀ + (k : Nat)) t)) ∧ J i m nw) (fun _ _ _ _ => trivial) ?_ ?_ _ _ _ ⟨0, n, by omega, rfl, h0⟩
    · rintro a r v m₁ news₁ it h tk hit ⟨i, k, hik, e, j⟩ hv F₁ N₁
      cases k with
      | zero => cases e
      | succ k =>
        rw [List.range'_succ, List.map_cons] at e
        injection e with e1 e2
        subst e1 e2
        obtain ⟨t, rfl⟩ := hv
        refine wpAny_mono (turn _ i t m₁ news₁ it h tk (by omega) (fun p hp => Heap.lt_size (N p hp).1) hit j F₁ N₁) (fun _ s₂ x => wpAny_mono x (fun f s₃ y => ?_) fun _ _ e => e) fun _ _ e => e
        cases f with
        | ret v => exact y
        | brk => exact y
        | next => obtain ⟨h', tk', m', news', rfl, F', N', off, j'⟩ := y; exact ⟨h', tk', m', news', rfl, F', N', off, i + 1, k, by omega, rfl, j'⟩
        | cont => obtain ⟨h', tk', m', news', rfl, F', N', off, j'⟩ := y; exact ⟨h', tk', m', news', rfl, F', N', off, i + 1, k, by omega, rfl, j'⟩
    · rintro m₁ news₁ h tk ⟨i, k, hik, e, j⟩ F₁ N₁
      cases k with
      | zero => have : i = n := by omega
                subst this; exact done m₁ news₁ h tk j F₁ N₁
      | succ k => rw [List.range'_succ, List.map_cons] at e; cases e
  refine ktu_core (s := s) (tk0 := s.toks) (keep := []) (ws := [(s.heap.objs.size, "range_iterator")]) (KTurns.ofWalks W fun i v s Q E st q => wpAny_pure q) (by simp) (fun i v h hp => ?_) (fun i h st => ?_) (fun b hb => ?_) (fun b hb => by simpa using hb) (fun b hb => ?_) ?_ (fun p hp hI => ?_) ?_ (F.push _) (fun p hp => ⟨Heap.get?_push_of_some _ (N p hp).1, (N p hp).2⟩) trivial rest
  · obtain ⟨hi, t, e⟩ := hp
    refine ⟨_, items_get n 0 i hi, t, ?_⟩
    rw [e]; simp
  · exact ⟨[(s.heap.objs.size, _)], ⟨⟨rfl, rfl⟩, trivial⟩, fun p hp => by rw [List.mem_singleton.mp hp]; exact st⟩
  · have hb' : b = s.heap.objs.size := by simpa using hb
    rw [hb']
    exact ⟨List.mem_cons_self .., next_is_new F⟩
  · exact .inl (by simpa using hb)
  · intro hm
    exact absurd F.ns.lt ((List.mem_singleton.mp hm) ▸ Nat.lt_irrefl _)
  · exact absurd (Heap.lt_size (N p hp).1) ((List.mem_singleton.mp hI) ▸ Nat.lt_irrefl _)
  · show IsRangeIter _ _ _ _ _
    rw [hn]; simpa using Heap.get?_push_size _ rfl
end
section
variable {prog : Program} {w : World} {A : Around} {E : Value → Shared → Prop} {s : Shared} {env : Env} {test : PySem.Expr} {body orelse : List Stmt} {Q : Flow → Shared → Prop}
noncomputable def WRest (prog : Program) (w : World) (A : Around) (E : Value → Shared → Prop) (env : Env) (test : PySem.Expr) (body orelse : List Stmt) (Q : Flow → Shared → Prop) (s : Shared) : Prop := WhlRest prog w A E env test body orelse Q 0 s
noncomputable def WEnd (prog : Program) (w : World) (A : Around) (E : Value → Shared → Prop) (env : Env) (test : PySem.Expr) (body orelse : List Stmt) (Q : Flow → Shared → Prop) (f : Flow) (s : Shared) : Prop :=
  match f with
  | .next => WRest prog w A E env test body orelse Q s
  | .cont => WRest prog w A E env test body orelse Q s
  | .brk => Q .next s
  | .ret v => Q (.ret v) s
theorem w_turn (h : wpAny (model prog w) A (isTrue test env (eval test env)) (fun b s₂ => if b = true then wpAny (model prog w) A (execs body env) (WEnd prog w A E env test body orelse Q) E s₂ else wpAny (model prog w) A (execs orelse env) Q E s₂) E s)
    (hE : PassesOwn (model prog w) A env E) : WRest prog w A E env test body orelse Q s :=
  whl_turn (k := 0) hE (wpAny_mono h (fun b s₂ x => by
    cases b with
    | true => exact .yes rfl (wpAny_mono (by simpa using x) (fun f s₃ y => by cases f <;> exact y) fun _ _ e => e)
    | false => exact .no rfl (by simpa using x)) fun _ _ e => e)
theorem w_start {pos : Pos} (h : WRest prog w A E env test body orelse Q s) : wpAny (model prog w) A (exec (.While test body orelse pos) env) Q E s := whl_start 0 h
end
noncomputable def AllAt (m : Str → Option Value) : List (Str × Value) → Prop
  | [] => True
  | p :: r => m p.1 = some p.2 ∧ AllAt m r
theorem AllAt.mem {m : Str → Option Value} : ∀ {ps : List (Str × Value)}, AllAt m ps → ∀ p ∈ ps, m p.1 = some p.2
  | _ :: _, h, _, .head _ => h.1
  | _ :: _, h, _, .tail _ hp => h.2.mem _ hp
theorem AllAt.fr {h₀ h : Heap} {L : Addr} {ps : List (Str × Value)} {m : Str → Option Value} (M : AllAt m ps) (F : Fr h₀ L h m) : Fr h₀ L h (kstB m ps) := by
  have e : kstB m ps = m := funext fun z => kstB_eq M.mem fun _ => rfl
  rw [e]; exact F
theorem lines_Loops_56 : True := by
  k_with "no_loop" => ((fail_if_success (with_reducible show wpAny _ _ (exec (Stmt.While _ _ _ _) _) _ _ _)); (fail_if_success (with_reducible show wpAny _ _ (exec (Stmt.For _ _ _ _ _) _) _ _ _)); (fail_if_success (with_reducible show wpAny _ _ (pyIter _) (fun _ _ => TurnsAt _ _ _ _ _ _ _ _ _ _ _) _ _)); (fail_if_success (with_reducible show wpAny _ _ (call (Value.type "list") [Value.ref _]) _ _ _)))
  k_with "k_to" => repeat' (first | (walk_at "no_loop"; first | (k_unfold; (try dsimp only)) | walk1) | (dsimp only; walk_at "no_loop"; walk1) | fail "no step")
  exact trivial
section
variable {prog : Program} {w : World} {A : Around} {E : Value → Shared → Prop} {s : Shared} {env : Env} {h₀ : Heap} {L : Addr} {Q : Flow → Shared → Prop} {m₀ : Str → Option Value} {news : List (Addr × Obj)}
noncomputable def At (h₀ : Heap) (L : Addr) (s : Shared) (X : List (Str × Value) → List (Addr × Obj) → Prop) (s' : Shared) : Prop :=
  ∃ h tk m ps news, s' = { s with heap := h, toks := tk } ∧ Fr h₀ L h m ∧ News h₀ L h news ∧ AllAt m ps ∧ X ps news
theorem At.intro {X : List (Str × Value) → List (Addr × Obj) → Prop} {h' : Heap} {tk : Nat} {m' : Str → Option Value} {all : List (Addr × Obj)} (F : Fr h₀ L h' m') (N : News h₀ L h' all) (ps : List (Str × Value)) (news' : List (Addr × Obj)) (hps : AllAt m' ps) (sub : ∀ p ∈ news', p ∈ all)
    (x : X ps news') : At h₀ L s X { s with heap := h', toks := tk } := ⟨h', tk, m', ps, news', rfl, F, fun p hp => N p (sub p hp), hps, x⟩
theorem At.intro' {X : List (Str × Value) → List (Addr × Obj) → Prop} {h' : Heap} {tk : Nat} {m' : Str → Option Value} {all : List (Addr × Obj)} (F : Fr h₀ L h' m') (N : News h₀ L h' all) (ps : List (Str × Value)) (hps : AllAt m' ps)
    (x : X ps all) : At h₀ L s X { s with heap := h', toks := tk } := ⟨h', tk, m', ps, all, rfl, F, N, hps, x⟩
theorem cut_at {t : Sem Flow} {M : Model} (s : Shared) {s₀ : Shared} (X : List (Str × Value) → List (Addr × Obj) → Prop)
    (h : ∀ C : Flow → Shared → Prop, (∀ s', At h₀ L s X s' → C .next s') → (∀ f s', f ≠ .next → Q f s' → C f s') → wpAny M A t C E s₀)
    (k : ∀ ps (u : Str → Option Value) news h tk, X ps news → Fr h₀ L h (kstB u ps) → News h₀ L h news → Q .next { s with heap := h, toks := tk }) : wpAny M A t Q E s₀ :=
  wpAny_mono (h (fun f s' => match f with | .next => At h₀ L s X s' | f => Q f s') (fun _ x => x) (fun f s' hf q => by cases f <;> first | exact absurd rfl hf | exact q)) (fun f s' x => by
    cases f with
    | next => obtain ⟨h, tk, m, ps, news, rfl, F, N, M, hX⟩ := x; exact k ps m news h tk hX (M.fr F) N
    | brk => exact x
    | cont => exact x
    | ret v => exact x) fun _ _ e => e
theorem cut_here {t : Sem Flow} {M : Model} {s : Shared} {m : Str → Option Value} (_F : Fr h₀ L s.heap m) (X : List (Str × Value) → List (Addr × Obj) → Prop)
    (h : ∀ C : Flow → Shared → Prop, (∀ s', At h₀ L s X s' → C .next s') → (∀ f s', f ≠ .next → Q f s' → C f s') → wpAny M A t C E s)
    (k : ∀ ps (u : Str → Option Value) news h tk, X ps news → Fr h₀ L h (kstB u ps) → News h₀ L h news → Q .next { s with heap := h, toks := tk }) : wpAny M A t Q E s := cut_at s X h k
theorem w_cut {test : PySem.Expr} {body orelse : List Stmt} {pos : Pos} {σ : Type} (I : σ → List (Str × Value) → List (Addr × Obj) → Prop) (X : List (Str × Value) → List (Addr × Obj) → Prop) (μ : σ → Nat) (c₀ : σ) (ps₀ : List (Str × Value))
    (F : Fr h₀ L s.heap m₀) (N : News h₀ L s.heap news) (hps : AllAt m₀ ps₀) (h0 : I c₀ ps₀ news)
    (turn : ∀ c ps₁ (u : Str → Option Value) news₁ h tk (P C : Flow → Shared → Prop), I c ps₁ news₁ → Fr h₀ L h (kstB u ps₁) → News h₀ L h news₁ →
      (∀ s', At h₀ L s (fun ps n => ∃ c', I c' ps n ∧ μ c' < μ c) s' → P .next s') → (∀ s', P .next s' → P .cont s') → (∀ s', At h₀ L s X s' → C .next s') → (∀ s', C .next s' → P .brk s') → (∀ v s', Q (.ret v) s' → P (.ret v) s') → (∀ v s', Q (.ret v) s' → C (.ret v) s') →
      wpAny (model prog w) A (isTrue test env (eval test env)) (fun b s₂ => if b = true then wpAny (model prog w) A (execs body env) P E s₂ else wpAny (model prog w) A (execs orelse env) C E s₂) E { s with heap := h, toks := tk })
    (after : ∀ ps₁ (u : Str → Option Value) news₁ h tk, X ps₁ news₁ → Fr h₀ L h (kstB u ps₁) → News h₀ L h news₁ → Q .next { s with heap := h, toks := tk })
    (hE : PassesOwn (model prog w) A env E) :
    wpAny (model prog w) A (exec (.While test body orelse pos) env) Q E s := by
  refine w_start ?_
  let C : Flow → Shared → Prop := fun f s' => match f with | .next => At h₀ L s X s' | .ret v => Q (.ret v) s' | _ => False
  have fin : ∀ f s', C f s' → Q f s' := by
    intro f s' x
    cases f with
    | next => obtain ⟨h, tk, m, ps, news, rfl, F, N, M, hX⟩ := x; exact after ps m news h tk hX (M.fr F) N
    | brk => exact x.elim
    | cont => exact x.elim
    | ret v => exact x
  have key : ∀ k c, μ c < k → ∀ ps₁ m₁ news₁ h tk, AllAt m₁ ps₁ → I c ps₁ news₁ → Fr h₀ L h m₁ → News h₀ L h news₁ → WRest prog w A E env test body orelse Q { s with heap := h, toks := tk } := by
    intro k
    induction k with
    | zero => intro c hc; exact absurd hc (Nat.not_lt_zero _)
    | succ k ih =>
      intro c hc ps₁ m₁ news₁ h tk hM hI F₁ N₁
      let P : Flow → Shared → Prop := fun f s' => match f with | .next => At h₀ L s (fun ps n => ∃ c', I c' ps n ∧ μ c' < μ c) s' | .cont => At h₀ L s (fun ps n => ∃ c', I c' ps n ∧ μ c' < μ c) s' | .brk => C .next s' | .ret v => Q (.ret v) s'
      refine w_turn (wpAny_mono (turn c ps₁ m₁ news₁ h tk P C hI (hM.fr F₁) N₁ (fun _ x => x) (fun _ x => x) (fun _ x => x) (fun _ x => x) (fun _ _ x => x) (fun _ _ x => x)) (fun b s₂ x => ?_) fun _ _ e => e) hE
      cases b with
      | false =>
        rw [if_neg Bool.false_ne_true] at x ⊢
        exact wpAny_mono x fin fun _ _ e => e
      | true =>
        rw [if_pos rfl] at x ⊢
        refine wpAny_mono x (fun f s₃ y => ?_) fun _ _ e => e
        cases f with
        | ret v => exact y
        | brk => exact fin _ _ y
        | next => obtain ⟨h', tk', m', ps', n', rfl, F', N', hM', c', hI', hlt⟩ := y; exact ih c' (by omega) ps' m' n' h' tk' hM' hI' F' N'
        | cont => obtain ⟨h', tk', m', ps', n', rfl, F', N', hM', c', hI', hlt⟩ := y; exact ih c' (by omega) ps' m' n' h' tk' hM' hI' F' N'
  exact key _ c₀ (Nat.lt_succ_self _) ps₀ m₀ news s.heap s.toks hps h0 F N
noncomputable def AtI (h₀ : Heap) (L : Addr) (s : Shared) (I : Addr) (it : Obj) (X : List (Str × Value) → List (Addr × Obj) → Prop) (s' : Shared) : Prop :=
  ∃ h tk m ps news, s' = { s with heap := h, toks := tk } ∧ Fr h₀ L h m ∧ News h₀ L h ((I, it) :: news) ∧ (∀ p ∈ news, p.1 ≠ I) ∧ AllAt m ps ∧ X ps news
theorem AtI.intro {I : Addr} {it : Obj} {X : List (Str × Value) → List (Addr × Obj) → Prop} {h' : Heap} {tk : Nat} {m' : Str → Option Value} {all : List (Addr × Obj)} (F : Fr h₀ L h' m') (N : News h₀ L h' all) (ps : List (Str × Value)) (news' : List (Addr × Obj)) (hps : AllAt m' ps)
    (hI : (I, it) ∈ all) (sub : ∀ p ∈ news', p ∈ all) (off : ∀ p ∈ news', p.1 ≠ I) (x : X ps news') : AtI h₀ L s I it X { s with heap := h', toks := tk } :=
  ⟨h', tk, m', ps, news', rfl, F, fun p hp => (List.mem_cons.mp hp).elim (fun e => e ▸ N _ hI) fun hp => N _ (sub p hp), off, hps, x⟩
theorem for_listS {target : PySem.Expr} {body : List Stmt} {iter : PySem.Expr} {pos : Pos} (J : List Value → List (Str × Value) → List (Addr × Obj) → Prop) (ps₀ : List (Str × Value)) {ax : Addr} {lo : Obj} {vs : List Value} {n : Nat}
    (hh : A.handled = none) (F : Fr h₀ env.locals s.heap m₀) (N : News h₀ env.locals s.heap news) (hm : (ax, lo) ∈ news) (hc : lo.cls = .type "list") (hd : lo.data = .seq vs.toArray n)
    (hps : AllAt m₀ ps₀) (h0 : J vs ps₀ news) (hk : ∀ r ps n, J r ps n → (ax, lo) ∈ n)
    (turn : ∀ I v r ps₁ (u : Str → Option Value) news₁ it h tk (P : Flow → Shared → Prop), (∀ p ∈ news, p.1 < I) → it.cls = .type "list_iterator" → J (v :: r) ps₁ news₁ → Fr h₀ env.locals h (kstB u ps₁) → News h₀ env.locals h ((I, it) :: news₁) →
      (∀ s', AtI h₀ env.locals s I it (J r) s' → P .next s') → (∀ s', P .next s' → P .cont s') → (∀ s', Q .next s' → P .brk s') → (∀ v s', Q (.ret v) s' → P (.ret v) s') →
      wpAny (model prog w) A (assign target env v) (fun _ s₂ => wpAny (model prog w) A (execs body env) P E s₂) E { s with heap := h, toks := tk })
    (done : ∀ ps₁ (u : Str → Option Value) news₁ h tk, J [] ps₁ news₁ → Fr h₀ env.locals h (kstB u ps₁) → News h₀ env.locals h news₁ → Q .next { s with heap := h, toks := tk })
    (hE : PassesOwn (model prog w) A env E) (he : ∀ Q', Q' (.ref ax) s → wpAny (model prog w) A (eval iter env) Q' E s)
    (hs : ∀ x, foldedSetIterable iter env x = pure x := by intro _; rfl) :
    wpAny (model prog w) A (exec (.For target iter body [] pos) env) Q E s := by
  refine For_turns F (he _ ?_) hs hE
  refine for_list (fun r m n => ∃ ps, AllAt m ps ∧ J r ps n) hh F N hm hc hd ⟨ps₀, hps, h0⟩ (fun r m n ⟨ps, _, j⟩ => hk r ps n j) ?_ ?_
  · rintro I v r m₁ news₁ it h tk hI hit ⟨ps, M, j⟩ F₁ N₁
    refine turn I v r ps m₁ news₁ it h tk _ hI hit j (M.fr F₁) N₁ ?_ (fun _ x => x) (fun _ x => x) (fun _ _ x => x)
    rintro s' ⟨h', tk', m', ps', n', rfl, F', N', off, M', j'⟩
    exact ⟨h', tk', m', n', rfl, F', N', off, ps', M', j'⟩
  · rintro m₁ news₁ h tk ⟨ps, M, j⟩ F₁ N₁
    exact done ps m₁ news₁ h tk j (M.fr F₁) N₁
theorem for_tupS {target : PySem.Expr} {body : List Stmt} {iter : PySem.Expr} {pos : Pos} (J : List Value → List (Str × Value) → List (Addr × Obj) → Prop) (ps₀ : List (Str × Value)) {ax : Addr} {lo : Obj} {vs : List Value} {n : Nat}
    (hh : A.handled = none) (F : Fr h₀ env.locals s.heap m₀) (N : News h₀ env.locals s.heap news) (hm : (ax, lo) ∈ news) (hc : lo.cls = .type "tuple") (hd : lo.data = .seq vs.toArray n)
    (hps : AllAt m₀ ps₀) (h0 : J vs ps₀ news) (hk : ∀ r ps n, J r ps n → (ax, lo) ∈ n)
    (turn : ∀ I v r ps₁ (u : Str → Option Value) news₁ it h tk (P : Flow → Shared → Prop), (∀ p ∈ news, p.1 < I) → it.cls = .type "tuple_iterator" → J (v :: r) ps₁ news₁ → Fr h₀ env.locals h (kstB u ps₁) → News h₀ env.locals h ((I, it) :: news₁) →
      (∀ s', AtI h₀ env.locals s I it (J r) s' → P .next s') → (∀ s', P .next s' → P .cont s') → (∀ s', Q .next s' → P .brk s') → (∀ v s', Q (.ret v) s' → P (.ret v) s') →
      wpAny (model prog w) A (assign target env v) (fun _ s₂ => wpAny (model prog w) A (execs body env) P E s₂) E { s with heap := h, toks := tk })
    (done : ∀ ps₁ (u : Str → Option Value) news₁ h tk, J [] ps₁ news₁ → Fr h₀ env.locals h (kstB u ps₁) → News h₀ env.locals h news₁ → Q .next { s with heap := h, toks := tk })
    (hE : PassesOwn (model prog w) A env E) (he : ∀ Q', Q' (.ref ax) s → wpAny (model prog w) A (eval iter env) Q' E s)
    (hs : ∀ x, foldedSetIterable iter env x = pure x := by intro _; rfl) :
    wpAny (model prog w) A (exec (.For target iter body [] pos) env) Q E s := by
  refine For_turns F (he _ ?_) hs hE
  refine for_tup (fun r m n => ∃ ps, AllAt m ps ∧ J r ps n) hh F N hm hc hd ⟨ps₀, hps, h0⟩ (fun r m n ⟨ps, _, j⟩ => hk r ps n j) ?_ ?_
  · rintro I v r m₁ news₁ it h tk hI hit ⟨ps, M, j⟩ F₁ N₁
    refine turn I v r ps m₁ news₁ it h tk _ hI hit j (M.fr F₁) N₁ ?_ (fun _ x => x) (fun _ x => x) (fun _ _ x => x)
    rintro s' ⟨h', tk', m', ps', n', rfl, F', N', off, M', j'⟩
    exact ⟨h', tk', m', n', rfl, F', N', off, ps', M', j'⟩
  · rintro m₁ news₁ h tk ⟨ps, M, j⟩ F₁ N₁
    exact done ps m₁ news₁ h tk j (M.fr F₁) N₁
theorem for_rangeS {body : List Stmt} {x : Str} {px : Pos} (J : Nat → List (Str × Value) → List (Addr × Obj) → Prop) (ps₀ : List (Str × Value)) {r : Addr} {a₀ b₀ : Int} {t₀ u₀ v₀ : Tok} {n : Nat}
    (hh : A.handled = none) (hr : IsRange s.heap r a₀ b₀ 1 t₀ u₀ v₀) (hsmall : Builtin.Range.small a₀ b₀ 1 = true) (hn : Builtin.Range.rangeSize a₀ b₀ 1 = (n : Int)) (F : Fr h₀ env.locals s.heap m₀) (N : News h₀ env.locals s.heap news)
    (hps : AllAt m₀ ps₀) (h0 : J 0 ps₀ news)
    (turn : ∀ I i t ps₁ (u : Str → Option Value) news₁ it h tk (P : Flow → Shared → Prop), i < n → (∀ p ∈ news, p.1 < I) → it.cls = .type "range_iterator" → J i ps₁ news₁ → Fr h₀ env.locals h (kstB u ps₁) → News h₀ env.locals h ((I, it) :: news₁) →
      (∀ s', AtI h₀ env.locals s I it (J (i + 1)) s' → P .next s') → (∀ s', P .next s' → P .cont s') → (∀ s', Q .next s' → P .brk s') → (∀ v s', Q (.ret v) s' → P (.ret v) s') →
      wpAny (model prog w) A (assign (.Name x px) env (.int (a₀ + (i : Nat)) t)) (fun _ s₂ => wpAny (model prog w) A (execs body env) P E s₂) E { s with heap := h, toks := tk })
    (done : ∀ ps₁ (u : Str → Option Value) news₁ h tk, J n ps₁ news₁ → Fr h₀ env.locals h (kstB u ps₁) → News h₀ env.locals h news₁ → Q .next { s with heap := h, toks := tk }) :
    wpAny (model prog w) A (pyIter (.ref r)) (fun it s₂ => TurnsAt prog w A h₀ env (.Name x px) body Q E it s₂) E s := by
  refine for_range (fun i m n => ∃ ps, AllAt m ps ∧ J i ps n) hh hr hsmall hn F N ⟨ps₀, hps, h0⟩ ?_ ?_
  · rintro I i t m₁ news₁ it h tk hi hI hit ⟨ps, M, j⟩ F₁ N₁
    refine turn I i t ps m₁ news₁ it h tk _ hi hI hit j (M.fr F₁) N₁ ?_ (fun _ x => x) (fun _ x => x) (fun _ _ x => x)
    rintro s' ⟨h', tk', m', ps', n', rfl, F', N', off, M', j'⟩
    exact ⟨h', tk', m', n', rfl, F', N', off, ps', M', j'⟩
  · rintro m₁ news₁ h tk ⟨ps, M, j⟩ F₁ N₁
    exact done ps m₁ news₁ h tk j (M.fr F₁) N₁
end
theorem ne_yes {a b : Int} (h : a ≠ b) : (a != b) = true := bne_iff_ne.mpr h
theorem ne_no {a b : Int} (h : a = b) : ¬ ((a != b) = true) := fun x => bne_iff_ne.mp x h
theorem lines_Loops_73 : True := by
  k_with "execs cons" => (dsimp only; walk_at "execs cons")
  k_with "execs nil" => (dsimp only; walk_at "execs nil")
  k_with "ite" => (k_openite; first | refine ite_pos (ne_yes (by omega)) ?_ | refine ite_neg (ne_no (by omega)) ?_)
  exact trivial
theorem int_is {i j : Int} {t : Tok} (e : i = j) : ∃ t', Value.int i t = .int j t' := ⟨t, by rw [e]⟩
theorem lines_Loops_75 : True := by
  k_with "c_done" => ((rename (∀ _ _ _ _, Left _ _ _ _ → _) => hret9ₖ); (rename (∀ _ _, _ → ¬ _ ∈ List.map _ _ → _) => hg9ₖ); k_dflt (refine' hret9ₖ _ _ _ _ (left_of ?F9ₖ₁₀ ?N9ₖ₁₀ hg9ₖ) ?_; (case F9ₖ₁₀ => assumption); (case N9ₖ₁₀ => assumption)))
  k_with "k_all" => first | exact List.forall_mem_nil _ | (refine' List.forall_mem_cons.mpr ⟨?aₖ₁₁, ?bₖ₁₁⟩; (case aₖ₁₁ => k_ne); (case bₖ₁₁ => k_all)) | fail "k_all: not by order"
  exact trivial
theorem news_nil {g h : Heap} {L : Addr} : News g L h [] := fun _ hp => nomatch hp
theorem news_sub {g h : Heap} {L : Addr} {all news : List (Addr × Obj)} (N : News g L h all) (sub : ∀ p ∈ news, p ∈ all) : News g L h news := fun p hp => N p (sub p hp)
theorem lines_Loops_78 : True := by
  k_with "c_done0" => ((rename (∀ _ _ _ _, Left _ _ _ _ → _) => hret9ₖ); (rename (∀ _ _, _ → ¬ _ ∈ List.map _ _ → _) => hg9ₖ); k_dflt (refine' hret9ₖ _ [] _ _ (left_of ?F9ₖ₁₂ news_nil hg9ₖ) ?_; (case F9ₖ₁₂ => assumption)))
  exact trivial
theorem at_Subst : True := by
  w_top off
  exact trivial
noncomputable def substF (x y : Str) : Int := if x == y then 0 else if Txt.lower x == Txt.lower y then 1 else 2
theorem subst_con (w : World) (mean) (mg mb) (x y : Str) (tx ty : Tok) (hx : x.length ≤ 1) (hy : y.length ≤ 1) : Con w mean mg mb 450 2000 28 [.str x tx, .str y ty] [] (fun r news' => news' = [] ∧ ∃ t, r = .int (substF x y) t) := by
  walk_at "c_start"
  w_strict (k_steps)
  all_goals (walk_at "c_done"; exact ⟨rfl, int_is (by simp_all [substF])⟩)
theorem at_Use : True := by
  w_top off
  exact trivial
theorem use_con {w : World} {mean : ExcName → Option Value} {mg mb : Str → Option Value} {dp un : Nat} {f : Addr} {args : List Value} {newsC all rest : List (Addr × Obj)} {R : Value → List (Addr × Obj) → Prop} (C : Con w mean mg mb dp un f args newsC R)
    {A A₀ : Around} {cn : Str} {cs : Scope} {L a : Addr} {ccd : Value} {cl : List (Str × Addr)} {outer : List Env} {base h₀ : Heap} {m : Str → Option Value} {s : Shared} {Q E : Value → Shared → Prop}
    (B : Below A₀ base outer h₀) (F : Fr h₀ L s.heap m) (X : (hd.heap_1 w.params).In h₀) (N : News h₀ L s.heap all) (T : Top VW LS mean mg mb h₀) (hA : A.frames = some (envX cn cs L a ccd cl :: outer)) (hk : cs.kind = .function) (hh : A.handled = none) (hd : A.depth ≤ dp) (hu : A.units ≤ un)
    (hs : all = newsC ++ rest) (hr : ∀ p ∈ rest, p.1 ∉ newsC.map (·.1))
    (h : ∀ r news' h' tk', Fr h₀ L h' m → News h₀ L h' (news' ++ rest) → (∀ p ∈ news', p.1 ∈ newsC.map (·.1) ∨ ∀ q ∈ all, q.1 ≠ p.1) → R r news' → Q r { s with heap := h', toks := tk' }) :
    wpAny (model Challenge.rw_om0134_01.row.prog w) A (call (.ref f) args) Q E s := by
  subst hs
  refine wpAny_call (codeAny_le (A' := ktrTop dp un A.guards cn cs L a ccd cl outer) (C _ _ _ _ _ _ _ _ _ _ _ _ _ _ B F X (fun p hp => N p (List.mem_append.mpr (.inl hp))) T hk fun r n h' tk' l y => ?_) hh hd hA rfl hu)
  refine h r n h' tk' (l.fr F fun p hp => N p (List.mem_append.mpr (.inl hp))) (l.news F (fun p hp => N p (List.mem_append.mpr (.inl hp))) (fun p hp => N p (List.mem_append.mpr (.inr hp))) hr) (fun p hp => ?_) y
  refine (l.new p hp).imp id fun q p' hp' e => ?_
  rw [← e, (N p' hp').1] at q
  cases q
theorem use_con0 {w : World} {mean : ExcName → Option Value} {mg mb : Str → Option Value} {dp un : Nat} {f : Addr} {args : List Value} {all : List (Addr × Obj)} {R : Value → Prop} (C : Con w mean mg mb dp un f args [] (fun r n => n = [] ∧ R r))
    {A A₀ : Around} {cn : Str} {cs : Scope} {L a : Addr} {ccd : Value} {cl : List (Str × Addr)} {outer : List Env} {base h₀ : Heap} {m : Str → Option Value} {s : Shared} {Q E : Value → Shared → Prop}
    (B : Below A₀ base outer h₀) (F : Fr h₀ L s.heap m) (X : (hd.heap_1 w.params).In h₀) (N : News h₀ L s.heap all) (T : Top VW LS mean mg mb h₀) (hA : A.frames = some (envX cn cs L a ccd cl :: outer)) (hk : cs.kind = .function) (hh : A.handled = none) (hd : A.depth ≤ dp) (hu : A.units ≤ un)
    (h : ∀ r h' tk', Fr h₀ L h' m → News h₀ L h' all → R r → Q r { s with heap := h', toks := tk' }) :
    wpAny (model Challenge.rw_om0134_01.row.prog w) A (call (.ref f) args) Q E s :=
  use_con (rest := all) C B F X N T hA hk hh hd hu rfl (fun _ _ x => nomatch x) fun r n h' tk' F' N' _ y => by
    obtain ⟨rfl, y⟩ := y
    exact h r h' tk' F' N' y
theorem range0_size (n : Nat) : Builtin.Range.rangeSize 0 (n : Int) 1 = (n : Int) := by rw [rangeSize_one]; split <;> omega
theorem range0_small (n : Nat) (h : n ≤ 1000) : Builtin.Range.small 0 (n : Int) 1 = true := small_one (by omega) (by omega) (by omega) (by omega)
theorem range2_size (n : Nat) : Builtin.Range.rangeSize 2 (2 * ((n : Int) + 1)) 2 = (n : Int) := by
  unfold Builtin.Range.rangeSize
  simp only [show (2 : Int) > 0 by decide, if_true]
  split <;> omega
theorem fits_small {i : Int} (h1 : -5000 ≤ i) (h2 : i ≤ 5000) : Builtin.Range.rangeFitsLong i = true := by
  unfold Builtin.Range.rangeFitsLong
  rw [Bool.and_eq_true, decide_eq_true_eq, decide_eq_true_eq]
  omega
theorem range2_small (n : Nat) (h : n ≤ 1000) : Builtin.Range.small 2 (2 * ((n : Int) + 1)) 2 = true := by
  unfold Builtin.Range.small
  rw [range2_size, if_pos (by decide : (2:Int) > 0), fits_small (i := 2) (by omega) (by omega), fits_small (i := 2 * ((n : Int) + 1)) (by omega) (by omega), fits_small (i := (n : Int)) (by omega) (by omega), fits_small (i := 2 * ((n : Int) + 1) + (2 - 1)) (by omega) (by omega), Bool.or_true]
  rfl
section
variable {prog : Program} {w : World} {A : Around} {E : Value → Shared → Prop} {s : Shared} {env : Env} {h₀ : Heap} {L : Addr} {Q : Flow → Shared → Prop} {m₀ : Str → Option Value} {news : List (Addr × Obj)}
theorem for_range0 {body : List Stmt} {x : Str} {px : Pos} (J : Nat → List (Str × Value) → List (Addr × Obj) → Prop) (ps₀ : List (Str × Value)) {r : Addr} {n : Nat} {t₀ u₀ v₀ : Tok}
    (hh : A.handled = none) (hr : IsRange s.heap r 0 (n : Int) 1 t₀ u₀ v₀) (hsm : n ≤ 1000) (F : Fr h₀ env.locals s.heap m₀) (N : News h₀ env.locals s.heap news)
    (hps : AllAt m₀ ps₀) (h0 : J 0 ps₀ news)
    (turn : ∀ I i t ps₁ (u : Str → Option Value) news₁ it h tk (P : Flow → Shared → Prop), i < n → (∀ p ∈ news, p.1 < I) → it.cls = .type "range_iterator" → J i ps₁ news₁ → Fr h₀ env.locals h (kstB u ps₁) → News h₀ env.locals h ((I, it) :: news₁) →
      (∀ s', AtI h₀ env.locals s I it (J (i + 1)) s' → P .next s') → (∀ s', P .next s' → P .cont s') → (∀ s', Q .next s' → P .brk s') → (∀ v s', Q (.ret v) s' → P (.ret v) s') →
      wpAny (model prog w) A (assign (.Name x px) env (.int (i : Int) t)) (fun _ s₂ => wpAny (model prog w) A (execs body env) P E s₂) E { s with heap := h, toks := tk })
    (done : ∀ ps₁ (u : Str → Option Value) news₁ h tk, J n ps₁ news₁ → Fr h₀ env.locals h (kstB u ps₁) → News h₀ env.locals h news₁ → Q .next { s with heap := h, toks := tk }) :
    wpAny (model prog w) A (pyIter (.ref r)) (fun it s₂ => TurnsAt prog w A h₀ env (.Name x px) body Q E it s₂) E s :=
  for_rangeS J ps₀ hh hr (range0_small n hsm) (range0_size n) F N hps h0 (fun I i t ps₁ u news₁ it h tk P a b c d e f g1 g2 g3 g4 => by
    rw [Int.zero_add]
    exact turn I i t ps₁ u news₁ it h tk P a b c d e f g1 g2 g3 g4) done
end
theorem at_LevBase : True := by
  w_top off
  exact trivial
section
open PySem.Builtin.Str
noncomputable def preT (x y : Str) (p : Nat) : Bool := decide ((Txt.slice x (some (p : Int)) none).length ≠ 0) && decide ((Txt.slice y (some (p : Int)) none).length ≠ 0) && (Txt.item x p == Txt.item y p)
noncomputable def preF (x y : Str) : Nat → Nat → Nat
  | 0, p => p
  | k + 1, p => if preT x y p then preF x y k (p + 1) else p
theorem preT_yes {x y : Str} {p : Nat} (h1 : (Txt.slice x (some (p : Int)) none).length ≠ 0) (h2 : (Txt.slice y (some (p : Int)) none).length ≠ 0) (h3 : (Txt.item x p == Txt.item y p) = true) : preT x y p = true := by
  unfold preT; rw [decide_eq_true h1, decide_eq_true h2, h3]; rfl
theorem preT_1 {x y : Str} {p : Nat} (h1 : (Txt.slice x (some (p : Int)) none).length = 0) : preT x y p = false := by
  unfold preT; rw [decide_eq_false (fun h => h h1)]; rfl
theorem preT_2 {x y : Str} {p : Nat} (h1 : (Txt.slice y (some (p : Int)) none).length = 0) : preT x y p = false := by
  unfold preT; rw [decide_eq_false (p := (Txt.slice y (some (p : Int)) none).length ≠ 0) (fun h => h h1)]; simp
theorem preT_3 {x y : Str} {p : Nat} (h1 : (Txt.item x p == Txt.item y p) = false) : preT x y p = false := by
  unfold preT; rw [h1]; simp
theorem preF_go {x y : Str} {p : Nat} (h : preT x y p = true) (hp : p < x.length) : preF x y (x.length - p) p = preF x y (x.length - (p + 1)) (p + 1) := by
  have e : x.length - p = (x.length - (p + 1)) + 1 := by omega
  rw [e, preF, if_pos h]
theorem preF_stop {x y : Str} {p k : Nat} (h : preT x y p = false) : preF x y k p = p := by
  cases k with
  | zero => rfl
  | succ k => rw [preF, if_neg (by rw [h]; exact Bool.false_ne_true)]
noncomputable def sl (x : Str) (q : Nat) : Str := if q = 0 then Txt.slice x none none else Txt.slice x none (some (-(q : Int)))
theorem slice_neg_len (x : Str) (q : Nat) (h : 0 < q) : (Txt.slice x none (some (-(q : Int)))).length = x.length - q := by
  have e : strSliceIndices none (some (-(q : Int))) 1 x.length = List.range (x.length - q) := by
    unfold strSliceIndices sliceRange
    simp only [show (1 : Int) > 0 by decide, if_true]
    rw [if_pos (show -(q : Int) < 0 by omega)]
    have e2 : max (0 : Int) (min (-(q : Int) + (x.length : Int)) (x.length : Int)) = ((x.length - q : Nat) : Int) := by omega
    rw [e2]
    have e3 : (if (0 : Int) < ((x.length - q : Nat) : Int) then (((x.length - q : Nat) : Int) - 0 + 1 - 1) / 1 else 0) = ((x.length - q : Nat) : Int) := by
      split
      · rw [Int.ediv_one]; omega
      · omega
    rw [e3, Int.toNat_natCast]
    conv => rhs; rw [← List.map_id (List.range (x.length - q))]
    refine List.map_congr_left fun k _ => ?_
    simp
  unfold Txt.slice
  rw [e, List.length_range]
  split
  · rename_i h'
    simp at h'
    omega
  · show (List.filterMap _ _).toArray.size = _
    rw [List.size_toArray]
    have : ∀ k ≤ x.cps.size, (List.filterMap (fun i => x.cps[i]?) (List.range k)).length = k := by
      intro k
      induction k with
      | zero => intro _; rfl
      | succ k ih =>
        intro hk
        rw [List.range_succ, List.filterMap_append, List.length_append, ih (by omega)]
        simp [show k < x.cps.size by omega]
    exact this _ (by show x.cps.size - q ≤ _; omega)
theorem sl_zero_len (x : Str) : (Txt.slice x none none).length = x.length := by
  have e : strSliceIndices none none 1 x.length = List.range x.length := by
    unfold strSliceIndices sliceRange
    simp only [show (1 : Int) > 0 by decide, if_true]
    have e3 : (if (0 : Int) < (x.length : Int) then ((x.length : Int) - 0 + 1 - 1) / 1 else 0) = (x.length : Int) := by
      split
      · rw [Int.ediv_one]; omega
      · omega
    rw [e3, Int.toNat_natCast]
    conv => rhs; rw [← List.map_id (List.range x.length)]
    refine List.map_congr_left fun k _ => ?_
    simp
  unfold Txt.slice
  rw [e, List.length_range]
  simp
theorem sl_len (x : Str) (q : Nat) : (sl x q).length = x.length - q := by
  unfold sl
  split
  · rename_i h; subst h; exact sl_zero_len x
  · exact slice_neg_len x q (by omega)
noncomputable def postT (x y : Str) (q : Nat) : Bool := decide (q < x.length) && decide (q < y.length) && (Txt.item x (-(q : Int) - 1) == Txt.item y (-(q : Int) - 1))
noncomputable def postF (x y : Str) : Nat → Nat → Nat
  | 0, p => p
  | k + 1, p => if postT x y p then postF x y k (p + 1) else p
theorem postT_yes {x y : Str} {p : Nat} (h1 : p < x.length) (h2 : p < y.length) (h3 : (Txt.item x (-(p : Int) - 1) == Txt.item y (-(p : Int) - 1)) = true) : postT x y p = true := by
  unfold postT; rw [decide_eq_true h1, decide_eq_true h2, h3]; rfl
theorem postT_1 {x y : Str} {p : Nat} (h1 : ¬ p < x.length) : postT x y p = false := by
  unfold postT; rw [decide_eq_false h1]; rfl
theorem postT_2 {x y : Str} {p : Nat} (h1 : ¬ p < y.length) : postT x y p = false := by
  unfold postT; rw [decide_eq_false (p := p < y.length) h1]; simp
theorem postT_3 {x y : Str} {p : Nat} (h1 : (Txt.item x (-(p : Int) - 1) == Txt.item y (-(p : Int) - 1)) = false) : postT x y p = false := by
  unfold postT; rw [h1]; simp
theorem postF_go {x y : Str} {p : Nat} (h : postT x y p = true) (hp : p < x.length) : postF x y (x.length - p) p = postF x y (x.length - (p + 1)) (p + 1) := by
  have e : x.length - p = (x.length - (p + 1)) + 1 := by omega
  rw [e, postF, if_pos h]
theorem postF_stop {x y : Str} {p k : Nat} (h : postT x y p = false) : postF x y k p = p := by
  cases k with
  | zero => rfl
  | succ k => rw [postF, if_neg (by rw [h]; exact Bool.false_ne_true)]
structure NoneSl : Prop where
theorem lines_LevBase_120 : True := by
  k_with "subscriptTail Name Slice str ref" => ((with_reducible rename NoneSl => mkNₖ); (with_reducible show wpAny _ _ (subscriptTail _ (Expr.Slice none (some _) none _) _ _) _ _ _); (with_reducible rename Fr _ _ _ _ => F'ₖ); (with_reducible rename News _ _ _ _ => N'ₖ); refine slice_strN_nn_len (s := ⟨_, _, _, _, _⟩) F'ₖ N'ₖ ?_; intro _ _ _ _ _ _)
  exact trivial
theorem ints_two : ∀ (vs : List Value) (a c : Int) (n : Nat), vs.length = n → (∀ (j : Nat) (v : Value), vs[j]? = some v → ∃ t, v = .int (a + j * c) t) → IntsAre vs (rangeInts a c n)
  | [], a, c, n, e, _ => by
    subst e
    exact IntsAre.nil
  | v :: r, a, c, n, e, h => by
    subst e
    obtain ⟨t, ht⟩ := h 0 v rfl
    have hv : v = .int a t := by rw [ht]; simp
    subst hv
    have e1 : rangeInts a c (r.length + 1) = a :: rangeInts (a + c) c r.length := by
      unfold rangeInts
      rw [List.range_succ_eq_map, List.map_cons, List.map_map]
      congr 1
      · simp
      · refine List.map_congr_left fun i _ => ?_
        simp only [Function.comp, Nat.succ_eq_add_one]
        push_cast
        rw [Int.add_mul, Int.one_mul]; omega
    rw [List.length_cons, e1]
    refine IntsAre.cons _ _ (ints_two r (a + c) c r.length rfl fun j v hj => ?_)
    obtain ⟨t', ht'⟩ := h (j + 1) v hj
    refine ⟨t', ht'.trans ?_⟩
    congr 1
    push_cast
    rw [Int.add_mul, Int.one_mul]; omega
theorem list_two {prog : Program} {w : World} {A : Around} {E : Value → Shared → Prop} {s : Shared} {h₀ : Heap} {L r : Addr} {m : Str → Option Value} {news : List (Addr × Obj)} {a b c : Int} {t₀ u₀ v₀ : Tok} {n : Nat} {Q : Value → Shared → Prop}
    (hh : A.handled = none) (F : Fr h₀ L s.heap m) (N : News h₀ L s.heap news) (hr : IsRange s.heap r a b c t₀ u₀ v₀) (hsmall : Builtin.Range.small a b c = true) (hn : Builtin.Range.rangeSize a b c = (n : Int)) (hz : n ≤ 2 ^ 24)
    (h : ∀ D us k h' tk, Fr h₀ L h' m → News h₀ L h' ((D, W.listOf (List.toArray us) k) :: news) → (∀ p ∈ news, p.1 < D) → IntsAre us (rangeInts a c n) → Q (.ref D) { s with heap := h', toks := tk }) :
    wpAny (model prog w) A (call (.type "list") [.ref r]) Q E s := by
  refine call_list_range hh hr hsmall hn hz fun h' tk acc k hk hD hI => ?_
  have hD' : h'.get? s.heap.objs.size = some (W.listOf (List.toArray acc.toList) k) := by
    rw [Array.toArray_toList]
    exact hD
  exact h _ acc.toList k h' tk (F.keeps hk) (news_pushed F N hk hD' rfl) (fun p hp => Heap.lt_size (N p hp).1) (ints_two _ _ _ _ (by rw [Array.length_toList]; exact hI.1) fun j v hj => hI.2 j v (by rw [← hj, Array.getElem?_toList]))
theorem slice_pos_len (x : Str) (p : Nat) (h : p ≤ x.length) : (Txt.slice x (some (p : Int)) none).length = x.length - p := by
  have e : strSliceIndices (some (p : Int)) none 1 x.length = (List.range (x.length - p)).map (fun k => p + k) := by
    unfold strSliceIndices sliceRange
    simp only [show (1 : Int) > 0 by decide, if_true]
    rw [if_neg (show ¬ (p : Int) < 0 by omega)]
    have e2 : max (0 : Int) (min (p : Int) (x.length : Int)) = (p : Int) := by omega
    rw [e2]
    have e3 : (if (p : Int) < (x.length : Int) then ((x.length : Int) - (p : Int) + 1 - 1) / 1 else 0) = ((x.length - p : Nat) : Int) := by
      split
      · rw [Int.ediv_one]; omega
      · omega
    rw [e3, Int.toNat_natCast]
    refine List.map_congr_left fun k _ => ?_
    omega
  unfold Txt.slice
  rw [e, List.length_map, List.length_range]
  split
  · rename_i h'
    simp at h'
    omega
  · show (List.filterMap _ _).toArray.size = _
    rw [List.size_toArray, List.filterMap_map]
    have : ∀ k, p + k ≤ x.cps.size → (List.filterMap ((fun i => x.cps[i]?) ∘ fun k => p + k) (List.range k)).length = k := by
      intro k
      induction k with
      | zero => intro _; rfl
      | succ k ih =>
        intro hk
        rw [List.range_succ, List.filterMap_append, List.length_append, ih (by omega)]
        simp [show p + k < x.cps.size by omega]
    exact this _ (by have : x.length = x.cps.size := rfl; omega)
theorem sl_of0 (x : Str) (q : Nat) (h : q = 0) : Txt.slice x none none = sl x q := (if_pos h).symm
theorem sl_ofp (x : Str) (q : Nat) (h : 0 < q) : Txt.slice x none (some (-(q : Int))) = sl x q := (if_neg (by omega)).symm
structure SameI (a b : Int) : Prop where
  eq : a = b
noncomputable def minI (a b : Int) : Int := if b < a then b else a
theorem min_two_M {prog : Program} {w : World} {A : Around} {E : Value → Shared → Prop} {s : Shared} {h₀ : Heap} {L : Addr} {m : Str → Option Value} {news : List (Addr × Obj)} {a b : Int} {t u : Tok} {Q : Value → Shared → Prop} (hh : A.handled = none) (F : Fr h₀ L s.heap m) (N : News h₀ L s.heap news)
    (h : ∀ h' tk t', Fr h₀ L h' m → News h₀ L h' news → Q (.int (minI a b) t') { s with heap := h', toks := tk }) :
    wpAny (model prog w) A (call (.builtin "min") [.int a t, .int b u]) Q E s := min_two_N hh F N fun h' tk F' N' => h h' tk _ F' N'
theorem lines_LevBase_129 : True := by
  k_with "call builtin:min" => ((with_reducible show wpAny _ _ (call (Value.builtin _) [Value.int _ _, Value.int _ _]) _ _ _); (with_reducible rename News _ _ _ _ => N'ₖ); (with_unfolding_all apply min_two_M); (case hhₖ₁₄ => with_unfolding_all rfl); (case Nₖ₁₄ => exact N'ₖ); (case Fₖ₁₄ => assumption); clear N'ₖ; intro _ _ _ _ _)
  exact trivial
structure LSt where
  d : Int
  r : Int
  mn : Int
  row : List Int
noncomputable def cellF (bc u : Str) (i : Nat) (s : LSt) : LSt :=
  let sub := s.d + substF bc (Txt.item u i)
  let d' := s.row.getD i 0
  let r' := minI (minI s.r d' + 2) sub
  ⟨d', r', if r' < s.mn then r' else s.mn, s.row.set i r'⟩
theorem cell_yes {bc u : Str} {i : Nat} {s : LSt} (h : (cellF bc u i s).r < s.mn) : (cellF bc u i s).mn = (cellF bc u i s).r := if_pos h
theorem cell_no {bc u : Str} {i : Nat} {s : LSt} (h : ¬ (cellF bc u i s).r < s.mn) : (cellF bc u i s).mn = s.mn := if_neg h
noncomputable def inF (bc u : Str) : Nat → Nat → LSt → LSt
  | 0, _, s => s
  | k + 1, i, s => inF bc u k (i + 1) (cellF bc u i s)
noncomputable def turnF (u v : Str) (i : Nat) (row : List Int) : LSt := inF (Txt.item v i) u u.length 0 ⟨(i : Int) * 2, (i : Int) * 2, 9223372036854775807, row⟩
noncomputable def rowsF (u v : Str) (mc : Int) : Nat → Nat → List Int → Int → Int
  | 0, _, _, res => res
  | k + 1, i, row, _ => if (turnF u v i row).mn > mc then mc + 1 else rowsF u v mc k (i + 1) (turnF u v i row).row (turnF u v i row).r
noncomputable def levC (u v : Str) (mc : Int) : Int := if u.length = 0 then 0 else rowsF u v mc v.length 0 (rangeInts 2 2 u.length) 0
noncomputable def levF (x y : Str) (mc : Int) : Int :=
  if x == y then 0 else
    let p := preF x y x.length 0
    let x1 := Txt.slice x (some (p : Int)) none
    let y1 := Txt.slice y (some (p : Int)) none
    let q := postF x1 y1 x1.length 0
    levC (sl x1 q) (sl y1 q) mc
theorem levF_eq {x y : Str} {mc : Int} (h : (x == y) = true) : levF x y mc = 0 := if_pos h
theorem levF_ne {x y : Str} {mc : Int} (h : (x == y) = false) : levF x y mc = levC (sl (Txt.slice x (some ((preF x y x.length 0 : Nat) : Int)) none) (postF (Txt.slice x (some ((preF x y x.length 0 : Nat) : Int)) none) (Txt.slice y (some ((preF x y x.length 0 : Nat) : Int)) none) (Txt.slice x (some ((preF x y x.length 0 : Nat) : Int)) none).length 0)) (sl (Txt.slice y (some ((preF x y x.length 0 : Nat) : Int)) none) (postF (Txt.slice x (some ((preF x y x.length 0 : Nat) : Int)) none) (Txt.slice y (some ((preF x y x.length 0 : Nat) : Int)) none) (Txt.slice x (some ((preF x y x.length 0 : Nat) : Int)) none).length 0)) mc := if_neg (by rw [h]; exact Bool.false_ne_true)
theorem levC_zero {u v : Str} {mc : Int} (h : u.length = 0) : levC u v mc = 0 := if_pos h
theorem levC_pos {u v : Str} {mc : Int} (h : u.length ≠ 0) : levC u v mc = rowsF u v mc v.length 0 (rangeInts 2 2 u.length) 0 := if_neg h
theorem inF_go (bc u : Str) (i n : Nat) (s : LSt) (h : i < n) : inF bc u (n - i) i s = inF bc u (n - (i + 1)) (i + 1) (cellF bc u i s) := by
  have e : n - i = (n - (i + 1)) + 1 := by omega
  rw [e, inF]
theorem rowsF_go (u v : Str) (mc : Int) (i n : Nat) (row : List Int) (res : Int) (h : i < n) (hm : ¬ (turnF u v i row).mn > mc) : rowsF u v mc (n - i) i row res = rowsF u v mc (n - (i + 1)) (i + 1) (turnF u v i row).row (turnF u v i row).r := by
  have e : n - i = (n - (i + 1)) + 1 := by omega
  rw [e, rowsF, if_neg hm]
theorem rowsF_stop (u v : Str) (mc : Int) (i n : Nat) (row : List Int) (res : Int) (h : i < n) (hm : (turnF u v i row).mn > mc) : rowsF u v mc (n - i) i row res = mc + 1 := by
  have e : n - i = (n - (i + 1)) + 1 := by omega
  rw [e, rowsF, if_pos hm]
theorem item_len (x : Str) (i : Int) : (Txt.item x i).length ≤ 1 := Nat.le_refl 1
end
theorem at_Lev1 : True := by
  w_top off
  exact trivial
section
open PySem.Builtin.Str
theorem lines_Lev1_151 : True := by
  k_with "call ref" => ((with_reducible show wpAny _ _ (call (Value.ref 28) [Value.str _ _, Value.str _ _]) _ _ _); (refine use_con0 (subst_con _ _ _ _ _ _ _ _ (item_len _ _) (item_len _ _)) (by k_asm) (by k_asm) (by k_asm) (by k_asm) (by k_asm) rfl (by first | assumption | rfl) rfl (Nat.le_of_ble_eq_true rfl) (Nat.le_of_ble_eq_true rfl) ?_); intro r'ₖ h'ₖ tk'ₖ F'ₖ N'ₖ hr'ₖ; rcases hr'ₖ with ⟨t'ₖ, e'ₖ⟩; subst e'ₖ)
  exact trivial
inductive LevR (xu yu : Str) (mc : Int) (D : Nat) (ta tb tm : Tok) (i : Nat) : List (Str × Value) → List (Addr × Obj) → Prop
  | mk {us : List Value} {row : List Int} {k : Nat} {res : Int} {t : Tok} (hI : IntsAre us row) (hl : row.length = xu.length) (hJ : SameI (rowsF xu yu mc (yu.length - i) i row res) (rowsF xu yu mc yu.length 0 (rangeInts 2 2 xu.length) 0)) :
    LevR xu yu mc D ta tb tm i [(("a" : Str), .str xu ta), (("b" : Str), .str yu tb), (("max_cost" : Str), .int mc tm), (("row" : Str), .ref D), (("result" : Str), .int res t)] [(D, W.listOf (List.toArray us) k)]
inductive LevC (xu yu : Str) (mc : Int) (D I : Nat) (it : Obj) (ta tb tm : Tok) (i : Nat) (row : List Int) (j : Nat) (ps : List (Str × Value)) : List (Addr × Obj) → Prop
  | mk {us2 : List Value} {k2 : Nat} (st : LSt) {tbc td tr tmn : Tok} (e : ps = [(("a" : Str), .str xu ta), (("b" : Str), .str yu tb), (("max_cost" : Str), .int mc tm), (("row" : Str), .ref D), (("bchar" : Str), .str (Txt.item yu i) tbc), (("distance" : Str), .int (LSt.d st) td), (("result" : Str), .int (LSt.r st) tr), (("minimum" : Str), .int (LSt.mn st) tmn)])
    (hI : IntsAre us2 (LSt.row st)) (hl2 : (LSt.row st).length = xu.length) (hJ2 : inF (Txt.item yu i) xu (xu.length - j) j st = turnF xu yu i row) : LevC xu yu mc D I it ta tb tm i row j ps [(I, it), (D, W.listOf (List.toArray us2) k2)]
namespace S_lev_con
noncomputable def stm (w : World) (mean : ExcName → Option Value) (mg mb : Str → Option Value) (x y : Str) (tx ty tm : Tok) (mc : Int) (gdₛ : Option (List Code)) (cnₛ : Str) (csₛ : Scope) (Lₛ aₛ : Addr) (ccdₛ : Value) (clₛ : List (Str × Addr)) (outerₛ : List Env) (A₀ₛ : Around) (baseₛ h₀ₛ : Heap) (mₛ : Str → Option Value) (sₛ : Shared) (RRₛ : Result → Shared → Prop) : Prop := ∀ (hx : x.length ≤ 40) (hy : y.length ≤ 40) (hxy : x.length = y.length) (hm : 0 ≤ mc ∧ mc ≤ 10), ConB w mean mg mb 440 1900 35 [.str x tx, .str y ty, .int mc tm] [] (fun r news' => news' = [] ∧ ∃ t, r = .int (levF x y mc) t) gdₛ cnₛ csₛ Lₛ aₛ ccdₛ clₛ outerₛ A₀ₛ baseₛ h₀ₛ mₛ sₛ RRₛ
noncomputable abbrev Dat := World × (ExcName → Option Value) × (Str → Option Value) × (Str → Option Value) × Str × Str × Tok × Tok × Tok × Int × Option (List Code) × Str × Scope × Addr × Addr × Value × (List (Str × Addr)) × List Env × Around × Heap × Heap × (Str → Option Value) × Shared × (Result → Shared → Prop)
noncomputable def ok (p : Dat) : Prop := let q1 := p.2.2.2.2.2.2.2.2; let q2 := q1.2.2.2.2.2.2.2.2; stm p.1 p.2.1 p.2.2.1 p.2.2.2.1 p.2.2.2.2.1 p.2.2.2.2.2.1 p.2.2.2.2.2.2.1 p.2.2.2.2.2.2.2.1 q1.1 q1.2.1 q1.2.2.1 q1.2.2.2.1 q1.2.2.2.2.1 q1.2.2.2.2.2.1 q1.2.2.2.2.2.2.1 q1.2.2.2.2.2.2.2.1 q2.1 q2.2.1 q2.2.2.1 q2.2.2.2.1 q2.2.2.2.2.1 q2.2.2.2.2.2.1 q2.2.2.2.2.2.2.1 q2.2.2.2.2.2.2.2
@[irreducible] noncomputable def cc : Dat := @Classical.epsilon Dat ⟨(world0, fun _ => none, fun _ => none, fun _ => none, default, default, (0 : Nat), (0 : Nat), (0 : Nat), 0, none, default, default, (0 : Nat), (0 : Nat), .none, [], [], {}, {}, {}, fun _ => none, {}, fun _ _ => True)⟩ fun p => ¬ ok p
noncomputable def c1 := cc.2.2.2.2.2.2.2.2
noncomputable def c2 := c1.2.2.2.2.2.2.2.2
@[irreducible] noncomputable def w : World := cc.1
@[irreducible] noncomputable def mean : ExcName → Option Value := cc.2.1
@[irreducible] noncomputable def mg : Str → Option Value := cc.2.2.1
@[irreducible] noncomputable def mb : Str → Option Value := cc.2.2.2.1
@[irreducible] noncomputable def x : Str := cc.2.2.2.2.1
@[irreducible] noncomputable def y : Str := cc.2.2.2.2.2.1
@[irreducible] noncomputable def tx : Tok := cc.2.2.2.2.2.2.1
@[irreducible] noncomputable def ty : Tok := cc.2.2.2.2.2.2.2.1
@[irreducible] noncomputable def tm : Tok := c1.1
@[irreducible] noncomputable def mc : Int := c1.2.1
@[irreducible] noncomputable def gdₛ : Option (List Code) := c1.2.2.1
@[irreducible] noncomputable def cnₛ : Str := c1.2.2.2.1
@[irreducible] noncomputable def csₛ : Scope := c1.2.2.2.2.1
@[irreducible] noncomputable def Lₛ : Addr := c1.2.2.2.2.2.1
@[irreducible] noncomputable def aₛ : Addr := c1.2.2.2.2.2.2.1
@[irreducible] noncomputable def ccdₛ : Value := c1.2.2.2.2.2.2.2.1
@[irreducible] noncomputable def clₛ : List (Str × Addr) := c2.1
@[irreducible] noncomputable def outerₛ : List Env := c2.2.1
@[irreducible] noncomputable def A₀ₛ : Around := c2.2.2.1
@[irreducible] noncomputable def baseₛ : Heap := c2.2.2.2.1
@[irreducible] noncomputable def h₀ₛ : Heap := c2.2.2.2.2.1
@[irreducible] noncomputable def mₛ : Str → Option Value := c2.2.2.2.2.2.1
@[irreducible] noncomputable def sₛ : Shared := c2.2.2.2.2.2.2.1
@[irreducible] noncomputable def RRₛ : Result → Shared → Prop := c2.2.2.2.2.2.2.2
theorem core : stm w mean mg mb x y tx ty tm mc gdₛ cnₛ csₛ Lₛ aₛ ccdₛ clₛ outerₛ A₀ₛ baseₛ h₀ₛ mₛ sₛ RRₛ := by
  intro hx hy hxy hm
  walk_at "c_start"
  w_strict (walk_at "k_to")
  · walk_at "c_done"; exact ⟨rfl, int_is (levF_eq (by assumption)).symm⟩
  have hL := SameI.mk (levF_ne (mc := mc) (show (x == y) = false by assumption))
  rename Fr _ _ _ _ => F0
  rename News _ _ _ _ => N0
  refine w_cut (σ := Nat) (fun pre ps n => n = [] ∧ ∃ t, ps = [(("a" : Str), .str x tx), (("b" : Str), .str y ty), (("max_cost" : Str), .int mc tm), (("pre" : Str), .int (pre : Int) t)] ∧ pre ≤ x.length ∧ pre ≤ y.length ∧ preF x y (x.length - pre) pre = preF x y x.length 0)
    (fun ps n => n = [] ∧ ∃ t, ps = [(("a" : Str), .str x tx), (("b" : Str), .str y ty), (("max_cost" : Str), .int mc tm), (("pre" : Str), .int (preF x y x.length 0 : Nat) t)] ∧ preF x y x.length 0 ≤ x.length ∧ preF x y x.length 0 ≤ y.length)
    (fun pre => x.length - pre) 0 [("a", _), ("b", _), ("max_cost", _), ("pre", _)] F0 N0 (by exact ⟨rfl, rfl, rfl, rfl, trivial⟩) (by exact ⟨rfl, _, rfl, Nat.zero_le _, Nat.zero_le _, rfl⟩) ?_ ?_ (by passes_own)
  · clear F0 N0
    rintro pre ps₁ u news₁ h tk P C ⟨rfl, t, rfl, hp1, hp2, hP⟩ F1 N1 hN - hC - - -
    dsimp only [kstB] at F1
    walk_at "k_to"
    · refine hN _ (At.intro' (by assumption) (by assumption) [("a", _), ("b", _), ("max_cost", _), ("pre", _)] (by exact ⟨rfl, rfl, rfl, rfl, trivial⟩) ⟨pre + 1, ⟨rfl, _, rfl, by omega, by omega, ?_⟩, by omega⟩)
      rw [← preF_go (preT_yes (by omega) (by omega) (by assumption)) (by omega)]
      exact hP
    all_goals ((have hS : preF x y (x.length - pre) pre = pre := preF_stop (by first | exact preT_3 (by assumption) | exact preT_1 (by omega) | exact preT_2 (by omega))); rw [hS] at hP; subst hP; exact hC _ (At.intro' (by assumption) (by assumption) [("a", _), ("b", _), ("max_cost", _), ("pre", _)] (by exact ⟨rfl, rfl, rfl, rfl, trivial⟩) ⟨rfl, _, rfl, hp1, hp2⟩))
  · clear F0 N0
    rintro ps₁ u news₁ h tk ⟨rfl, t, rfl, hp1, hp2⟩ F1 N1
    dsimp only [kstB] at F1
    walk_at "k_to"
    have l1 := slice_pos_len x _ hp1
    have l2 := slice_pos_len y _ hp2
    generalize hx1 : Txt.slice x (some ((preF x y x.length 0 : Nat) : Int)) none = x1 at *
    generalize hy1 : Txt.slice y (some ((preF x y x.length 0 : Nat) : Int)) none = y1 at *
    have e1 : x1.length = y1.length := by omega
    have m1 : x1.length ≤ 40 := by omega
    clear l1 l2 hp1 hp2 hx hy hxy
    (try clear hx1 hy1)
    rename Fr _ _ _ _ => F0
    rename News _ _ _ _ => N0
    refine w_cut (σ := Nat × Tok × Tok) (fun q ps n => n = [] ∧ ∃ t, ps = [(("a" : Str), .str x1 q.2.1), (("b" : Str), .str y1 q.2.2), (("max_cost" : Str), .int mc tm), (("post" : Str), .int (-(q.1 : Int)) t)] ∧ q.1 ≤ x1.length ∧ q.1 ≤ y1.length ∧ postF x1 y1 (x1.length - q.1) q.1 = postF x1 y1 x1.length 0)
      (fun ps n => n = [] ∧ ∃ ta tb t, ps = [(("a" : Str), .str x1 ta), (("b" : Str), .str y1 tb), (("max_cost" : Str), .int mc tm), (("post" : Str), .int (-((postF x1 y1 x1.length 0 : Nat) : Int)) t)] ∧ postF x1 y1 x1.length 0 ≤ x1.length ∧ postF x1 y1 x1.length 0 ≤ y1.length)
      (fun q => x1.length - q.1) (0, _, _) [("a", _), ("b", _), ("max_cost", _), ("post", _)] F0 N0 (by exact ⟨rfl, rfl, rfl, rfl, trivial⟩) (by exact ⟨rfl, _, rfl, Nat.zero_le _, Nat.zero_le _, rfl⟩) ?_ ?_ (by passes_own)
    · clear F0 N0
      rintro ⟨q, ta, tb⟩ ps₁ u news₁ h tk P C ⟨rfl, t, rfl, hq1, hq2, hP⟩ F1 N1 hN - hC - - -
      dsimp only at hq1 hq2 hP
      dsimp only [kstB] at F1
      have s1 := slice_neg_len x1 q
      have s2 := slice_neg_len y1 q
      have s3 := sl_zero_len x1
      have s4 := sl_zero_len y1
      have qs : (q = 0 ∧ NoneSl) ∨ 0 < q := (Nat.eq_zero_or_pos q).imp (fun h => ⟨h, ⟨⟩⟩) id
      rcases qs with ⟨hq0, mk0⟩ | hq0
      · rw [show -(q : Int) = 0 by omega] at F1
        clear s1 s2
        walk_at "k_to"
        · refine hN _ (At.intro' (by assumption) (by assumption) [("a", _), ("b", _), ("max_cost", _), ("post", _)] (by exact ⟨rfl, rfl, rfl, rfl, trivial⟩) ⟨(q + 1, ta, tb), ⟨rfl, _, (by rw [show -((q + 1 : Nat) : Int) = 0 - 1 by omega]), by dsimp only; omega, by dsimp only; omega, ?_⟩, by dsimp only; omega⟩)
          exact (postF_go (postT_yes (x := x1) (y := y1) (p := q) (by omega) (by omega) (by rw [show -(q : Int) = 0 by omega]; assumption)) (by omega)).symm.trans hP
        all_goals ((have hS : postF x1 y1 (x1.length - q) q = q := postF_stop (by first | exact postT_3 (by rw [show -(q : Int) = 0 by omega]; assumption) | exact postT_1 (by omega) | exact postT_2 (by omega))); rw [hS] at hP; exact hC _ (At.intro' (by assumption) (by assumption) [("a", _), ("b", _), ("max_cost", _), ("post", _)] (by exact ⟨rfl, rfl, rfl, rfl, trivial⟩) ⟨rfl, _, _, _, (by rw [← hP, hq0]; rfl), by omega, by omega⟩))
      · replace s1 : (Txt.slice x1 none (some (-(q : Int)))).length + q = x1.length := by have := s1 hq0; omega
        replace s2 : (Txt.slice y1 none (some (-(q : Int)))).length + q = y1.length := by have := s2 hq0; omega
        clear s3 s4
        walk_at "k_to"
        all_goals (try (exfalso; omega))
        · refine hN _ (At.intro' (by assumption) (by assumption) [("a", _), ("b", _), ("max_cost", _), ("post", _)] (by exact ⟨rfl, rfl, rfl, rfl, trivial⟩) ⟨(q + 1, ta, tb), ⟨rfl, _, (by rw [show -((q + 1 : Nat) : Int) = -(q : Int) - 1 by omega]), by dsimp only; omega, by dsimp only; omega, ?_⟩, by dsimp only; omega⟩)
          exact (postF_go (postT_yes (x := x1) (y := y1) (p := q) (by omega) (by omega) (by assumption)) (by omega)).symm.trans hP
        all_goals ((have hS : postF x1 y1 (x1.length - q) q = q := postF_stop (by first | exact postT_3 (by assumption) | exact postT_1 (by omega) | exact postT_2 (by omega))); rw [hS] at hP; subst hP; exact hC _ (At.intro' (by assumption) (by assumption) [("a", _), ("b", _), ("max_cost", _), ("post", _)] (by exact ⟨rfl, rfl, rfl, rfl, trivial⟩) ⟨rfl, _, _, _, rfl, hq1, hq2⟩))
    · clear F0 N0
      rintro ps₁ u news₁ h tk ⟨rfl, ta, tb, t, rfl, hq1, hq2⟩ F1 N1
      dsimp only [kstB] at F1
      generalize hq : postF x1 y1 x1.length 0 = q at *
      have s1 := sl_len x1 q
      have s2 := sl_len y1 q
      dsimp only
      walk1
      refine cut_here F1 (fun ps n => n = [] ∧ ∃ ta tb t, ps = [(("a" : Str), .str (sl x1 q) ta), (("b" : Str), .str y1 tb), (("max_cost" : Str), .int mc tm), (("post" : Str), .int (-(q : Int)) t)]) ?_ ?_
      · intro C hN hR
        have qs : (q = 0 ∧ NoneSl) ∨ 0 < q := (Nat.eq_zero_or_pos q).imp (fun h => ⟨h, ⟨⟩⟩) id
        rcases qs with ⟨hq0, mk0⟩ | hq0
        · rw [show -(q : Int) = 0 by omega] at F1
          walk_at "k_to"
          exact hN _ (At.intro' (by assumption) (by assumption) [("a", _), ("b", _), ("max_cost", _), ("post", _)] (by exact ⟨rfl, rfl, rfl, rfl, trivial⟩) ⟨rfl, _, _, _, (by rw [sl_of0 x1 q hq0, show -(q : Int) = 0 by omega])⟩)
        · walk_at "k_to"
          exact hN _ (At.intro' (by assumption) (by assumption) [("a", _), ("b", _), ("max_cost", _), ("post", _)] (by exact ⟨rfl, rfl, rfl, rfl, trivial⟩) ⟨rfl, _, _, _, (by rw [sl_ofp x1 q hq0])⟩)
      · clear F1 N1
        rintro ps₁ u news₁ h tk ⟨rfl, ta, tb, t, rfl⟩ F1 N1
        dsimp only [kstB] at F1
        dsimp only
        walk1
        refine cut_here F1 (fun ps n => n = [] ∧ ∃ ta tb, ps = [(("a" : Str), .str (sl x1 q) ta), (("b" : Str), .str (sl y1 q) tb), (("max_cost" : Str), .int mc tm)]) ?_ ?_
        · intro C hN hR
          have qs : (q = 0 ∧ NoneSl) ∨ 0 < q := (Nat.eq_zero_or_pos q).imp (fun h => ⟨h, ⟨⟩⟩) id
          rcases qs with ⟨hq0, mk0⟩ | hq0
          · rw [show -(q : Int) = 0 by omega] at F1
            walk_at "k_to"
            exact hN _ (At.intro' (by assumption) (by assumption) [("a", _), ("b", _), ("max_cost", _)] (by exact ⟨rfl, rfl, rfl, trivial⟩) ⟨rfl, _, _, (by rw [sl_of0 y1 q hq0])⟩)
          · walk_at "k_to"
            exact hN _ (At.intro' (by assumption) (by assumption) [("a", _), ("b", _), ("max_cost", _)] (by exact ⟨rfl, rfl, rfl, trivial⟩) ⟨rfl, _, _, (by rw [sl_ofp y1 q hq0])⟩)
        · clear F1 N1
          rintro ps₁ u news₁ h tk ⟨rfl, ta, tb, rfl⟩ F1 N1
          dsimp only [kstB] at F1
          have lu : (sl x1 q).length = (sl y1 q).length := by omega
          have l40 : (sl y1 q).length ≤ 40 := by omega
          clear s1 s2 hq1 hq2 hq
          generalize sl x1 q = xu at *
          generalize sl y1 q = yu at *
          walk_at "k_to"
          rotate_left
          · walk_at "c_done"; exact ⟨rfl, int_is ((show (2 : Int) * (xu.length + yu.length) = 0 by omega).trans ((levC_zero (by omega)).symm.trans hL.eq.symm))⟩
          have hx0 : xu.length ≠ 0 := by omega
          refine list_two (n := xu.length) rfl (by assumption) (by assumption) (by assumption) (range2_small _ (by omega)) (range2_size _) (by omega) ?_
          intro D us k h2 tk2 F2 N2 hD hI
          clear hD
          walk_at "k_to"
          refine For_turns (by assumption) ?_
          walk_at "k_to"
          rename Fr _ _ _ _ => F0
          rename News _ _ _ _ => N0
          refine for_range0 (n := yu.length) (LevR xu yu mc D ta tb tm)
            [("a", _), ("b", _), ("max_cost", _), ("row", _), ("result", _)] rfl (by assumption) (by omega) F0 N0 (by exact ⟨rfl, rfl, rfl, rfl, rfl, trivial⟩) (.mk hI (by simp [rangeInts]) ⟨rfl⟩) ?_ ?_
          · clear F0 N0 hI
            rintro I i t ps₁ u news₁ it h tk P hi hI' hit ⟨hI, hl, hJ⟩ F1 N1 hN - - hR
            rename_i us row k res t9
            k_lt hI'
            dsimp only [kstB] at F1
            walk_at "k_to"
            refine For_turns (by assumption) ?_
            walk_at "k_to"
            rename Fr _ _ _ _ => F0
            rename News _ _ _ _ => N0
            refine for_range0 (n := xu.length) (LevC xu yu mc D I it ta tb tm i row)
              [("a", _), ("b", _), ("max_cost", _), ("row", _), ("bchar", _), ("distance", _), ("result", _), ("minimum", _)] rfl (by assumption) (by omega) F0 N0 (by exact ⟨rfl, rfl, rfl, rfl, rfl, rfl, rfl, rfl, trivial⟩) (.mk ⟨(i : Int) * 2, (i : Int) * 2, 9223372036854775807, row⟩ rfl hI hl rfl) ?_ ?_
            · clear F0 N0 hI
              rintro I2 j t2 ps₁ u news₁ it2 h tk P2 hj hI2 hit2 ⟨st, rfl, hI, hl2, hJ2⟩ F1 N1 hN2 - - -
              k_lt hI2
              rename (1 ≤ Str.length (Txt.item yu _) ∧ _) => hitm
              clear hitm
              have off2 : ∀ o : Obj, ∀ p ∈ [(I, it), (D, o)], p.1 ≠ I2 := by intro o; k_all
              dsimp only [kstB] at F1
              walk_at "k_to"
              · rename IntsAre (List.set _ _ _) _ => hset
                rename (_ < LSt.mn _) => hmn
                (refine hN2 _ ?_; dsimp only; refine AtI.intro (by assumption) (by assumption) [("a", _), ("b", _), ("max_cost", _), ("row", _), ("bchar", _), ("distance", _), ("result", _), ("minimum", _)] [(I, it), (D, _)] (by exact ⟨rfl, rfl, rfl, rfl, rfl, rfl, rfl, rfl, trivial⟩) (List.mem_cons_self ..) (fun p hp => List.mem_cons_of_mem _ hp) (off2 _) ?_)
                exact .mk (cellF (Txt.item yu i) xu j st) (by rw [cell_yes hmn]; exact rfl) hset ((List.length_set ..).trans hl2) ((inF_go _ _ _ _ _ hj).symm.trans hJ2)
              · rename IntsAre (List.set _ _ _) _ => hset
                rename (¬ _ < LSt.mn _) => hmn
                (refine hN2 _ ?_; dsimp only; refine AtI.intro (by assumption) (by assumption) [("a", _), ("b", _), ("max_cost", _), ("row", _), ("bchar", _), ("distance", _), ("result", _), ("minimum", _)] [(I, it), (D, _)] (by exact ⟨rfl, rfl, rfl, rfl, rfl, rfl, rfl, rfl, trivial⟩) (List.mem_cons_self ..) (fun p hp => List.mem_cons_of_mem _ hp) (off2 _) ?_)
                exact .mk (cellF (Txt.item yu i) xu j st) (by rw [cell_no hmn]; exact rfl) hset ((List.length_set ..).trans hl2) ((inF_go _ _ _ _ _ hj).symm.trans hJ2)
            · clear F0 N0 hI
              rintro ps₁ u news₁ h tk ⟨st, rfl, hI, hl2, hJ2⟩ F1 N1
              rename_i us2 k2 _ _ _ _
              rw [Nat.sub_self] at hJ2
              replace hJ2 : st = turnF xu yu i row := hJ2
              dsimp only [kstB] at F1
              walk_at "k_to"
              · refine hR _ _ ?_
                walk_at "k_to"
                rename (_ < LSt.mn _) => hmn
                rw [hJ2] at hmn
                have hfin := (((rowsF_stop _ _ _ _ _ _ _ hi hmn).symm.trans hJ.eq).trans ((levC_pos hx0).symm.trans hL.eq.symm))
                walk_at "c_done0"
                exact ⟨rfl, int_is hfin⟩
              · (refine hN _ ?_; dsimp only; refine AtI.intro (by assumption) (by assumption) [("a", _), ("b", _), ("max_cost", _), ("row", _), ("result", _)] [(D, _)] (by exact ⟨rfl, rfl, rfl, rfl, rfl, trivial⟩) (List.mem_cons_self ..) (fun p hp => List.mem_cons_of_mem _ hp) (by k_all) ?_)
                rename (¬ _ < LSt.mn _) => hmn
                have hmn2 := hmn
                rw [hJ2] at hmn2
                exact .mk hI hl2 ⟨(congrArg (fun z => rowsF xu yu mc (yu.length - (i + 1)) (i + 1) (LSt.row z) (LSt.r z)) hJ2).trans ((rowsF_go _ _ _ _ _ _ _ hi hmn2).symm.trans hJ.eq)⟩
          · clear F0 N0 hI
            rintro ps₁ u news₁ h tk ⟨hI, hl, hJ⟩ F1 N1
            rename_i us row k res t9
            rw [Nat.sub_self] at hJ
            replace hJ : SameI res (rowsF xu yu mc yu.length 0 (rangeInts 2 2 xu.length) 0) := hJ
            dsimp only [kstB] at F1
            walk_at "k_to"
            walk_at "c_done0"
            exact ⟨rfl, int_is (hJ.eq.trans ((levC_pos hx0).symm.trans hL.eq.symm))⟩
theorem all (p : Dat) : ok p := drink _ ok (by with_unfolding_all exact core) p
end S_lev_con
theorem lev_con (w : World) (mean) (mg mb) (x y : Str) (tx ty tm : Tok) (mc : Int) (hx : x.length ≤ 40) (hy : y.length ≤ 40) (hxy : x.length = y.length) (hm : 0 ≤ mc ∧ mc ≤ 10) : Con w mean mg mb 440 1900 35 [.str x tx, .str y ty, .int mc tm] [] (fun r news' => news' = [] ∧ ∃ t, r = .int (levF x y mc) t) :=
  fun gdₛ cnₛ csₛ Lₛ aₛ ccdₛ clₛ outerₛ A₀ₛ baseₛ h₀ₛ mₛ sₛ RRₛ => S_lev_con.all (w, mean, mg, mb, x, y, tx, ty, tm, mc, gdₛ, cnₛ, csₛ, Lₛ, aₛ, ccdₛ, clₛ, outerₛ, A₀ₛ, baseₛ, h₀ₛ, mₛ, sₛ, RRₛ) hx hy hxy hm
end
theorem at_SldBase : True := by
  w_top off
  exact trivial
noncomputable def difF : Nat → List Int → List Int → List Int → List Int → List Int × List Int
  | 0, es, as, m, u => (m ++ es, u ++ as)
  | k + 1, e :: es, a :: as, m, u => if e < a then difF k es (a :: as) (m ++ [e]) u else if a < e then difF k (e :: es) as m (u ++ [a]) else difF k es as m u
  | _ + 1, [], as, m, u => (m ++ [], u ++ as)
  | _ + 1, e :: es, [], m, u => (m ++ e :: es, u ++ [])
noncomputable def sldF (ne na : List Int) : List Int × List Int := difF (ne.length + na.length) ne na [] []
theorem drop_at (l : List Int) (i : Nat) (h : i < l.length) : l.drop i = l.getD i 0 :: l.drop (i + 1) := by
  rw [List.drop_eq_getElem_cons h]
  congr 1
  simp [List.getD, h]
structure DA (ne na : List Int) (i j : Nat) (nm nu : List Int) : Prop where
  at_ : ∃ k, (ne.length - i) + (na.length - j) ≤ k ∧ difF k (ne.drop i) (na.drop j) nm nu = sldF ne na
theorem DA.init (ne na : List Int) : DA ne na 0 0 [] [] := ⟨_, Nat.le_refl _, rfl⟩
theorem DA.lt {ne na : List Int} {i j : Nat} {nm nu : List Int} (D : DA ne na i j nm nu) (hi : i < ne.length) (hj : j < na.length) (h : ne.getD i 0 < na.getD j 0) : DA ne na (i + 1) j (nm ++ [ne.getD i 0]) nu := by
  obtain ⟨k, hk, e⟩ := D.at_
  cases k with
  | zero => omega
  | succ k =>
    refine ⟨k, by omega, ?_⟩
    rw [drop_at ne i hi, drop_at na j hj, difF, if_pos h] at e
    rw [drop_at na j hj]
    exact e
theorem DA.gt {ne na : List Int} {i j : Nat} {nm nu : List Int} (D : DA ne na i j nm nu) (hi : i < ne.length) (hj : j < na.length) (h : na.getD j 0 < ne.getD i 0) : DA ne na i (j + 1) nm (nu ++ [na.getD j 0]) := by
  obtain ⟨k, hk, e⟩ := D.at_
  cases k with
  | zero => omega
  | succ k =>
    refine ⟨k, by omega, ?_⟩
    rw [drop_at ne i hi, drop_at na j hj, difF, if_neg (by omega), if_pos h] at e
    rw [drop_at ne i hi]
    exact e
theorem DA.eq {ne na : List Int} {i j : Nat} {nm nu : List Int} (D : DA ne na i j nm nu) (hi : i < ne.length) (hj : j < na.length) (h1 : ¬ ne.getD i 0 < na.getD j 0) (h2 : ¬ na.getD j 0 < ne.getD i 0) : DA ne na (i + 1) (j + 1) nm nu := by
  obtain ⟨k, hk, e⟩ := D.at_
  cases k with
  | zero => omega
  | succ k =>
    refine ⟨k, by omega, ?_⟩
    rw [drop_at ne i hi, drop_at na j hj, difF, if_neg h1, if_neg h2] at e
    exact e
theorem difF_nil1 (k : Nat) (as m u : List Int) : difF k [] as m u = (m ++ [], u ++ as) := by
  cases k with
  | zero => rfl
  | succ k => cases as <;> rfl
theorem difF_nil2 (k : Nat) (es m u : List Int) : difF k es [] m u = (m ++ es, u ++ []) := by
  cases k with
  | zero => rfl
  | succ k => cases es <;> rfl
theorem DA.stop {ne na : List Int} {i j : Nat} {nm nu : List Int} (D : DA ne na i j nm nu) (h : ne.length ≤ i ∨ na.length ≤ j) : (nm ++ ne.drop i, nu ++ na.drop j) = sldF ne na := by
  obtain ⟨k, hk, e⟩ := D.at_
  rw [← e]
  rcases h with h | h
  · rw [List.drop_eq_nil_of_le h, difF_nil1]
  · rw [List.drop_eq_nil_of_le h, difF_nil2]
theorem at_Raise : True := by
  w_top off
  exact trivial
structure NewExcC (h h' : Heap) (e : Addr) (cls : String) (c : Value) : Prop where
  keeps : ∀ b o, h.get? b = some o → h'.get? b = some o
  new : h.get? e = none
  there : ∃ ob t, h'.get? e = some ob ∧ ob.cls = .type cls ∧ ob.data = .fields #[t, .none, c, .none, .bool false, .none]
theorem toC {h h' : Heap} {e : Addr} {cls : String} (x : Heap.NewExc h h' e cls) : NewExcC h h' e cls .none := ⟨x.keeps, x.new, x.there⟩
section
variable {prog : Program} {w : World} {A₀ : Around} {E : Value → Shared → Prop} {s' : Shared} {base g h : Heap} {outer : List Env} {L a e : Addr} {m : Str → Option Value} {name : Str} {scope : Scope} {cd : Value}
  {b₀ : Stmt} {suite : List Stmt} {pos np : Pos} {rest : List ExceptHandler} {Q : Flow → Shared → Prop} {news : List (Addr × Obj)} {KF : Frag}
  {p : Program} {loose : List Str} {mean : ExcName → Option Value} {mg mb : Str → Option Value} {x : Str} {X T' : String}
theorem caught_here (K : Below A₀ base outer g) {c₀ : Value} (hx : NewExcC h s'.heap e X c₀) (F : Fr g L h m) (N : News g L h news) (XB : KF.In base) (TB : Top p loose mean mg mb base) (D : KtsDicts (outer.filterMap (·.frame)) g)
    (ex : nsIn KF mainGlobals x = some none) (hv : bootBuiltins x = some (.type T')) (hn' : x ≠ "__name__")
    (hexc : isSubtype (.type T') (.type "BaseException") = pure true) (hnt : isSubtype (.type ((Manifest.find? T').elim "type" fun y => y.metatype)) (.type "tuple") = pure false) (hsub : isSubtype (.type X) (.type T') = pure true)
    (k : ∀ h' g', KtsTurn (outer.filterMap (·.frame)) g g' → Fr g' L h' m → News g' L h' news → Below A₀ base outer g' → KF.In g' → Top p loose mean mg mb g' → KtsDicts (outer.filterMap (·.frame)) g' →
      wpAny (model prog w) ((A₀.deeper (envOf name scope L a cd)).mark (some (.ref e))) (execs (b₀ :: suite) (envOf name scope L a cd)) Q E { s' with heap := h' })
    (hk : scope.kind = .function := by rfl) (hxk : (envOf name scope L a cd).kindOf x = some .globalImplicit := by rfl) (hd : (x == ("__debug__" : Str)) = false := by decide)
    (hE : PassesOwnAt (model prog w) ((A₀.deeper (envOf name scope L a cd)).mark (some (.ref e))) (A₀.deeper (envOf name scope L a cd)) (envOf name scope L a cd) E := by passes_own) :
    wpAny (model prog w) (A₀.deeper (envOf name scope L a cd)) (noteFrame (.ref e) (envOf name scope L a cd))
      (fun _ s₂ => wpAny (model prog w) (A₀.deeper (envOf name scope L a cd)) (setFlight (.ref e) none) (fun _ s₃ =>
        wpAny (model prog w) (A₀.deeper (envOf name scope L a cd)) (handleBy (.ref e) (envOf name scope L a cd) (.ExceptHandler (some (.Name x np)) none (b₀ :: suite) pos :: rest)) Q E s₃) E s₂) E s' := by
  have K' := K.push (name := name) (a := a) (cd := cd) F hk
  have hin : ∀ env ∈ (envOf name scope L a cd :: outer), ∀ b, env.frame = some b → b ∈ (envOf name scope L a cd :: outer).filterMap (·.frame) := fun env he b hb => List.mem_filterMap.mpr ⟨env, he, hb⟩
  have hLm : L ∈ (envOf name scope L a cd :: outer).filterMap (·.frame) := List.mem_filterMap.mpr ⟨_, List.mem_cons_self .., rfl⟩
  have hl : ∀ q ∈ news, (hideAll h ((envOf name scope L a cd :: outer).filterMap (·.frame))).get? q.1 = some q.2 := fun q hq => by
    refine hideAll_get _ (N q hq).1 fun hm => ?_
    obtain ⟨env, he, hf⟩ := List.mem_filterMap.mp hm
    rcases List.mem_cons.mp he with rfl | he
    · exact (N q hq).2.1 (Option.some.inj hf).symm
    · obtain ⟨o, ho, _⟩ := (K.frames.mem (List.mem_filterMap.mpr ⟨env, he, hf⟩)).2
      rw [(N q hq).2.2] at ho; cases ho
  have hL : (hideAll h ((envOf name scope L a cd :: outer).filterMap (·.frame))).get? L = none := hideAll_none _ hLm
  obtain ⟨ob, tp, he, hcls, hdd⟩ := hx.there
  have hen : (hideAll h ((envOf name scope L a cd :: outer).filterMap (·.frame))).get? e = none := by
    cases q : (hideAll h ((envOf name scope L a cd :: outer).filterMap (·.frame))).get? e with
    | none => rfl
    | some o => have := of_hideAll _ q; rw [hx.new] at this; cases this
  have hff := (funFrames_hide K'.frames hin).of_keeps (h' := s'.heap) fun b o hb _ => ⟨o, hx.keeps b o hb, rfl⟩
  have hBG : ∀ b o, h.get? b = some o → b ∉ (envOf name scope L a cd :: outer).filterMap (·.frame) → (hideAll h ((envOf name scope L a cd :: outer).filterMap (·.frame))).get? b = some o := fun b o q nm => hideAll_get _ q nm
  have hsm : h.UpToSlots s'.heap := Heap.UpToSlots.of_keeps hx.keeps
  unfold noteFrame
  simp only [show (envOf name scope L a cd).frame = some L from rfl]
  refine wpAny_bind (wpAny_field he hdd (x := .none) rfl ?_)
  rw [if_neg (by decide)]
  refine wpAny_entryW (a0 := tp) (Around.frames_deeper K.stack) hff rfl he (fun b o eb => hx.keeps b o (of_hideAll _ eb)) hen hdd (by show 1 < 6; decide) rfl fun h₄ hN => ?_
  obtain ⟨k1, k2, k3, k4⟩ := hN
  have hheld₄ : Heap.HeldW _ (envOf name scope L a cd :: outer) e (.type X) tp L h₄ := ⟨k1, hen, k2, by rw [← hcls]; exact k3⟩
  have hsm₄ : s'.heap.UpToSlots h₄ := k4
  refine wpAny_landsW hheld₄ fun h₅ hheld hsm₅' => ?_
  have hsm₅ := hsm₄.trans hsm₅'
  obtain ⟨g₅, T₅, F₅, K₅⟩ := kts_ground K F hBG hheld.1 (hsm.trans hsm₅)
  have X₅ : KF.In g₅ := XB.keeps K₅.stays
  have P₅ : TopRead p loose mg mb g₅ := topRead_of (TB.keeps K₅.stays)
  obtain ⟨ob', hob, hobc⟩ := hheld.there
  refine wpAny_handleBy_builtin (X := X) (T := T') (b := true) hexc hnt hsub (name_B F₅ X₅ P₅ ex hv hn' ⟨rfl, ⟨ob', hob, hobc⟩, ?_⟩ hk hxk hd)
  refine lands_againW hheld fun h₆ hfl₆ hsm₆ => ?_
  obtain ⟨g₆, T₆, F₆, K₆⟩ := kts_ground K F hBG hfl₆.1 ((hsm.trans hsm₅).trans hsm₆)
  have Nl : News g₆ L h₆ news := fun q hq => ⟨hfl₆.1 _ _ (hl q hq), (fun z => by have := hl q hq; rw [z, hL] at this; cases this), T₆.none_ _ (N q hq).2.2⟩
  have X₆ : KF.In g₆ := XB.keeps K₆.stays
  have P₆ : Top p loose mean mg mb g₆ := TB.keeps K₆.stays
  have D₆ : KtsDicts (outer.filterMap (·.frame)) g₆ := D.turn T₆
  exact wpAny_passesOwnAt hE (k h₆ g₆ T₆ F₆ Nl K₆ X₆ P₆ D₆)
end
theorem at_ConS : True := by
  w_top off
  exact trivial
structure LeftS (fs : List Addr) (h : Heap) (news : List (Addr × Obj)) (h' : Heap) (news' : List (Addr × Obj)) : Prop where
  keep : ∀ b o, h.get? b = some o → b ∉ news.map (·.1) → b ∉ fs → h'.get? b = some o
  turn : ∀ b o, h.get? b = some o → b ∈ fs → ∃ sl, h'.get? b = some { o with slots := sl }
  here : ∀ p ∈ news', h'.get? p.1 = some p.2
  new : ∀ p ∈ news', p.1 ∈ news.map (·.1) ∨ h.get? p.1 = none
noncomputable abbrev frs (outer : List Env) : List Addr := outer.filterMap (·.frame)
theorem Left.toS {fs : List Addr} {h h' : Heap} {news news' : List (Addr × Obj)} (X : Left h news h' news') (hf : ∀ p ∈ news, p.1 ∉ fs) : LeftS fs h news h' news' :=
  ⟨fun b o e n _ => X.keep b o e n, fun b o e m => ⟨o.slots, X.keep b o e fun q => by
    obtain ⟨p, hp, rfl⟩ := List.mem_map.mp q
    exact hf p hp m⟩, X.here, X.new⟩
noncomputable def ConS (w : World) (mean : ExcName → Option Value) (mg mb : Str → Option Value) (dp un : Nat) (f : Addr) (args : List Value) (news : List (Addr × Obj)) (R : Value → List (Addr × Obj) → Prop) : Prop :=
  ∀ (gd : Option (List Code)) (cn : Str) (cs : Scope) (L a : Addr) (ccd : Value) (cl : List (Str × Addr)) (outer : List Env) (A₀ : Around) (base h₀ : Heap) (m : Str → Option Value) (s : Shared) (RR : Result → Shared → Prop),
    Below A₀ base outer h₀ → Fr h₀ L s.heap m → (hd.heap_1 w.params).In h₀ → News h₀ L s.heap news → Top VW LS mean mg mb h₀ → cs.kind = .function →
    (hd.heap_1 w.params).In base → Top VW LS mean mg mb base → KtsDicts (frs outer) h₀ →
    (∀ r news' h' tk', LeftS (L :: frs outer) s.heap news h' news' → R r news' → RR (.ok (.ret r)) { s with heap := h', toks := tk' }) →
    codeAny (model Challenge.rw_om0134_01.row.prog w) (ktrTop dp un gd cn cs L a ccd cl outer) (.call (.ref f) ⟨args, []⟩) RR s
noncomputable def ConSB (w : World) (mean : ExcName → Option Value) (mg mb : Str → Option Value) (dp un : Nat) (f : Addr) (args : List Value) (news : List (Addr × Obj)) (R : Value → List (Addr × Obj) → Prop) (gd : Option (List Code)) (cn : Str) (cs : Scope) (L a : Addr) (ccd : Value) (cl : List (Str × Addr)) (outer : List Env) (A₀ : Around) (base h₀ : Heap) (m : Str → Option Value) (s : Shared) (RR : Result → Shared → Prop) : Prop :=
    Below A₀ base outer h₀ → Fr h₀ L s.heap m → (hd.heap_1 w.params).In h₀ → News h₀ L s.heap news → Top VW LS mean mg mb h₀ → cs.kind = .function →
    (hd.heap_1 w.params).In base → Top VW LS mean mg mb base → KtsDicts (frs outer) h₀ →
    (∀ r news' h' tk', LeftS (L :: frs outer) s.heap news h' news' → R r news' → RR (.ok (.ret r)) { s with heap := h', toks := tk' }) →
    codeAny (model Challenge.rw_om0134_01.row.prog w) (ktrTop dp un gd cn cs L a ccd cl outer) (.call (.ref f) ⟨args, []⟩) RR s
section
variable {A₀ : Around} {base h₀ h : Heap} {outer : List Env} {L : Addr} {m : Str → Option Value} {news : List (Addr × Obj)}
theorem off_frames (B : Below A₀ base outer h₀) (N : News h₀ L h news) : ∀ p ∈ news, p.1 ∉ L :: frs outer := fun p hp q => by
  rcases List.mem_cons.mp q with q | q
  · exact (N p hp).2.1 q
  · obtain ⟨o, ho, _⟩ := (B.frames.mem q).2
    rw [(N p hp).2.2] at ho; cases ho
theorem dicts_push (F : Fr h₀ L h m) (D : KtsDicts (frs outer) h₀) : KtsDicts (L :: frs outer) h := fun b hb => by
  rcases List.mem_cons.mp hb with rfl | hb
  · obtain ⟨oL, es, ep, hL, hLd, _⟩ := F.ns
    exact ⟨oL, es, ep, hL, hLd⟩
  · obtain ⟨o, es, n, ho, hd⟩ := D b hb
    exact ⟨o, es, n, F.keep _ _ ho, hd⟩
end
theorem Con.toS {w : World} {mean : ExcName → Option Value} {mg mb : Str → Option Value} {dp un : Nat} {f : Addr} {args : List Value} {news : List (Addr × Obj)} {R : Value → List (Addr × Obj) → Prop}
    (C : Con w mean mg mb dp un f args news R) : ConS w mean mg mb dp un f args news R :=
  fun gd cn cs L a ccd cl outer A₀ base h₀ m s RR B F X N T hk _ _ _ hret => C gd cn cs L a ccd cl outer A₀ base h₀ m s RR B F X N T hk fun r n h' tk' l r' => hret r n h' tk' (l.toS (off_frames B N)) r'
section
variable {prog : Program} {w : World} {A A₀ : Around} {s : Shared} {K : Frag} {L : Addr} {h₀ base : Heap} {m mg mb : Str → Option Value} {news : List (Addr × Obj)} {p : Program} {loose : List Str} {mean : ExcName → Option Value}
theorem enter_defS {env : Env} {outer : List Env} {RR : Result → Shared → Prop} {name qual : Str} {params : Arguments} {body : List Stmt} {scope : Scope} {dV kV doc pm cdv ct oc : Value} {an od : Option Addr} {osl : Array (Option Value)} {f : Addr} {args : Args} {binds : List (Str × Value)}
    (B : Below A₀ base outer h₀) (F : Fr h₀ L s.heap m) (X₀ : K.In h₀) (N : News h₀ L s.heap news) (T : Top p loose mean mg mb h₀) (D : KtsDicts (frs outer) h₀) (hA : A.frames = some (env :: outer)) (hf : env.frame = some L) (hke : env.scope.kind = .function)
    (ho : K.lookup f = some ⟨oc, od, .func (fnOf name qual params body scope dV kV doc pm an cdv ct), osl⟩) (hcd : codeIn K cdv qual = true) (hroom : A.depth < recursionLimit)
    (hbind : BindsTo s (fnOf name qual params body scope dV kV doc pm an cdv ct) args binds) (hloc : ∀ y ∈ binds, scope.names.lookup y.1 = some .local)
    (hco : scope.isCoroutine = false) (hgen : scope.isGenerator = false) (hk : scope.kind = .function)
    (hcell : ∀ x ∈ scope.names, x.2 ≠ .cell)
    (h : ∀ g L' h₁, Fr g L' h₁ (fun y => binds.reverse.lookup y) → News g L' h₁ news → Below A base (env :: outer) g → K.In g → Top p loose mean mg mb g → KtsDicts (frs (env :: outer)) g → (∀ p ∈ news, p.1 < L') →
      (∀ b o, s.heap.get? b = some o → b ∉ news.map (·.1) → g.get? b = some o) →
      wpAny (model prog w) (A.deeper (envOf qual scope L' f cdv)) (execs body (envOf qual scope L' f cdv))
        (fun fl s' => RR (.ok (.ret (match fl with | .ret v => v | _ => .none))) s')
        (fun e s' => wpAny (model prog w) (A.deeper (envOf qual scope L' f cdv)) (leaving (envOf qual scope L' f cdv) e) (fun _ s'' => RR (.error e) s'') (fun e' s'' => RR (.error e') s'') s')
        { s with heap := h₁, toks := s.toks + binds.length }) : codeAny (model prog w) A (.call (.ref f) args) RR s := by
  obtain ⟨FG, BG, st, lv⟩ := groundX (R := RR) B F N hA hf hke
  have DG : KtsDicts (frs (env :: outer)) (hideAll s.heap (news.map (·.1))) := by
    have := dicts_push FG D
    intro b hb
    refine this b ?_
    obtain ⟨env', he, hb'⟩ := List.mem_filterMap.mp hb
    rcases List.mem_cons.mp he with rfl | he
    · exact List.mem_cons.mpr (.inl (Option.some.inj (hb'.symm.trans hf)))
    · exact List.mem_cons.mpr (.inr (List.mem_filterMap.mpr ⟨env', he, hb'⟩))
  refine codeAny_call_def (fd := fnOf name qual params body scope dV kV doc pm an cdv ct) (body := body) (binds := binds) hroom ((X₀.keeps F.keep) _ _ ho) rfl (T.nolimit.keeps F.keep) (codeRec_of (X₀.keeps F.keep) hcd) rfl hbind hcell hloc (fun h₁ hns hk₁ => ?_) hco hgen hk
  exact wpAny_mono (h _ s.heap.objs.size h₁ ⟨hns, fun b o e => hk₁ b o (of_hideAll _ e), Nat.le_of_eq (hideAll_size _ _)⟩
    (fun p hp => ⟨hk₁ _ _ (N p hp).1, Nat.ne_of_lt (Heap.lt_size (N p hp).1), hideAll_none _ (List.mem_map_of_mem hp)⟩) BG (X₀.keeps st) (T.keeps st) DG (fun p hp => Heap.lt_size (N p hp).1)
    (fun b o e n => hideAll_get _ e n)) (fun fl s' hl => hl) fun _ _ y => y
theorem left_ofS {g g' h h' : Heap} {L' : Addr} {m' : Str → Option Value} {news' : List (Addr × Obj)} {fs : List Addr} (F' : Fr g' L' h' m') (N' : News g' L' h' news') (T : KtsTurn fs g g')
    (hg : ∀ b o, h.get? b = some o → b ∉ news.map (·.1) → g.get? b = some o) (hoff : ∀ p ∈ news, p.1 ∉ fs) : LeftS fs h news h' news' where
  keep := fun b o e n nf => F'.keep b o (T.other b o (hg b o e n) nf)
  turn := fun b o e mf => by
    obtain ⟨sl, hs⟩ := T.frame b o (hg b o e fun q => by
      obtain ⟨p, hp, rfl⟩ := List.mem_map.mp q
      exact hoff p hp mf) mf
    exact ⟨sl, F'.keep _ _ hs⟩
  here := fun p hp => (N' p hp).1
  new := fun p hp => by
    by_cases q : p.1 ∈ news.map (·.1)
    · exact .inl q
    · refine .inr ?_
      cases e : h.get? p.1 with
      | none => rfl
      | some o =>
        obtain ⟨sl, hs⟩ := T.up (hg _ _ e q)
        rw [(N' p hp).2.2] at hs; cases hs
end
theorem at_RaiseH : True := by
  w_top off
  exact trivial
theorem entry_unchain : entryFor table "proto.unchain" = some Builtin.«proto.unchain» := entryFor_of_tree (by kernel_rfl)
section
variable {α : Type} {prog : Program} {w : World} {A : Around} {E : Value → Shared → Prop} {s : Shared}
theorem raiseNewH {a x : Addr} {o ox : Obj} {vs vx : Array Value} {Q : α → Shared → Prop} (hh : A.handled = some (.ref x)) (hne : x ≠ a) (hx : s.heap.get? x = some ox) (hxd : ox.data = .fields vx) (hx2 : vx[2]? = some .none) (ha : s.heap.get? a = some o) (had : o.data = .fields vs) (hsz : 2 < vs.size)
    (h : E (.ref a) { s with heap := s.heap.update a (Obj.mapFields (·.setIfInBounds 2 (.ref x))) }) : wpAny (model prog w) A (raiseNew (.ref a) : Sem α) Q E s := by
  unfold raiseNew
  refine wpAny_bind (wpAny_handled ?_)
  rw [hh]
  dsimp only
  rw [if_pos (show (Value.ref x != Value.ref a) = true from bne_iff_ne.mpr fun q => hne (by injection q))]
  refine wpAny_bind (wpAny_holding (wpAny_runValue (codeAny_builtin entry_unchain ?_)))
  unfold Builtin.«proto.unchain»
  dsimp only
  refine wpAny_bind (wpAny_field hx hxd hx2 ?_)
  rw [if_pos (by decide)]
  refine wpAny_bind (wpAny_pure ?_)
  refine wpAny_pure ?_
  dsimp only
  refine wpAny_bind ?_
  refine wpAny_mono (wpAny_setField (i := 2) (x := .ref x) ha had hsz (Q := fun _ s' => wpAny (model prog w) A (throw (.ref a) : Sem α) Q E s') (wpAny_throw h)) (fun _ _ y => y) fun _ _ y => y
theorem raiseWordsH {cls msg : String} {x : Addr} {ox : Obj} {vx : Array Value} {Q : α → Shared → Prop} (hp : PlainExc cls) (hh : A.handled = some (.ref x)) (hx : s.heap.get? x = some ox) (hxd : ox.data = .fields vx) (hx2 : vx[2]? = some .none)
    (h : ∀ h' tk e, NewExcC s.heap h' e cls (.ref x) → E (.ref e) { s with heap := h', toks := tk }) : wpAny (model prog w) A (raiseErrorWords cls msg : Sem α) Q E s := by
  unfold raiseErrorWords
  refine wpAny_bind (wpAny_mkText (wpAny_bind ?_))
  unfold newExc newTuple
  refine wpAny_bind (wpAny_newObj_type ?_)
  refine wpAny_bind (m := firstArgMember _ _) (wpAny_of_eq (a := Value.none) (by simp only [firstArgMember, hp.first]; rfl) ?_)
  rw [hp.own]
  refine wpAny_newObj_type ?_
  have hlt := Heap.lt_size hx
  refine raiseNewH (x := x) (ox := ox) (vx := vx) hh (fun q => ?_) (Heap.get?_push_of_some _ (Heap.get?_push_of_some _ hx)) hxd hx2 (Heap.get?_push_size _ rfl) rfl (by simp) ?_
  · rw [q] at hlt
    simp at hlt
    exact absurd hlt (Nat.not_lt.mpr (Nat.le_succ _))
  · refine h _ _ _ ⟨fun b o hb => ?_, Heap.get?_none_of_le (by simp), _, .ref s.heap.objs.size, Heap.get?_update_self _ (Heap.get?_push_size _ rfl) ?_, rfl, ?_⟩
    · rw [Heap.get?_update_other _ _ (fun q => ?_)]
      · exact Heap.get?_push_of_some _ (Heap.get?_push_of_some _ hb)
      · have := Heap.lt_size hb
        rw [← q] at this
        simp at this
        exact absurd this (Nat.not_lt.mpr (Nat.le_succ _))
    · rfl
    · rfl
theorem getItem_outH {l x : Addr} {ox : Obj} {vx : Array Value} {vs : List Value} {n k : Nat} {t : Tok} {Q : Value → Shared → Prop} (hh : A.handled = some (.ref x)) (hx : s.heap.get? x = some ox) (hxd : ox.data = .fields vx) (hx2 : vx[2]? = some .none) (hl : s.heap.get? l = some (W.listOf (List.toArray vs) n))
    (hout : vs.length ≤ k) (hhi : k < 1000)
    (hE : ∀ h' tk e, NewExcC s.heap h' e "IndexError" (.ref x) → E (.ref e) { s with heap := h', toks := tk }) :
    wpAny (model prog w) A (getItem (.ref l) (.int (k : Int) t)) Q E s := by
  have hl' : s.heap.IsList l vs.toArray := PySem.IsL.isList (n := n) hl
  have hn : (vs.toArray)[k]? = none := Array.getElem?_eq_none (by rw [List.size_toArray]; exact hout)
  have hfit : Builtin.List.listFitsIndex (k : Int) = true := fitsIndex_both (by omega) (by omega)
  clear hout hhi
  obtain ⟨kk, hkk⟩ : ∃ kk : Int, kk = (k : Int) := ⟨_, rfl⟩
  rw [← hkk] at hfit ⊢
  unfold getItem
  try with_reducible refine wpAny_holding ?_
  first | refine wpAny_bind (wpAny_pure ?_) | skip
  refine wpAny_bind (wpAny_sequenceKey hl'.typeIs (by decide) ?_)
  refine wpAny_bind (wpAny_callSpecial?_slot (name := Str.ofString "__getitem__") hl'.typeIs PySem.slot_list_getitem
    (wpAny_call_entry PySem.slot_list_getitem hl'.typeIs PySem.entry_list_getitem ?_ (PySem.args_list_getitem _ _)))
  show wpAny _ _ (Builtin.List.listSubscript? (.int kk t) >>= _) _ _ s
  refine wpAny_bind (wpAny_listSubscript_int hfit ?_)
  cases hkk
  show wpAny _ _ ((seqItemAt l k >>= fun r => pure (r.map (k, ·))) >>= _) _ _ s
  refine wpAny_bind (wpAny_bind (wpAny_seqItemAt hl rfl (wpAny_pure ?_)))
  rw [hn]
  first
    | exact wpAny_bind (wpAny_rule (raiseWordsH plainExc_IndexError hh hx hxd hx2 hE))
    | exact wpAny_bind (wpAny_rule (wpAny_bind (raiseWordsH plainExc_IndexError hh hx hxd hx2 hE)))
    | exact wpAny_bind (wpAny_bind (wpAny_rule (raiseWordsH plainExc_IndexError hh hx hxd hx2 hE)))
    | exact wpAny_rule (raiseWordsH plainExc_IndexError hh hx hxd hx2 hE)
end
theorem at_FinHere : True := by
  w_top off
  exact trivial
section
variable {M : Model} {A : Around} {E : Value → Shared → Prop} {s : Shared}
theorem note_first {base : Heap} {env : Env} {outer : List Env} {L e : Addr} {oe : Obj} {vs : Array Value} {a0 : Value} {Q : Unit → Shared → Prop}
    (hfr : A.frames = some (env :: outer)) (hl : s.heap.FunFrames base (env :: outer)) (hf : env.frame = some L)
    (he : s.heap.get? e = some oe) (hkb : base.StaysIn s.heap) (hen : base.get? e = none) (hd : oe.data = .fields vs) (h1 : vs[1]? = some .none) (h0 : vs[0]? = some a0)
    (h : ∀ h' T, Heap.NotedW base (env :: outer) e oe.cls a0 (rawInt L) s.heap h' → (∃ oe', h'.get? e = some oe' ∧ oe'.data = .fields (vs.setIfInBounds 1 (.ref T))) → Q () { s with heap := h' }) :
    wpAny M A (noteFrame (.ref e) env) Q E s := by
  have hsz : 1 < vs.size := (Array.getElem?_eq_some_iff.mp h1).1
  have off : ∀ b o, s.heap.get? b = some o → (∀ ws, o.data ≠ .fields ws) → b ≠ e := fun b o hb hnf q => by
    rw [q, he] at hb; injection hb with hb; subst hb; exact hnf vs hd
  have hene : e ∉ (env :: outer).filterMap (·.frame) := fun hm => by
    obtain ⟨_, o, ho, hnf⟩ := hl.mem hm
    exact off e o ho hnf rfl
  unfold noteFrame
  simp only [hf]
  refine wpAny_bind (wpAny_field he hd h1 ?_)
  rw [if_neg (by decide)]
  refine wpAny_bind (wpAny_frameOf_fun hfr hl hf fun h₁ hs₁ => ?_)
  refine wpAny_bind (wpAny_entryPlaceOf fun pl hpl => ?_)
  unfold EntryCells.newEntry newFields
  refine wpAny_bind (wpAny_newObj_type ?_ (hpl.sizeOk5 _ _ _ _ _))
  have he₁ : h₁.get? e = some oe := (hs₁.2.1 e hene).trans he
  have kb₁ : base.StaysIn h₁ := fun b o hbo => (hs₁.2.1 b fun hm => by rw [(hl.mem hm).1] at hbo; cases hbo).trans (hkb b o hbo)
  refine wpAny_setField (Heap.get?_push_of_some _ he₁) hd hsz (h _ h₁.objs.size ?_ ?_)
  · have hTe : h₁.objs.size ≠ e := Nat.ne_of_gt (Heap.lt_size he₁)
    have keep : ∀ (o₁ : Obj) b o, b ≠ e → h₁.get? b = some o → ((h₁.push o₁).update e (Obj.mapFields (·.setIfInBounds 1 (Value.ref h₁.objs.size)))).get? b = some o := fun o₁ b o hbe hb => by
      rw [Heap.get?_update_other _ _ (Ne.symm hbe)]
      exact Heap.get?_push_of_some _ hb
    refine ⟨fun b o hbo => keep _ b o (fun q => by rw [q, hen] at hbo; cases hbo) (kb₁ b o hbo), hl.of_keeps fun b o hb hnf => ?_, ?_, fun b o hb hnf => ?_⟩
    · obtain ⟨sl, hs⟩ := hs₁.2.2 b o hb
      exact ⟨_, keep _ b _ (off b o hb hnf) hs, rfl⟩
    · have hd₃ := Obj.data_mapFields hd (·.setIfInBounds 1 (Value.ref h₁.objs.size))
      refine ⟨_, _, h₁.objs.size, _, _, Heap.get?_update_self _ (Heap.get?_push_of_some _ he₁) (Obj.isFreed_of_fields hd₃), ⟨Obj.cls_mapFields _ _, by rw [Array.getElem?_setIfInBounds_ne (by decide)]; exact h0⟩, hd₃, by simp [hsz], kb₁.fresh, hTe, (Heap.get?_update_other _ _ (Ne.symm hTe)).trans (Heap.get?_push_size h₁ rfl), rfl, by first | (simp; done) | (rcases hpl with rfl | ⟨_, _, _, _, _, _, _, rfl⟩ <;> simp)⟩
    · obtain ⟨sl, hs⟩ := hs₁.2.2 b o hb
      exact ⟨sl, keep _ b _ (off b o hb hnf) hs⟩
  · exact ⟨_, Heap.get?_update_self _ (Heap.get?_push_of_some _ he₁) (Obj.isFreed_of_fields (Obj.data_mapFields hd _)), Obj.data_mapFields hd _⟩
theorem set_flight {e T : Addr} {oe oT : Obj} {vs ts : Array Value} {f : Option Addr} {Q : Unit → Shared → Prop} (he : s.heap.get? e = some oe) (hd : oe.data = .fields vs) (h1 : vs[1]? = some (.ref T)) (hT : s.heap.get? T = some oT) (hdT : oT.data = .fields ts) (hsz3 : 3 < ts.size)
    (h : Q () { s with heap := s.heap.update T (Obj.mapFields (·.setIfInBounds 3 (f.elim Value.none fun f => rawInt f))) }) : wpAny M A (setFlight (.ref e) f) Q E s := by
  unfold setFlight
  refine wpAny_bind (wpAny_field he hd h1 ?_)
  rw [if_pos (show (Value.ref T != Value.none) = true from by simp)]
  exact wpAny_setField hT hdT hsz3 h
end
structure OnWay (e T : Addr) (oe oT : Obj) (X : String) : Prop where
  cls : oe.cls = .type X
  data : ∃ vs, oe.data = .fields vs ∧ vs[1]? = some (.ref T) ∧ vs[2]? = some .none
  entry : ∃ ts, oT.data = .fields ts ∧ 3 < ts.size
section
variable {prog : Program} {w : World} {A₀ : Around} {E E₂ : Value → Shared → Prop} {s' : Shared} {base g h : Heap} {outer : List Env} {L a e : Addr} {m : Str → Option Value} {name : Str} {scope : Scope} {cd : Value}
  {final : List Stmt} {Q : Flow → Shared → Prop} {news : List (Addr × Obj)} {KF : Frag}
  {p : Program} {loose : List Str} {mean : ExcName → Option Value} {mg mb : Str → Option Value} {X : String}
theorem fin_here (K : Below A₀ base outer g) (hx : NewExcC h s'.heap e X .none) (F : Fr g L h m) (N : News g L h news) (XB : KF.In base) (TB : Top p loose mean mg mb base) (D : KtsDicts (outer.filterMap (·.frame)) g)
    (k : ∀ h' g' T oe oT, KtsTurn (outer.filterMap (·.frame)) g g' → Fr g' L h' m → News g' L h' ((e, oe) :: (T, oT) :: news) → OnWay e T oe oT X → (∀ q ∈ news, q.1 ≠ e ∧ q.1 ≠ T) → T ≠ e → Below A₀ base outer g' → KF.In g' → Top p loose mean mg mb g' → KtsDicts (outer.filterMap (·.frame)) g' →
      wpAny (model prog w) ((A₀.deeper (envOf name scope L a cd)).mark (some (.ref e))) (execs final (envOf name scope L a cd))
        (fun g s₂ => match g with | .next => wpAny (model prog w) (A₀.deeper (envOf name scope L a cd)) (PySem.passOn "try.finally" (.ref e) (envOf name scope L a cd)) Q E s₂ | g => wpAny (model prog w) (A₀.deeper (envOf name scope L a cd)) (setFlight (.ref e) none) (fun _ s₃ => Q g s₃) E s₂)
        (notedBy (model prog w) ((A₀.deeper (envOf name scope L a cd)).mark (some (.ref e))) (envOf name scope L a cd) (cameBackBy (model prog w) (A₀.deeper (envOf name scope L a cd)) (envOf name scope L a cd) E)) { s' with heap := h' })
    (hk : scope.kind = .function := by rfl) :
    wpAny (model prog w) (A₀.deeper (envOf name scope L a cd)) (noteFrame (.ref e) (envOf name scope L a cd))
      (fun _ s₂ => FinallyRaised prog w (A₀.deeper (envOf name scope L a cd)) E (envOf name scope L a cd) final Q (.ref e) s₂) E₂ s' := by
  have K' := K.push (name := name) (a := a) (cd := cd) F hk
  have hin : ∀ env ∈ (envOf name scope L a cd :: outer), ∀ b, env.frame = some b → b ∈ (envOf name scope L a cd :: outer).filterMap (·.frame) := fun env he b hb => List.mem_filterMap.mpr ⟨env, he, hb⟩
  obtain ⟨ob, tp, he, hcls, hdd⟩ := hx.there
  have hen : (hideAll h ((envOf name scope L a cd :: outer).filterMap (·.frame))).get? e = none := by
    cases q : (hideAll h ((envOf name scope L a cd :: outer).filterMap (·.frame))).get? e with
    | none => rfl
    | some o => have := of_hideAll _ q; rw [hx.new] at this; cases this
  have hff := (funFrames_hide K'.frames hin).of_keeps (h' := s'.heap) fun b o hb _ => ⟨o, hx.keeps b o hb, rfl⟩
  have hBG : ∀ b o, h.get? b = some o → b ∉ (envOf name scope L a cd :: outer).filterMap (·.frame) → (hideAll h ((envOf name scope L a cd :: outer).filterMap (·.frame))).get? b = some o := fun b o q nm => hideAll_get _ q nm
  refine note_first (a0 := tp) (Around.frames_deeper K.stack) hff rfl he (fun b o eb => hx.keeps b o (of_hideAll _ eb)) hen hdd rfl rfl fun h₄ T₀ hN hE4 => ?_
  obtain ⟨k1, k2, k3, k4⟩ := hN
  have k3' := k3
  obtain ⟨oe, vs, T, oT, ts, he4, ⟨hc4, _⟩, hd4, h14, hnT, hTe, hT, hdT, h3⟩ := k3'
  obtain ⟨oe', he4', hd4'⟩ := hE4
  have e1 : oe = oe' := Option.some.inj (he4.symm.trans he4')
  subst e1
  have hv2 : vs[2]? = some .none := by
    rw [hd4] at hd4'
    injection hd4' with hd4'
    rw [hd4']
    rfl
  have hTf : T ∉ (envOf name scope L a cd :: outer).filterMap (·.frame) := fun hm => by
    obtain ⟨_, o, ho, hnf⟩ := k2.mem hm
    rw [hT] at ho; injection ho with ho; subst ho; exact hnf ts hdT
  have hTh : h.get? T = none := by
    cases q : h.get? T with
    | none => rfl
    | some o => rw [hBG _ _ q hTf] at hnT; cases hnT
  have hsz3 : 3 < ts.size := (Array.getElem?_eq_some_iff.mp h3).1
  have other : ∀ b, b ≠ T → (h₄.update T (Obj.mapFields (·.setIfInBounds 3 Value.none))).get? b = h₄.get? b := fun b hb => Heap.get?_update_other _ _ (Ne.symm hb)
  have hT5 := Heap.get?_update_self (Obj.mapFields (·.setIfInBounds 3 Value.none)) hT (Obj.isFreed_of_fields (Obj.data_mapFields hdT _))
  refine ⟨ref_ne_byPass e, wpAny_noteFrame_againW rfl k3 ?_⟩
  refine set_flight (f := none) he4 hd4 h14 hT hdT hsz3 ?_
  have hB5 : (hideAll h ((envOf name scope L a cd :: outer).filterMap (·.frame))).StaysIn (h₄.update T (Obj.mapFields (·.setIfInBounds 3 Value.none))) := fun b o q => (other b fun z => by rw [z, hnT] at q; cases q).trans (k1 b o q)
  have hsm : h.UpToSlots (h₄.update T (Obj.mapFields (·.setIfInBounds 3 Value.none))) := fun b o q hnf => by
    obtain ⟨sl, hs⟩ := k4 b o (hx.keeps b o q) hnf
    exact ⟨sl, (other b fun z => by rw [z, hTh] at q; cases q).trans hs⟩
  obtain ⟨g₅, T₅, F₅, K₅⟩ := kts_ground K F hBG hB5 hsm
  obtain ⟨oL, _, _, hL, _⟩ := F.ns
  have gnone : ∀ b, h.get? b = none → g.get? b = none := fun b q => by
    cases z : g.get? b with
    | none => rfl
    | some o => rw [F.keep _ _ z] at q; cases q
  have hnL : ∀ b, h.get? b = none → b ≠ L := fun b q z => by rw [z, hL] at q; cases q
  have offN : ∀ q ∈ news, q.1 ≠ e ∧ q.1 ≠ T := fun q hq => ⟨(fun z => by have := (N q hq).1; rw [z, hx.new] at this; cases this), (fun z => by have := (N q hq).1; rw [z, hTh] at this; cases this)⟩
  refine k _ g₅ T oe (Obj.mapFields (·.setIfInBounds 3 Value.none) oT) T₅ F₅ (fun q hq => ?_) ⟨hc4.trans hcls, ⟨vs, hd4, h14, hv2⟩, ⟨_, Obj.data_mapFields hdT (·.setIfInBounds 3 Value.none), by simpa using hsz3⟩⟩ offN hTe K₅ (XB.keeps K₅.stays) (TB.keeps K₅.stays) (D.turn T₅)
  rcases List.mem_cons.mp hq with rfl | hq
  · exact ⟨(other _ (Ne.symm hTe)).trans he4, hnL _ hx.new, T₅.none_ _ (gnone _ hx.new)⟩
  · rcases List.mem_cons.mp hq with rfl | hq
    · exact ⟨hT5, hnL _ hTh, T₅.none_ _ (gnone _ hTh)⟩
    · refine ⟨hB5 _ _ (hideAll_get _ (N q hq).1 fun hm => ?_), (N q hq).2.1, T₅.none_ _ (N q hq).2.2⟩
      rcases kts_mem hm with z | z
      · exact (N q hq).2.1 z
      · obtain ⟨o, ho, _⟩ := (K.frames.mem z).2
        rw [(N q hq).2.2] at ho; cases ho
end
theorem at_FinAgain : True := by
  w_top off
  exact trivial
section
variable {prog : Program} {w : World} {A₀ : Around} {E : Value → Shared → Prop} {s : Shared} {base g : Heap} {outer : List Env} {L a e T : Addr} {m : Str → Option Value} {name : Str} {scope : Scope} {cd : Value} {oe oT : Obj}
  {b₀ : Stmt} {suite : List Stmt} {pos np : Pos} {rest : List ExceptHandler} {Q Q₁ : Flow → Shared → Prop} {news : List (Addr × Obj)} {KF : Frag}
  {p : Program} {loose : List Str} {mean : ExcName → Option Value} {mg mb : Str → Option Value} {x : Str} {X T' : String}
theorem flight_step {M : Model} {A : Around} {E : Value → Shared → Prop} {f : Option Addr} {Q : Unit → Shared → Prop} (F : Fr g L s.heap m) (N : News g L s.heap ((e, oe) :: (T, oT) :: news)) (O : OnWay e T oe oT X) (hTe : T ≠ e) (off : ∀ q ∈ news, q.1 ≠ T)
    (k : ∀ h' oT', Fr g L h' m → News g L h' ((e, oe) :: (T, oT') :: news) → OnWay e T oe oT' X → (∃ ts, oT'.data = .fields ts ∧ ts[3]? = some (f.elim Value.none fun f => rawInt f)) → Q () { s with heap := h' }) : wpAny M A (setFlight (.ref e) f) Q E s := by
  obtain ⟨hc, ⟨vs, hd, h1, h2⟩, ⟨ts, hdT, h3⟩⟩ := O
  have ne := N (e, oe) (.head _)
  have nT := N (T, oT) (.tail _ (.head _))
  refine set_flight (f := f) ne.1 hd h1 nT.1 hdT h3 ?_
  have hT5 := Heap.get?_update_self (Obj.mapFields (·.setIfInBounds 3 (f.elim Value.none fun f => rawInt f))) nT.1 (Obj.isFreed_of_fields (Obj.data_mapFields hdT _))
  have other : ∀ b, b ≠ T → (s.heap.update T (Obj.mapFields (·.setIfInBounds 3 (f.elim Value.none fun f => rawInt f)))).get? b = s.heap.get? b := fun b hb => Heap.get?_update_other _ _ (Ne.symm hb)
  refine k _ _ (F.change (Heap.SameBut.update ..) nT.2.1 nT.2.2) (fun q hq => ?_) ⟨hc, ⟨vs, hd, h1, h2⟩, ⟨_, Obj.data_mapFields hdT (·.setIfInBounds 3 (f.elim Value.none fun f => rawInt f)), by simpa using h3⟩⟩ ⟨_, Obj.data_mapFields hdT (·.setIfInBounds 3 (f.elim Value.none fun f => rawInt f)), by simp [h3]⟩
  rcases List.mem_cons.mp hq with rfl | hq
  · exact ⟨(other _ (Ne.symm hTe)).trans ne.1, ne.2⟩
  · rcases List.mem_cons.mp hq with rfl | hq
    · exact ⟨hT5, nT.2⟩
    · have nq := N q (mt2 hq)
      exact ⟨(other _ (off q hq)).trans nq.1, nq.2⟩
theorem caught_again (F : Fr g L s.heap m) (N : News g L s.heap ((e, oe) :: (T, oT) :: news)) (O : OnWay e T oe oT X) (hTe : T ≠ e) (off : ∀ q ∈ news, q.1 ≠ T) (X₀ : KF.In g) (TG : Top p loose mean mg mb g)
    (ex : nsIn KF mainGlobals x = some none) (hv : bootBuiltins x = some (.type T')) (hn' : x ≠ "__name__")
    (hexc : isSubtype (.type T') (.type "BaseException") = pure true) (hnt : isSubtype (.type ((Manifest.find? T').elim "type" fun y => y.metatype)) (.type "tuple") = pure false) (hsub : isSubtype (.type X) (.type T') = pure true)
    (k : ∀ h' oT', Fr g L h' m → News g L h' ((e, oe) :: (T, oT') :: news) →
      wpAny (model prog w) ((A₀.deeper (envOf name scope L a cd)).mark (some (.ref e))) (execs (b₀ :: suite) (envOf name scope L a cd)) Q E { s with heap := h' })
    (hk : scope.kind = .function := by rfl) (hxk : (envOf name scope L a cd).kindOf x = some .globalImplicit := by rfl) (hd : (x == ("__debug__" : Str)) = false := by decide)
    (hE : PassesOwnAt (model prog w) ((A₀.deeper (envOf name scope L a cd)).mark (some (.ref e))) (A₀.deeper (envOf name scope L a cd)) (envOf name scope L a cd) E := by passes_own) :
    wpAny (model prog w) (A₀.deeper (envOf name scope L a cd)) (PySem.passOn "try.finally" (.ref e) (envOf name scope L a cd) : Sem Flow) Q₁
      (fun e s₁ => wpAny (model prog w) (A₀.deeper (envOf name scope L a cd)) (noteFrame e (envOf name scope L a cd))
      (fun _ s₂ => wpAny (model prog w) (A₀.deeper (envOf name scope L a cd)) (setFlight e none) (fun _ s₃ =>
        wpAny (model prog w) (A₀.deeper (envOf name scope L a cd)) (handleBy e (envOf name scope L a cd) (.ExceptHandler (some (.Name x np)) none (b₀ :: suite) pos :: rest)) Q E s₃) E s₂) E s₁) s := by
  obtain ⟨vs, hvd, h1, h2⟩ := O.data
  unfold PySem.passOn
  refine wpAny_bind (wpAny_field (N (e, oe) (.head _)).1 hvd h1 ?_)
  rw [if_neg (show ¬ ((Value.ref T == Value.none) = true) by simp)]
  refine wpAny_bind (flight_step (f := some L) F N O hTe off fun h₁ o₁ F₁ N₁ O₁ hf₁ => ?_)
  refine wpAny_throw ?_
  obtain ⟨ts, htd, ht3⟩ := hf₁
  unfold noteFrame
  simp only [show (envOf name scope L a cd).frame = some L from rfl]
  refine wpAny_bind (wpAny_field (N₁ (e, oe) (.head _)).1 hvd h1 ?_)
  rw [if_pos (show (Value.ref T != Value.none) = true from by simp)]
  refine wpAny_bind (wpAny_field (N₁ (T, o₁) (.tail _ (.head _))).1 htd ht3 ?_)
  rw [if_pos (show (((some L : Option Addr).elim Value.none fun f => rawInt f) == rawInt L) = true from by simp)]
  refine wpAny_pure ?_
  refine flight_step F₁ N₁ O₁ hTe off fun h₂ o₂ F₂ N₂ O₂ _ => ?_
  refine wpAny_handleBy_builtin (X := X) (T := T') (b := true) hexc hnt hsub (name_B F₂ X₀ (topRead_of TG) ex hv hn' ⟨rfl, ⟨oe, (N₂ (e, oe) (.head _)).1, O.cls⟩, ?_⟩ hk hxk hd)
  rw [if_pos rfl]
  refine flight_step F₂ N₂ O₂ hTe off fun h₃ o₃ F₃ N₃ O₃ _ => ?_
  exact wpAny_passesOwnAt hE (k h₃ o₃ F₃ N₃)
theorem item_outH {A : Around} {E : Value → Shared → Prop} {h₀ : Heap} {l : Addr} {vs : List Value} {ns : List Int} {n k : Nat} {u : Tok} {value slice : PySem.Expr} {Q : Value → Shared → Prop} (hh : A.handled = some (.ref e)) (O : OnWay e T oe oT X)
    (N : News h₀ L s.heap news) (hm : (l, W.listOf (List.toArray vs) n) ∈ news) (he : (e, oe) ∈ news) (hi : IntsAre vs ns) (hout : ns.length ≤ k) (hhi : k < 1000)
    (hE : ∀ h' tk e₂, NewExcC s.heap h' e₂ "IndexError" (.ref e) → E (.ref e₂) { s with heap := h', toks := tk })
    (hs : subscripted slice false (.ref l) (.int (k : Int) u) = operate [.ref l, .int (k : Int) u] (getItem (.ref l) (.int (k : Int) u))) :
    wpAny (model prog w) A (subscriptTail value slice (.ref l) (.int (k : Int) u)) Q E s := by
  obtain ⟨vx, hd, _, h2⟩ := O.data
  exact tail_any (PySem.IsL.isList (n := n) (N _ hm).1).typeIs PySem.slot_list_getitem.lookup (getItem_outH hh (N _ he).1 hd h2 (N _ hm).1 (by rw [hi.length]; exact hout) hhi hE) hs
end
theorem at_UseS : True := by
  w_top off
  exact trivial
structure Gr (w : World) (mean : ExcName → Option Value) (mg mb : Str → Option Value) (A₀ : Around) (base : Heap) (outer : List Env) (g₀ g : Heap) : Prop where
  turn : KtsTurn (frs outer) g₀ g
  below : Below A₀ base outer g
  inn : (hd.heap_1 w.params).In g
  top : Top VW LS mean mg mb g
  dicts : KtsDicts (frs outer) g
theorem Gr.trans {w : World} {mean : ExcName → Option Value} {mg mb : Str → Option Value} {A₀ : Around} {base : Heap} {outer : List Env} {g₀ g g' : Heap} (x : Gr w mean mg mb A₀ base outer g₀ g) (y : Gr w mean mg mb A₀ base outer g g') : Gr w mean mg mb A₀ base outer g₀ g' :=
  ⟨x.turn.trans y.turn, y.below, y.inn, y.top, y.dicts⟩
theorem use_conS {w : World} {mean : ExcName → Option Value} {mg mb : Str → Option Value} {dp un : Nat} {f : Addr} {args : List Value} {newsC rest : List (Addr × Obj)} {R : Value → List (Addr × Obj) → Prop} (C : ConS w mean mg mb dp un f args newsC R)
    {A A₀ : Around} {cn : Str} {cs : Scope} {L a : Addr} {ccd : Value} {cl : List (Str × Addr)} {outer : List Env} {base h₀ : Heap} {m : Str → Option Value} {s : Shared} {Q E : Value → Shared → Prop}
    (B : Below A₀ base outer h₀) (F : Fr h₀ L s.heap m) (X : (hd.heap_1 w.params).In h₀) (N : News h₀ L s.heap newsC) (NR : News h₀ L s.heap rest) (T : Top VW LS mean mg mb h₀) (XB : (hd.heap_1 w.params).In base) (TB : Top VW LS mean mg mb base) (D : KtsDicts (frs outer) h₀)
    (hA : A.frames = some (envX cn cs L a ccd cl :: outer)) (hk : cs.kind = .function) (hh : A.handled = none) (hd : A.depth ≤ dp) (hu : A.units ≤ un)
    (hr : ∀ p ∈ rest, p.1 ∉ newsC.map (·.1))
    (h : ∀ r news' h' tk' g', Gr w mean mg mb A₀ base outer h₀ g' → Fr g' L h' m → News g' L h' (news' ++ rest) → (∀ p ∈ news', p.1 ∈ newsC.map (·.1) ∨ ∀ q ∈ rest, q.1 ≠ p.1) → R r news' → Q r { s with heap := h', toks := tk' }) :
    wpAny (model Challenge.rw_om0134_01.row.prog w) A (call (.ref f) args) Q E s := by
  refine wpAny_call (codeAny_le (A' := ktrTop dp un A.guards cn cs L a ccd cl outer) (C _ _ _ _ _ _ _ _ _ _ _ _ _ _ B F X N T hk XB TB D fun r n h' tk' l y => ?_) hh hd hA rfl hu)
  obtain ⟨FG, _, _, _⟩ := groundX (R := fun _ _ => True) B F N hA rfl hk
  have hBG : ∀ b o, (hideAll s.heap (newsC.map (·.1))).get? b = some o → b ∉ (envOf cn cs L a ccd :: outer).filterMap (·.frame) → (hideAll (hideAll s.heap (newsC.map (·.1))) ((envOf cn cs L a ccd :: outer).filterMap (·.frame))).get? b = some o := fun b o q nm => hideAll_get _ q nm
  have inNews : ∀ b o, (hideAll s.heap (newsC.map (·.1))).get? b = some o → b ∉ newsC.map (·.1) := fun b o q mm => by rw [hideAll_none _ mm] at q; cases q
  have hfe : ∀ b, b ∈ L :: frs outer ↔ b ∈ (envOf cn cs L a ccd :: outer).filterMap (·.frame) := fun b => Iff.rfl
  have hBh : (hideAll (hideAll s.heap (newsC.map (·.1))) ((envOf cn cs L a ccd :: outer).filterMap (·.frame))).StaysIn h' := fun b o q => by
    have q1 := of_hideAll _ q
    refine l.keep b o (of_hideAll _ q1) (inNews b o q1) fun mm => ?_
    rw [hideAll_none _ ((hfe b).mp mm)] at q; cases q
  have hsm : (hideAll s.heap (newsC.map (·.1))).UpToSlots h' := fun b o q _ => by
    by_cases mm : b ∈ L :: frs outer
    · exact l.turn b o (of_hideAll _ q) mm
    · exact ⟨o.slots, l.keep b o (of_hideAll _ q) (inNews b o q) mm⟩
  obtain ⟨g', T', F', K'⟩ := kts_ground B FG hBG hBh hsm
  refine h r n h' tk' g' ⟨T', K', XB.keeps K'.stays, TB.keeps K'.stays, D.turn T'⟩ F' (fun p hp => ?_) (fun p hp => ?_) y
  · rcases List.mem_append.mp hp with hp | hp
    · refine ⟨l.here p hp, ?_, T'.none_ _ ?_⟩
      · rcases l.new p hp with q | q
        · obtain ⟨p', hp', e⟩ := List.mem_map.mp q
          exact e ▸ (N p' hp').2.1
        · intro e
          obtain ⟨oL, _, _, hL, _⟩ := F.ns
          rw [e, hL] at q; cases q
      · rcases l.new p hp with q | q
        · obtain ⟨p', hp', e⟩ := List.mem_map.mp q
          exact e ▸ (N p' hp').2.2
        · cases hq : h₀.get? p.1 with
          | none => rfl
          | some o => rw [F.keep _ _ hq] at q; cases q
    · exact ⟨l.keep _ _ (NR p hp).1 (hr p hp) (off_frames B NR p hp), (NR p hp).2.1, T'.none_ _ (NR p hp).2.2⟩
  · refine (l.new p hp).imp id fun q p' hp' e => ?_
    rw [← e, (NR p' hp').1] at q
    cases q
theorem Gr.outermost {w : World} {mean : ExcName → Option Value} {mg mb : Str → Option Value} {A₀ : Around} {base g₀ g h : Heap} {L : Addr} {m : Str → Option Value} {news : List (Addr × Obj)} (x : Gr w mean mg mb A₀ base [] g₀ g) (F : Fr g L h m) (N : News g L h news) : Fr g₀ L h m ∧ News g₀ L h news :=
  ⟨⟨F.ns, fun b o e => F.keep b o (x.turn.other b o e fun q => nomatch q), x.turn.size ▸ F.above⟩, fun p hp => ⟨(N p hp).1, (N p hp).2.1, by
    cases q : g₀.get? p.1 with
    | none => rfl
    | some o => have := x.turn.other _ _ q (fun q => nomatch q); rw [(N p hp).2.2] at this; cases this⟩⟩
theorem at_LoopS : True := by
  w_top off
  exact trivial
section
variable {w : World} {mean : ExcName → Option Value} {mg mb : Str → Option Value} {A A₀ : Around} {base g₀ : Heap} {outer : List Env} {E : Value → Shared → Prop} {s : Shared} {env : Env} {L : Addr} {Q : Flow → Shared → Prop} {m₀ : Str → Option Value} {news : List (Addr × Obj)}
noncomputable def AtS (w : World) (mean : ExcName → Option Value) (mg mb : Str → Option Value) (A₀ : Around) (base : Heap) (outer : List Env) (g₀ : Heap) (L : Addr) (s : Shared) (X : List (Str × Value) → List (Addr × Obj) → Prop) (s' : Shared) : Prop :=
  ∃ g h tk m ps news, s' = { s with heap := h, toks := tk } ∧ Gr w mean mg mb A₀ base outer g₀ g ∧ Fr g L h m ∧ News g L h news ∧ AllAt m ps ∧ X ps news
theorem AtS.intro {X : List (Str × Value) → List (Addr × Obj) → Prop} {g h' : Heap} {tk : Nat} {m' : Str → Option Value} {all : List (Addr × Obj)} (G : Gr w mean mg mb A₀ base outer g₀ g) (F : Fr g L h' m') (N : News g L h' all) (ps : List (Str × Value)) (news' : List (Addr × Obj)) (hps : AllAt m' ps) (sub : ∀ p ∈ news', p ∈ all)
    (x : X ps news') : AtS w mean mg mb A₀ base outer g₀ L s X { s with heap := h', toks := tk } := ⟨g, h', tk, m', ps, news', rfl, G, F, fun p hp => N p (sub p hp), hps, x⟩
theorem AtS.intro' {X : List (Str × Value) → List (Addr × Obj) → Prop} {g h' : Heap} {tk : Nat} {m' : Str → Option Value} {all : List (Addr × Obj)} (G : Gr w mean mg mb A₀ base outer g₀ g) (F : Fr g L h' m') (N : News g L h' all) (ps : List (Str × Value)) (hps : AllAt m' ps)
    (x : X ps all) : AtS w mean mg mb A₀ base outer g₀ L s X { s with heap := h', toks := tk } := ⟨g, h', tk, m', ps, all, rfl, G, F, N, hps, x⟩
theorem w_cutS {test : PySem.Expr} {body orelse : List Stmt} {pos : Pos} {σ : Type} {gi : Heap} (I : σ → List (Str × Value) → List (Addr × Obj) → Prop) (X : List (Str × Value) → List (Addr × Obj) → Prop) (μ : σ → Nat) (c₀ : σ) (ps₀ : List (Str × Value))
    (G : Gr w mean mg mb A₀ base outer g₀ gi) (F : Fr gi L s.heap m₀) (N : News gi L s.heap news) (hps : AllAt m₀ ps₀) (h0 : I c₀ ps₀ news)
    (turn : ∀ g c ps₁ (u : Str → Option Value) news₁ h tk (P C : Flow → Shared → Prop), I c ps₁ news₁ → Gr w mean mg mb A₀ base outer g₀ g → Below A₀ base outer g → (hd.heap_1 w.params).In g → Top VW LS mean mg mb g → KtsDicts (frs outer) g → Fr g L h (kstB u ps₁) → News g L h news₁ →
      (∀ s', AtS w mean mg mb A₀ base outer g₀ L s (fun ps n => ∃ c', I c' ps n ∧ μ c' < μ c) s' → P .next s') → (∀ s', P .next s' → P .cont s') → (∀ s', AtS w mean mg mb A₀ base outer g₀ L s X s' → C .next s') → (∀ s', C .next s' → P .brk s') → (∀ v s', Q (.ret v) s' → P (.ret v) s') → (∀ v s', Q (.ret v) s' → C (.ret v) s') →
      wpAny (model Challenge.rw_om0134_01.row.prog w) A (isTrue test env (eval test env)) (fun b s₂ => if b = true then wpAny (model Challenge.rw_om0134_01.row.prog w) A (execs body env) P E s₂ else wpAny (model Challenge.rw_om0134_01.row.prog w) A (execs orelse env) C E s₂) E { s with heap := h, toks := tk })
    (after : ∀ g ps₁ (u : Str → Option Value) news₁ h tk, X ps₁ news₁ → Gr w mean mg mb A₀ base outer g₀ g → Below A₀ base outer g → (hd.heap_1 w.params).In g → Top VW LS mean mg mb g → KtsDicts (frs outer) g → Fr g L h (kstB u ps₁) → News g L h news₁ → Q .next { s with heap := h, toks := tk })
    (hE : PassesOwn (model Challenge.rw_om0134_01.row.prog w) A env E) :
    wpAny (model Challenge.rw_om0134_01.row.prog w) A (exec (.While test body orelse pos) env) Q E s := by
  refine w_start ?_
  let C : Flow → Shared → Prop := fun f s' => match f with | .next => AtS w mean mg mb A₀ base outer g₀ L s X s' | .ret v => Q (.ret v) s' | _ => False
  have fin : ∀ f s', C f s' → Q f s' := by
    intro f s' x
    cases f with
    | next => obtain ⟨g, h, tk, m, ps, news, rfl, G, F, N, M, hX⟩ := x; exact after g ps m news h tk hX G G.below G.inn G.top G.dicts (M.fr F) N
    | brk => exact x.elim
    | cont => exact x.elim
    | ret v => exact x
  have key : ∀ k c, μ c < k → ∀ g ps₁ m₁ news₁ h tk, AllAt m₁ ps₁ → I c ps₁ news₁ → Gr w mean mg mb A₀ base outer g₀ g → Fr g L h m₁ → News g L h news₁ → WRest Challenge.rw_om0134_01.row.prog w A E env test body orelse Q { s with heap := h, toks := tk } := by
    intro k
    induction k with
    | zero => intro c hc; exact absurd hc (Nat.not_lt_zero _)
    | succ k ih =>
      intro c hc g ps₁ m₁ news₁ h tk hM hI G₁ F₁ N₁
      let P : Flow → Shared → Prop := fun f s' => match f with | .next => AtS w mean mg mb A₀ base outer g₀ L s (fun ps n => ∃ c', I c' ps n ∧ μ c' < μ c) s' | .cont => AtS w mean mg mb A₀ base outer g₀ L s (fun ps n => ∃ c', I c' ps n ∧ μ c' < μ c) s' | .brk => C .next s' | .ret v => Q (.ret v) s'
      refine w_turn (wpAny_mono (turn g c ps₁ m₁ news₁ h tk P C hI G₁ G₁.below G₁.inn G₁.top G₁.dicts (hM.fr F₁) N₁ (fun _ x => x) (fun _ x => x) (fun _ x => x) (fun _ x => x) (fun _ _ x => x) (fun _ _ x => x)) (fun b s₂ x => ?_) fun _ _ e => e) hE
      cases b with
      | false =>
        rw [if_neg Bool.false_ne_true] at x ⊢
        exact wpAny_mono x fin fun _ _ e => e
      | true =>
        rw [if_pos rfl] at x ⊢
        refine wpAny_mono x (fun f s₃ y => ?_) fun _ _ e => e
        cases f with
        | ret v => exact y
        | brk => exact fin _ _ y
        | next => obtain ⟨g', h', tk', m', ps', n', rfl, G', F', N', hM', c', hI', hlt⟩ := y; exact ih c' (by omega) g' ps' m' n' h' tk' hM' hI' G' F' N'
        | cont => obtain ⟨g', h', tk', m', ps', n', rfl, G', F', N', hM', c', hI', hlt⟩ := y; exact ih c' (by omega) g' ps' m' n' h' tk' hM' hI' G' F' N'
  exact key _ c₀ (Nat.lt_succ_self _) gi ps₀ m₀ news s.heap s.toks hps h0 G F N
end
structure BaseOk (w : World) (mean : ExcName → Option Value) (mg mb : Str → Option Value) (base : Heap) : Prop where
  inn : (hd.heap_1 w.params).In base
  top : Top VW LS mean mg mb base
structure EndS (s : Shared) (news : List (Addr × Obj)) (g : Heap) (fs : List Addr) : Prop where
  hg : ∀ b o, s.heap.get? b = some o → b ∉ news.map (·.1) → g.get? b = some o
  off : ∀ p ∈ news, p.1 ∉ fs
theorem lines_LoopS_275 : True := by
  k_with "c_enterS" => (refine' enter_defS ?k1ₖ₁₆ ?k2ₖ₁₆ ?k3ₖ₁₆ ?k4ₖ₁₆ ?k5ₖ₁₆ ?kDₖ₁₆ ?kAₖ₁₆ ?kFₖ₁₆ ?kKₖ₁₆ ?k6ₖ₁₆ ?k7ₖ₁₆ ?k8ₖ₁₆ ?k9ₖ₁₆ ?kBₖ₁₆ ?c2ₖ₁₆ ?c3ₖ₁₆ ?c4ₖ₁₆ ?c5ₖ₁₆ ?_; (case kAₖ₁₆ => exact rfl); (case kFₖ₁₆ => exact rfl); (case kKₖ₁₆ => assumption); (case k1ₖ₁₆ => k_asm); (case k2ₖ₁₆ => k_asm); (case k3ₖ₁₆ => k_asm); (case k4ₖ₁₆ => k_asm); (case k5ₖ₁₆ => k_asm); (case kDₖ₁₆ => assumption); (case k6ₖ₁₆ => k_is); (case k7ₖ₁₆ => k_is); (case k8ₖ₁₆ => exact Nat.le_of_ble_eq_true rfl); (case k9ₖ₁₆ => exact BindsTo.of_eq rfl); (case c5ₖ₁₆ => decide); (case kBₖ₁₆ => exact locs rfl); (case c2ₖ₁₆ => exact rfl); (case c3ₖ₁₆ => exact rfl); (case c4ₖ₁₆ => exact rfl); k_whole; intro g'ₖ L'ₖ h'ₖ F'ₖ N'ₖ B'ₖ X'ₖ T'ₖ D'ₖ hlt'ₖ hg'ₖ; (try dsimp only); (try k_fold))
  k_with "c_doneS" => ((rename (∀ _ _ _ _, LeftS _ _ _ _ _ → _) => hret9ₖ); (rename (∀ _ _, _ → ¬ _ ∈ List.map _ _ → _) => hg9ₖ); (rename (∀ _, _ ∈ _ → ¬ _ ∈ _ :: frs _) => hoff9ₖ); (rename Gr _ _ _ _ _ _ _ _ _ => G9ₖ); k_dflt (refine' hret9ₖ _ _ _ _ (left_ofS ?F9ₖ₁₇ ?N9ₖ₁₇ G9ₖ.turn hg9ₖ hoff9ₖ) ?_; (case F9ₖ₁₇ => assumption); (case N9ₖ₁₇ => assumption)))
  k_with "c_startS" => ((first | (unfold ConS; intro gdₖ cnₖ csₖ Lₖ aₖ ccdₖ clₖ outerₖ A₀ₖ baseₖ h₀ₖ mₖ sₖ RRₖ Bₖ Fₖ Xₖ Nₖ Tₖ hkₖ XBₖ TBₖ Dₖ hretₖ) | (unfold ConSB; intro Bₖ Fₖ Xₖ Nₖ Tₖ hkₖ XBₖ TBₖ Dₖ hretₖ)); have hoffₖ := off_frames Bₖ Nₖ; have hBaseₖ := BaseOk.mk XBₖ TBₖ; clear XBₖ TBₖ; revert Xₖ; k_fill; intro Xₖ; k_dflt walk_at "c_enterS")
  exact trivial
theorem at_ConE : True := by
  w_top off
  exact trivial
noncomputable def ConE (w : World) (mean : ExcName → Option Value) (mg mb : Str → Option Value) (dp un : Nat) (f : Addr) (args : List Value) (news : List (Addr × Obj)) (R : Value → List (Addr × Obj) → Prop) (C : Addr) (RE : List (Addr × Obj) → Prop) : Prop :=
  ∀ (gd : Option (List Code)) (cn : Str) (cs : Scope) (L a : Addr) (ccd : Value) (cl : List (Str × Addr)) (outer : List Env) (A₀ : Around) (base h₀ : Heap) (m : Str → Option Value) (s : Shared) (RR : Result → Shared → Prop),
    Below A₀ base outer h₀ → Fr h₀ L s.heap m → (hd.heap_1 w.params).In h₀ → News h₀ L s.heap news → Top VW LS mean mg mb h₀ → cs.kind = .function →
    (hd.heap_1 w.params).In base → Top VW LS mean mg mb base → KtsDicts (frs outer) h₀ →
    (∀ r news' h' tk', LeftS (L :: frs outer) s.heap news h' news' → R r news' → RR (.ok (.ret r)) { s with heap := h', toks := tk' }) →
    (∀ e t vs newsE h' tk' g, LeftS (L :: frs outer) s.heap news g [] → (∀ p ∈ newsE, p.1 ∈ news.map (·.1) ∨ s.heap.get? p.1 = none) → RaisedS base g (envX cn cs L a ccd cl :: outer) e (.ref C) t vs newsE h' → g.UpToSlots h' → RE newsE → RR (.error (.ref e)) { s with heap := h', toks := tk' }) →
    codeAny (model Challenge.rw_om0134_01.row.prog w) (ktrTop dp un gd cn cs L a ccd cl outer) (.call (.ref f) ⟨args, []⟩) RR s
noncomputable def ConEB (w : World) (mean : ExcName → Option Value) (mg mb : Str → Option Value) (dp un : Nat) (f : Addr) (args : List Value) (news : List (Addr × Obj)) (R : Value → List (Addr × Obj) → Prop) (C : Addr) (RE : List (Addr × Obj) → Prop) (gd : Option (List Code)) (cn : Str) (cs : Scope) (L a : Addr) (ccd : Value) (cl : List (Str × Addr)) (outer : List Env) (A₀ : Around) (base h₀ : Heap) (m : Str → Option Value) (s : Shared) (RR : Result → Shared → Prop) : Prop :=
    Below A₀ base outer h₀ → Fr h₀ L s.heap m → (hd.heap_1 w.params).In h₀ → News h₀ L s.heap news → Top VW LS mean mg mb h₀ → cs.kind = .function →
    (hd.heap_1 w.params).In base → Top VW LS mean mg mb base → KtsDicts (frs outer) h₀ →
    (∀ r news' h' tk', LeftS (L :: frs outer) s.heap news h' news' → R r news' → RR (.ok (.ret r)) { s with heap := h', toks := tk' }) →
    (∀ e t vs newsE h' tk' g, LeftS (L :: frs outer) s.heap news g [] → (∀ p ∈ newsE, p.1 ∈ news.map (·.1) ∨ s.heap.get? p.1 = none) → RaisedS base g (envX cn cs L a ccd cl :: outer) e (.ref C) t vs newsE h' → g.UpToSlots h' → RE newsE → RR (.error (.ref e)) { s with heap := h', toks := tk' }) →
    codeAny (model Challenge.rw_om0134_01.row.prog w) (ktrTop dp un gd cn cs L a ccd cl outer) (.call (.ref f) ⟨args, []⟩) RR s
theorem use_conE {w : World} {mean : ExcName → Option Value} {mg mb : Str → Option Value} {dp un : Nat} {f : Addr} {args : List Value} {newsC rest : List (Addr × Obj)} {R : Value → List (Addr × Obj) → Prop} {Cl : Addr} {RE : List (Addr × Obj) → Prop} (C : ConE w mean mg mb dp un f args newsC R Cl RE)
    {A A₀ : Around} {cn : Str} {cs : Scope} {L a : Addr} {ccd : Value} {cl : List (Str × Addr)} {outer : List Env} {base h₀ : Heap} {m : Str → Option Value} {s : Shared} {Q E : Value → Shared → Prop}
    (B : Below A₀ base outer h₀) (F : Fr h₀ L s.heap m) (X : (hd.heap_1 w.params).In h₀) (N : News h₀ L s.heap newsC) (NR : News h₀ L s.heap rest) (T : Top VW LS mean mg mb h₀) (XB : (hd.heap_1 w.params).In base) (TB : Top VW LS mean mg mb base) (D : KtsDicts (frs outer) h₀)
    (hA : A.frames = some (envX cn cs L a ccd cl :: outer)) (hk : cs.kind = .function) (hh : A.handled = none) (hd : A.depth ≤ dp) (hu : A.units ≤ un)
    (hr : ∀ p ∈ rest, p.1 ∉ newsC.map (·.1))
    (h : ∀ r news' h' tk' g', Gr w mean mg mb A₀ base outer h₀ g' → Fr g' L h' m → News g' L h' (news' ++ rest) → (∀ p ∈ news', p.1 ∈ newsC.map (·.1) ∨ ∀ q ∈ rest, q.1 ≠ p.1) → R r news' → Q r { s with heap := h', toks := tk' })
    (hE : ∀ e t vs newsE h' tk' G g', Gr w mean mg mb A₀ base outer h₀ g' → Fr g' L G m → RaisedS base G (envX cn cs L a ccd cl :: outer) e (.ref Cl) t vs (newsE ++ rest) h' → G.UpToSlots h' → (∀ p ∈ newsE, p.1 ∈ newsC.map (·.1) ∨ ∀ q ∈ rest, q.1 ≠ p.1) → RE newsE → E (.ref e) { s with heap := h', toks := tk' }) :
    wpAny (model Challenge.rw_om0134_01.row.prog w) A (call (.ref f) args) Q E s := by
  have hfe : ∀ b, b ∈ L :: frs outer ↔ b ∈ (envOf cn cs L a ccd :: outer).filterMap (·.frame) := fun b => Iff.rfl
  refine wpAny_call (codeAny_le (A' := ktrTop dp un A.guards cn cs L a ccd cl outer) (C _ _ _ _ _ _ _ _ _ _ _ _ _ _ B F X N T hk XB TB D (fun r n h' tk' l y => ?_) (fun e t vs n h' tk' g l fresh rz up y => ?_)) hh hd hA rfl hu)
  · obtain ⟨FG, _, _, _⟩ := groundX (R := fun _ _ => True) B F N hA rfl hk
    have hBG : ∀ b o, (hideAll s.heap (newsC.map (·.1))).get? b = some o → b ∉ (envOf cn cs L a ccd :: outer).filterMap (·.frame) → (hideAll (hideAll s.heap (newsC.map (·.1))) ((envOf cn cs L a ccd :: outer).filterMap (·.frame))).get? b = some o := fun b o q nm => hideAll_get _ q nm
    have inNews : ∀ b o, (hideAll s.heap (newsC.map (·.1))).get? b = some o → b ∉ newsC.map (·.1) := fun b o q mm => by rw [hideAll_none _ mm] at q; cases q
    have hBh : (hideAll (hideAll s.heap (newsC.map (·.1))) ((envOf cn cs L a ccd :: outer).filterMap (·.frame))).StaysIn h' := fun b o q => by
      have q1 := of_hideAll _ q
      refine l.keep b o (of_hideAll _ q1) (inNews b o q1) fun mm => ?_
      rw [hideAll_none _ ((hfe b).mp mm)] at q; cases q
    have hsm : (hideAll s.heap (newsC.map (·.1))).UpToSlots h' := fun b o q _ => by
      by_cases mm : b ∈ L :: frs outer
      · exact l.turn b o (of_hideAll _ q) mm
      · exact ⟨o.slots, l.keep b o (of_hideAll _ q) (inNews b o q) mm⟩
    obtain ⟨g', T', F', K'⟩ := kts_ground B FG hBG hBh hsm
    refine h r n h' tk' g' ⟨T', K', XB.keeps K'.stays, TB.keeps K'.stays, D.turn T'⟩ F' (fun p hp => ?_) (fun p hp => ?_) y
    · rcases List.mem_append.mp hp with hp | hp
      · refine ⟨l.here p hp, ?_, T'.none_ _ ?_⟩
        · rcases l.new p hp with q | q
          · obtain ⟨p', hp', e⟩ := List.mem_map.mp q
            exact e ▸ (N p' hp').2.1
          · intro e
            obtain ⟨oL, _, _, hL, _⟩ := F.ns
            rw [e, hL] at q; cases q
        · rcases l.new p hp with q | q
          · obtain ⟨p', hp', e⟩ := List.mem_map.mp q
            exact e ▸ (N p' hp').2.2
          · cases hq : h₀.get? p.1 with
            | none => rfl
            | some o => rw [F.keep _ _ hq] at q; cases q
      · exact ⟨l.keep _ _ (NR p hp).1 (hr p hp) (off_frames B NR p hp), (NR p hp).2.1, T'.none_ _ (NR p hp).2.2⟩
    · refine (l.new p hp).imp id fun q p' hp' e => ?_
      rw [← e, (NR p' hp').1] at q
      cases q
  · -- the ground of the caller: all but the contract's and the other things
    have NA : News h₀ L s.heap (newsC ++ rest) := fun p hp => (List.mem_append.mp hp).elim (N p) (NR p)
    obtain ⟨FG, _, _, _⟩ := groundX (R := fun _ _ => True) B F NA hA rfl hk
    have notIn : ∀ b o, (hideAll s.heap ((newsC ++ rest).map (·.1))).get? b = some o → b ∉ (newsC ++ rest).map (·.1) := fun b o q mm => by rw [hideAll_none _ mm] at q; cases q
    have sub : ∀ b, b ∉ (newsC ++ rest).map (·.1) → b ∉ newsC.map (·.1) ∧ b ∉ rest.map (·.1) := fun b q => ⟨fun z => q (by rw [List.map_append]; exact List.mem_append.mpr (.inl z)), fun z => q (by rw [List.map_append]; exact List.mem_append.mpr (.inr z))⟩
    have hBh : (hideAll (hideAll s.heap ((newsC ++ rest).map (·.1))) ((envOf cn cs L a ccd :: outer).filterMap (·.frame))).StaysIn (hideAll g (rest.map (·.1))) := fun b o q => by
      have q1 := of_hideAll _ q
      have q2 := sub b (notIn b o q1)
      refine hideAll_get _ (l.keep b o (of_hideAll _ q1) q2.1 fun mm => ?_) q2.2
      rw [hideAll_none _ ((hfe b).mp mm)] at q; cases q
    have hsm : (hideAll s.heap ((newsC ++ rest).map (·.1))).UpToSlots (hideAll g (rest.map (·.1))) := fun b o q _ => by
      have q2 := sub b (notIn b o q)
      by_cases mm : b ∈ L :: frs outer
      · obtain ⟨sl, hs⟩ := l.turn b o (of_hideAll _ q) mm
        exact ⟨sl, hideAll_get _ hs q2.2⟩
      · exact ⟨o.slots, hideAll_get _ (l.keep b o (of_hideAll _ q) q2.1 mm) q2.2⟩
    obtain ⟨g', T', F', K'⟩ := kts_ground B FG (fun b o q nm => hideAll_get _ q nm) hBh hsm
    refine hE e t vs n h' tk' _ g' ⟨T', K', XB.keeps K'.stays, TB.keeps K'.stays, D.turn T'⟩ F' ?_ (fun b o q z => up b o (of_hideAll _ q) z) (fun p hp => (fresh p hp).imp id fun q p' hp' e => by
      rw [← e, (NR p' hp').1] at q
      cases q) y
    obtain ⟨⟨Bz, hB, hBG, hl, hfl, hnew⟩, htup⟩ := rz
    have restIn : ∀ q ∈ rest, g.get? q.1 = some q.2 := fun q hq => l.keep _ _ (NR q hq).1 (hr q hq) (off_frames B NR q hq)
    refine ⟨⟨Bz, hB, fun b o q nm => hBG b o (of_hideAll _ q) nm, fun q hq => ?_, hfl, hnew⟩, htup⟩
    rcases List.mem_append.mp hq with hq | hq
    · have z := hl q hq
      refine ⟨z.1, ?_, z.2.2⟩
      cases y : (hideAll g (rest.map (·.1))).get? q.1 with
      | none => rfl
      | some o => have := of_hideAll _ y; rw [z.2.1] at this; cases this
    · refine ⟨hBG _ _ (restIn q hq) ?_, hideAll_none _ (List.mem_map_of_mem hq), fresh_of_stays B.stays (NR q hq).2.2⟩
      exact off_frames B NR q hq
theorem left_ground {g g' h : Heap} {news : List (Addr × Obj)} {fs : List Addr} (T : KtsTurn fs g g')
    (hg : ∀ b o, h.get? b = some o → b ∉ news.map (·.1) → g.get? b = some o) (hoff : ∀ p ∈ news, p.1 ∉ fs) : LeftS fs h news g' [] where
  keep := fun b o e n nf => T.other b o (hg b o e n) nf
  turn := fun b o e mf => T.frame b o (hg b o e fun q => by
      obtain ⟨p, hp, rfl⟩ := List.mem_map.mp q
      exact hoff p hp mf) mf
  here := fun _ q => nomatch q
  new := fun _ q => nomatch q
theorem fresh_raised {base g g' h h' : Heap} {news newsE : List (Addr × Obj)} {fs : List Addr} {l : List Env} {e t : Addr} {cls : Value} {vs : List Value} (T : KtsTurn fs g g')
    (hg : ∀ b o, h.get? b = some o → b ∉ news.map (·.1) → g.get? b = some o) (S : RaisedS base g' l e cls t vs newsE h') : ∀ p ∈ newsE, p.1 ∈ news.map (·.1) ∨ h.get? p.1 = none := fun p hp => by
  obtain ⟨⟨B, _, _, hl, _⟩, _⟩ := S
  by_cases q : p.1 ∈ news.map (·.1)
  · exact .inl q
  · refine .inr ?_
    cases e : h.get? p.1 with
    | none => rfl
    | some o =>
      obtain ⟨sl, hs⟩ := T.up (hg _ _ e q)
      rw [(hl p hp).2.1] at hs; cases hs
theorem raised_sub {base G h : Heap} {l : List Env} {e t : Addr} {cls : Value} {vs : List Value} {news news' : List (Addr × Obj)} (S : RaisedS base G l e cls t vs news h) (sub : ∀ p ∈ news', p ∈ news) : RaisedS base G l e cls t vs news' h := by
  obtain ⟨⟨B, h1, h2, h3, h4, h5⟩, h6⟩ := S
  exact ⟨⟨B, h1, h2, fun q hq => h3 q (sub q hq), h4, h5⟩, h6⟩
theorem at_Lists : True := by
  w_top off
  exact trivial
section
variable {prog : Program} {w : World} {A : Around} {E : Value → Shared → Prop} {s : Shared} {h₀ : Heap} {L D b : Addr} {m : Str → Option Value} {news : List (Addr × Obj)} {ms ws : List Value} {nm nw : List Int} {n n2 : Nat}
theorem not_long (k : Nat) (hk : k ≤ 1000) : Builtin.List.listTooLong k = false := by
  unfold Builtin.List.listTooLong
  have hsz : sizeLine = 16777216 := rfl
  rw [hsz]
  exact decide_eq_false (by omega)
theorem ext_ints {Q : Value → Shared → Prop} {news' : Nat → List (Addr × Obj)} (F : Fr h₀ L s.heap m) (N : News h₀ L s.heap news) (hb : (b, W.listOf (List.toArray ws) n2) ∈ news)
    (U : ∀ k, Upd D (W.listOf (List.toArray ms) n) (W.listOf (List.toArray (ms ++ ws)) k) news (news' k)) (hi : IntsAre ms nm) (hj : IntsAre ws nw) (hz : nm.length + nw.length ≤ 1000)
    (h : ∀ h' k, Fr h₀ L h' m → News h₀ L h' (news' k) → IntsAre (ms ++ ws) (nm ++ nw) → (nm ++ nw).length = nm.length + nw.length → Q .none { s with heap := h' }) :
    wpAny (model prog w) A (call (.builtin "list.extend") [.ref D, .ref b]) Q E s := by
  have l1 : ms.length = nm.length := hi.length
  have l2 : ws.length = nw.length := hj.length
  have hI := intsAre_append hi hj
  have hlong : ¬(!(List.toArray ms).isEmpty && Builtin.List.listTooLong ((List.toArray ms).size + (List.toArray ws).size)) = true := by
    rw [List.size_toArray, List.size_toArray, not_long _ (by omega), Bool.and_false]
    exact Bool.false_ne_true
  have hsz : sizeLine = 16777216 := rfl
  by_cases e : ws = []
  · subst e
    have U0 := U n
    have e2 : ms ++ [] = ms := List.append_nil ms
    rw [e2] at U0
    refine kxn_extend F N hb rfl U0 hlong (by simp; omega) (by rw [List.size_toArray, List.size_toArray]; omega) fun h' F' N' => h h' n F' N' hI List.length_append
  · refine kl_extend (l := ms ++ ws) F N hb rfl (by
      show ws.length ≠ 0
      intro q
      exact e (List.eq_nil_of_length_eq_zero q)) (U (n + 1)) hlong (by show ms.length ≤ _; omega) (by rw [List.size_toArray, List.size_toArray]; omega) fun h' F' N' => h h' (n + 1) F' N' hI List.length_append
theorem app_int {Q : Value → Shared → Prop} {news' : List (Addr × Obj)} {x : Int} {tx : Tok} (F : Fr h₀ L s.heap m) (N : News h₀ L s.heap news)
    (U : Upd D (W.listOf (List.toArray ms) n) (W.listOf (List.toArray (ms ++ [.int x tx])) (n + 1)) news news') (hi : IntsAre ms nm) (hz : nm.length ≤ 1000)
    (h : ∀ h', Fr h₀ L h' m → News h₀ L h' news' → IntsAre (ms ++ [.int x tx]) (nm ++ [x]) → (nm ++ [x]).length = nm.length + 1 → Q .none { s with heap := h' }) :
    wpAny (model prog w) A (call (.builtin "list.append") [.ref D, .int x tx]) Q E s := by
  have e : List.toArray (ms ++ [.int x tx]) = (List.toArray ms).push (.int x tx) := by simp
  rw [e] at U
  have hsz : sizeLine = 16777216 := rfl
  refine append_K F N U (fun h' F' N' => h h' F' N' (intsAre_append hi (IntsAre.cons _ _ IntsAre.nil)) List.length_append) (by rw [List.size_toArray, hi.length]; omega)
theorem slice_from {vs : List Value} {ns : List Int} {l : Addr} {i : Nat} {ti : Tok} {value slice : PySem.Expr} {Q : Value → Shared → Prop} (F : Fr h₀ L s.heap m) (N : News h₀ L s.heap news) (hm : (l, W.listOf (List.toArray vs) n) ∈ news) (hi : IntsAre vs ns) (hz : ns.length ≤ 1000)
    (h : ∀ D ws h', Fr h₀ L h' m → News h₀ L h' ((D, W.listOf (List.toArray ws) 0) :: news) → (∀ p ∈ news, p.1 < D) → IntsAre ws (ns.drop i) → (ns.drop i).length = ns.length - i → Q (.ref D) { s with heap := h' })
    (hs : subscripted slice false (.ref l) (.ref s.heap.objs.size) = operate [.ref s.heap.objs.size, .ref l] (getItem (.ref l) (.ref s.heap.objs.size))) (ht : ∀ r, letTemporaryGo value (.ref l) r = pure ()) :
    wpAny (model prog w) A (subscriptTail value slice (.ref l) (.ref s.heap.objs.size)) Q E { s with heap := s.heap.push { cls := .type "slice", data := .fields #[.int (i : Int) ti, .none, .none] } } :=
  kmk_slice_ints F N (PySem.IsL.isList (n := n) (N _ hm).1) (IsPart.int _ _) IsPart.none hi (kmk_from hi (Int.natCast_nonneg i)) rfl (fun D ws h' F' N' l1 hI' _ _ => h D ws h' F' N' l1 hI' List.length_drop) hs ht (by
    have hsz : sizeLine = 16777216 := rfl
    rw [List.size_toArray, hi.length]; omega)
end
theorem lines_Lists_293 : True := by
  k_with "call builtin:list.append" => ((with_reducible show wpAny _ _ (call (Value.builtin _) [Value.ref _, Value.int _ _]) _ _ _); k_dflt (refine' app_int ?Fₖ₁₉ ?Nₖ₁₉ ?Uₖ₁₉ ?iₖ₁₉ ?zₖ₁₉ ?_; (case Fₖ₁₉ => k_asm); (case Nₖ₁₉ => k_asm); (case Uₖ₁₉ => k_upd); (case iₖ₁₉ => with_reducible assumption); (case zₖ₁₉ => omega)); intro h'ₖ F'ₖ N'ₖ hi'ₖ hl'ₖ; (try dsimp only at N'ₖ); (try k_sweep))
  k_with "subscriptTail Name Slice ref ref" => ((with_reducible show wpAny _ _ (subscriptTail _ (PySem.Expr.Slice (some _) none none _) (Value.ref _) (Value.ref _)) _ _ _); k_dflt (refine' slice_from ?Fₖ₂₀ ?Nₖ₂₀ ?mₖ₂₀ ?iₖ₂₀ ?zₖ₂₀ ?_ ?sₖ₂₀ ?tₖ₂₀; (case Fₖ₂₀ => k_asm); (case Nₖ₂₀ => k_asm); (case mₖ₂₀ => k_mem); (case iₖ₂₀ => with_reducible assumption); (case sₖ₂₀ => with_unfolding_all rfl); (case tₖ₂₀ => kmk_pure); (case zₖ₂₀ => omega)); intro D'ₖ ws'ₖ h'ₖ F'ₖ N'ₖ l1ₖ hI'ₖ hl'ₖ; (try k_lt l1ₖ); (try k_sweep))
  k_with "call builtin:list.extend" => ((with_reducible show wpAny _ _ (call (Value.builtin _) [Value.ref _, Value.ref _]) _ _ _); k_dflt (refine' ext_ints ?Fₖ₂₁ ?Nₖ₂₁ ?bₖ₂₁ ?Uₖ₂₁ ?iₖ₂₁ ?jₖ₂₁ ?zₖ₂₁ ?_; (case Fₖ₂₁ => k_asm); (case Nₖ₂₁ => k_asm); (case bₖ₂₁ => k_mem); (case Uₖ₂₁ => (intro k'ₖ; k_upd)); (case iₖ₂₁ => with_reducible assumption); (case jₖ₂₁ => with_reducible assumption); (case zₖ₂₁ => omega)); intro h'ₖ k'ₖ F'ₖ N'ₖ hi'ₖ hl'ₖ; (try dsimp only at N'ₖ); (try k_sweep))
  exact trivial
theorem at_ExcLines : True := by
  w_top off
  exact trivial
theorem item_out {prog : Program} {w : World} {A : Around} {E : Value → Shared → Prop} {s : Shared} {h₀ : Heap} {L l : Addr} {news : List (Addr × Obj)} {vs : List Value} {ns : List Int} {n : Nat} {value slice : PySem.Expr} {k : Int} {u : Tok} {Q : Value → Shared → Prop} (hA : A.handled = none)
    (N : News h₀ L s.heap news) (hm : (l, W.listOf (List.toArray vs) n) ∈ news) (hi : IntsAre vs ns) (hout : (ns.length : Int) ≤ k) (hhi : k < 1000)
    (hE : ∀ h' tk e, Heap.NewExc s.heap h' e "IndexError" → E (.ref e) { s with heap := h', toks := tk })
    (hs : subscripted slice false (.ref l) (.int k u) = operate [.ref l, .int k u] (getItem (.ref l) (.int k u))) :
    wpAny (model prog w) A (subscriptTail value slice (.ref l) (.int k u)) Q E s :=
  item_outK (items := vs.toArray) hA (PySem.IsL.isList (n := n) (N _ hm).1) (Or.inr (by rw [List.size_toArray, hi.length]; exact hout)) (by omega) (by omega) hE hs
theorem pass_on {M : Model} {A : Around} {env : Env} {E : Value → Shared → Prop} {e : Value} {s' : Shared} (hE : PassesOwn M A env E) (h : E e s') : notedBy M A env (cameBackBy M A env E) e s' := hE e s' h
theorem lines_ExcLines_298 : True := by
  k_with "subscriptTail" => ((with_reducible show wpAny _ _ (subscriptTail _ _ (Value.ref _) (Value.int _ _)) _ _ _); k_dflt (refine' item_out ?hₖ₂₂ ?Nₖ₂₂ ?mₖ₂₂ ?iₖ₂₂ ?oₖ₂₂ ?zₖ₂₂ ?_ ?sₖ₂₂; (case hₖ₂₂ => exact rfl); (case Nₖ₂₂ => k_asm); (case mₖ₂₂ => k_mem); (case iₖ₂₂ => with_reducible assumption); (case oₖ₂₂ => omega); (case zₖ₂₂ => omega); (case sₖ₂₂ => with_unfolding_all rfl)); intro h'ₖ tk'ₖ e'ₖ hx'ₖ; (try (with_reducible refine pass_on (by passes_own) ?_)); (try dsimp only))
  k_with "noteFrame ref" => ((with_reducible show wpAny _ _ (noteFrame _ _) (fun _ s₂ => wpAny _ _ (setFlight _ none) (fun _ s₃ => wpAny _ _ (handleBy _ _ (ExceptHandler.ExceptHandler (some (Expr.Name ("IndexError" : Str) _)) none _ _ :: _)) _ _ s₃) _ s₂) _ _); (with_reducible rename Heap.NewExc _ _ _ _ => hx9ₖ); (with_reducible rename BaseOk _ _ _ _ _ => hB9ₖ); (with_reducible rename Gr _ _ _ _ _ _ _ _ _ => G9ₖ); (with_reducible rename Fr _ _ _ _ => F9ₖ); (with_reducible rename News _ _ _ _ => N9ₖ); (with_reducible rename KtsDicts _ _ => D9ₖ); (with_reducible rename Below _ _ _ _ => B9ₖ); (with_reducible rename Frag.In _ _ => X9ₖ); (with_reducible rename Top _ _ _ _ _ _ => T9ₖ); k_dflt (refine' caught_here (X := "IndexError") (T' := "IndexError") B9ₖ (toC hx9ₖ) F9ₖ N9ₖ hB9ₖ.inn hB9ₖ.top D9ₖ ?exₖ₂₃ PyProof.Rows.Boot.«IndexError» ?hnₖ₂₃ PySem.F.isExc_IndexError PySem.F.notTuple_IndexError ?hsₖ₂₃ ?_; (case hsₖ₂₃ => kts_sub); (case exₖ₂₃ => k_is); (case hnₖ₂₃ => decide); k_whole); intro h'ₖ g'ₖ T'ₖ F'ₖ N'ₖ B'ₖ X'ₖ P'ₖ D'ₖ; have G'ₖ := G9ₖ.trans (Gr.mk T'ₖ B'ₖ X'ₖ P'ₖ D'ₖ); clear G9ₖ B9ₖ X9ₖ T9ₖ D9ₖ F9ₖ N9ₖ hx9ₖ T'ₖ)
  exact trivial
theorem at_Sld1 : True := by
  w_top off
  exact trivial
noncomputable def SldX (e a : Addr) (oe oa : Obj) (ne na : List Int) (ps : List (Str × Value)) (n : List (Addr × Obj)) : Prop :=
  ∃ M U ms us km ku, n = [(U, W.listOf (List.toArray us) ku), (M, W.listOf (List.toArray ms) km), (e, oe), (a, oa)] ∧ (@LT.lt Nat _ M U ∧ @LT.lt Nat _ e M ∧ @LT.lt Nat _ a M) ∧
      ps = [(("missing" : Str), .ref M), (("unexpected" : Str), .ref U)] ∧ IntsAre ms (sldF ne na).1 ∧ IntsAre us (sldF ne na).2
theorem sldX_of {e a M U : Addr} {oe oa : Obj} {ne na nm nu : List Int} {i j : Nat} {ms us : List Value} {km ku : Nat} (D : DA ne na i j nm nu) (h : ne.length ≤ i ∨ na.length ≤ j) (hMU : @LT.lt Nat _ M U ∧ @LT.lt Nat _ e M ∧ @LT.lt Nat _ a M) (h1 : IntsAre ms (nm ++ ne.drop i)) (h2 : IntsAre us (nu ++ na.drop j)) :
    SldX e a oe oa ne na [(("missing" : Str), .ref M), (("unexpected" : Str), .ref U)] [(U, W.listOf (List.toArray us) ku), (M, W.listOf (List.toArray ms) km), (e, oe), (a, oa)] := by
  have := D.stop h
  exact ⟨M, U, ms, us, km, ku, rfl, hMU, rfl, by rw [← this]; exact h1, by rw [← this]; exact h2⟩
inductive SldH (w : World) (mean : ExcName → Option Value) (mg mb : Str → Option Value) (A₀ : Around) (base : Heap) (outer : List Env) (g₀ : Heap) (L : Addr) (s : Shared) (e a : Addr) (oe oa : Obj) (ne na : List Int) : Value → Shared → Prop
  | mk {g hp h1 : Heap} {e1 : Addr} {c₀ : Value} {tk : Nat} {m : Str → Option Value} {M U : Addr} {ms us : List Value} {km ku i j : Nat} {nm nu : List Int} {ti tj : Tok}
    (x : NewExcC hp h1 e1 "IndexError" c₀) (F : Fr g L hp m) (N : News g L hp [(U, W.listOf (List.toArray us) ku), (M, W.listOf (List.toArray ms) km), (e, oe), (a, oa)]) (G : Gr w mean mg mb A₀ base outer g₀ g)
    (hps : AllAt m [(("expected" : Str), .ref e), (("actual" : Str), .ref a), (("missing" : Str), .ref M), (("unexpected" : Str), .ref U), (("i" : Str), .int (i : Int) ti), (("j" : Str), .int (j : Int) tj)])
    (lt : @LT.lt Nat _ M U ∧ @LT.lt Nat _ e M ∧ @LT.lt Nat _ a M) (j1 : IntsAre ms nm) (j2 : IntsAre us nu) (D : DA ne na i j nm nu) (st : ne.length ≤ i ∨ na.length ≤ j) (ri : i ≤ ne.length) (rj : j ≤ na.length) (rm : nm.length ≤ i) (ru : nu.length ≤ j) :
    SldH w mean mg mb A₀ base outer g₀ L s e a oe oa ne na (.ref e1) { s with heap := h1, toks := tk }
theorem cut_sld {w : World} {mean : ExcName → Option Value} {mg mb : Str → Option Value} {A₀ : Around} {base : Heap} {outer : List Env} {g₀ : Heap} {L : Addr} {s s₁ : Shared} {X : List (Str × Value) → List (Addr × Obj) → Prop} {C : Flow → Shared → Prop} {M : Model} {A : Around} {α : Type} {t : Sem α} {Q : α → Shared → Prop} {E : Value → Shared → Prop} (hC : ∀ s', AtS w mean mg mb A₀ base outer g₀ L s X s' → C .next s') (e a : Addr) (oe oa : Obj) (ne na : List Int)
    (hand : ∀ x s', SldH w mean mg mb A₀ base outer g₀ L s e a oe oa ne na x s' → E x s')
    (body : (∀ x s', SldH w mean mg mb A₀ base outer g₀ L s e a oe oa ne na x s' → E x s') → wpAny M A t Q E s₁) : wpAny M A t Q E s₁ := body hand
theorem lines_Sld1_305 : True := by
  k_with "s_to" => repeat' (first | ((fail_if_success (with_reducible show wpAny _ _ (noteFrame _ _) (fun _ s₂ => wpAny _ _ (setFlight _ none) _ _ _) _ _)); walk_at "no_loop"; first | (k_unfold; (try dsimp only)) | walk1) | (dsimp only; (fail_if_success (with_reducible show wpAny _ _ (noteFrame _ _) (fun _ s₂ => wpAny _ _ (setFlight _ none) _ _ _) _ _)); walk_at "no_loop"; walk1) | fail "no step")
  exact trivial
inductive SldI (e a : Addr) (oe oa : Obj) (ne na : List Int) : Nat × Nat → List (Str × Value) → List (Addr × Obj) → Prop
  | mk {i j : Nat} {M U : Addr} {ms us : List Value} {km ku : Nat} {nm nu : List Int} {ti tj : Tok} (lt : @LT.lt Nat _ M U ∧ @LT.lt Nat _ e M ∧ @LT.lt Nat _ a M) (h1 : IntsAre ms nm) (h2 : IntsAre us nu) (hi : i ≤ ne.length) (hj : j ≤ na.length) (hm : nm.length ≤ i) (hu : nu.length ≤ j) (D : DA ne na i j nm nu) :
    SldI e a oe oa ne na (i, j) [(("expected" : Str), .ref e), (("actual" : Str), .ref a), (("missing" : Str), .ref M), (("unexpected" : Str), .ref U), (("i" : Str), .int (i : Int) ti), (("j" : Str), .int (j : Int) tj)] [(U, W.listOf (List.toArray us) ku), (M, W.listOf (List.toArray ms) km), (e, oe), (a, oa)]
namespace S_sld_con
noncomputable def stm (w : World) (mean : ExcName → Option Value) (mg mb : Str → Option Value) (e a : Addr) (es as : List Value) (ne na : List Int) (ke ka : Nat) (gdₛ : Option (List Code)) (cnₛ : Str) (csₛ : Scope) (Lₛ aₛ : Addr) (ccdₛ : Value) (clₛ : List (Str × Addr)) (outerₛ : List Env) (A₀ₛ : Around) (baseₛ h₀ₛ : Heap) (mₛ : Str → Option Value) (sₛ : Shared) (RRₛ : Result → Shared → Prop) : Prop := ∀ (he : IntsAre es ne) (ha : IntsAre as na) (hse : ∀ i : Nat, i + 1 < ne.length → ne.getD (i : Int).toNat 0 < ne.getD ((i : Int) + 1).toNat 0) (hsa : ∀ i : Nat, i + 1 < na.length → na.getD (i : Int).toNat 0 < na.getD ((i : Int) + 1).toNat 0) (hle : ne.length ≤ 10) (hla : na.length ≤ 10), ConSB w mean mg mb 440 1900 162 [.ref e, .ref a] [(e, W.listOf (List.toArray es) ke), (a, W.listOf (List.toArray as) ka)] (fun r news' => ∃ T M U ms us km ku, r = .ref T ∧ news' = [(T, ({ cls := .type "tuple", data := .seq #[.ref M, .ref U] } : Obj)), (U, W.listOf (List.toArray us) ku), (M, W.listOf (List.toArray ms) km), (e, W.listOf (List.toArray es) ke), (a, W.listOf (List.toArray as) ka)] ∧ (@LT.lt Nat _ U T ∧ @LT.lt Nat _ M U ∧ @LT.lt Nat _ e M ∧ @LT.lt Nat _ a M) ∧ IntsAre ms (sldF ne na).1 ∧ IntsAre us (sldF ne na).2) gdₛ cnₛ csₛ Lₛ aₛ ccdₛ clₛ outerₛ A₀ₛ baseₛ h₀ₛ mₛ sₛ RRₛ
noncomputable abbrev Dat := World × (ExcName → Option Value) × (Str → Option Value) × (Str → Option Value) × Addr × Addr × List Value × List Value × List Int × List Int × Nat × Nat × Option (List Code) × Str × Scope × Addr × Addr × Value × (List (Str × Addr)) × List Env × Around × Heap × Heap × (Str → Option Value) × Shared × (Result → Shared → Prop)
noncomputable def ok (p : Dat) : Prop := let q1 := p.2.2.2.2.2.2.2.2; let q2 := q1.2.2.2.2.2.2.2.2; let q3 := q2.2.2.2.2.2.2.2.2; stm p.1 p.2.1 p.2.2.1 p.2.2.2.1 p.2.2.2.2.1 p.2.2.2.2.2.1 p.2.2.2.2.2.2.1 p.2.2.2.2.2.2.2.1 q1.1 q1.2.1 q1.2.2.1 q1.2.2.2.1 q1.2.2.2.2.1 q1.2.2.2.2.2.1 q1.2.2.2.2.2.2.1 q1.2.2.2.2.2.2.2.1 q2.1 q2.2.1 q2.2.2.1 q2.2.2.2.1 q2.2.2.2.2.1 q2.2.2.2.2.2.1 q2.2.2.2.2.2.2.1 q2.2.2.2.2.2.2.2.1 q3.1 q3.2
@[irreducible] noncomputable def cc : Dat := @Classical.epsilon Dat ⟨(world0, fun _ => none, fun _ => none, fun _ => none, (0 : Nat), (0 : Nat), [], [], [], [], 0, 0, none, default, default, (0 : Nat), (0 : Nat), .none, [], [], {}, {}, {}, fun _ => none, {}, fun _ _ => True)⟩ fun p => ¬ ok p
noncomputable def c1 := cc.2.2.2.2.2.2.2.2
noncomputable def c2 := c1.2.2.2.2.2.2.2.2
noncomputable def c3 := c2.2.2.2.2.2.2.2.2
@[irreducible] noncomputable def w : World := cc.1
@[irreducible] noncomputable def mean : ExcName → Option Value := cc.2.1
@[irreducible] noncomputable def mg : Str → Option Value := cc.2.2.1
@[irreducible] noncomputable def mb : Str → Option Value := cc.2.2.2.1
@[irreducible] noncomputable def e : Addr := cc.2.2.2.2.1
@[irreducible] noncomputable def a : Addr := cc.2.2.2.2.2.1
@[irreducible] noncomputable def es : List Value := cc.2.2.2.2.2.2.1
@[irreducible] noncomputable def as : List Value := cc.2.2.2.2.2.2.2.1
@[irreducible] noncomputable def ne : List Int := c1.1
@[irreducible] noncomputable def na : List Int := c1.2.1
@[irreducible] noncomputable def ke : Nat := c1.2.2.1
@[irreducible] noncomputable def ka : Nat := c1.2.2.2.1
@[irreducible] noncomputable def gdₛ : Option (List Code) := c1.2.2.2.2.1
@[irreducible] noncomputable def cnₛ : Str := c1.2.2.2.2.2.1
@[irreducible] noncomputable def csₛ : Scope := c1.2.2.2.2.2.2.1
@[irreducible] noncomputable def Lₛ : Addr := c1.2.2.2.2.2.2.2.1
@[irreducible] noncomputable def aₛ : Addr := c2.1
@[irreducible] noncomputable def ccdₛ : Value := c2.2.1
@[irreducible] noncomputable def clₛ : List (Str × Addr) := c2.2.2.1
@[irreducible] noncomputable def outerₛ : List Env := c2.2.2.2.1
@[irreducible] noncomputable def A₀ₛ : Around := c2.2.2.2.2.1
@[irreducible] noncomputable def baseₛ : Heap := c2.2.2.2.2.2.1
@[irreducible] noncomputable def h₀ₛ : Heap := c2.2.2.2.2.2.2.1
@[irreducible] noncomputable def mₛ : Str → Option Value := c2.2.2.2.2.2.2.2.1
@[irreducible] noncomputable def sₛ : Shared := c3.1
@[irreducible] noncomputable def RRₛ : Result → Shared → Prop := c3.2
theorem core : stm w mean mg mb e a es as ne na ke ka gdₛ cnₛ csₛ Lₛ aₛ ccdₛ clₛ outerₛ A₀ₛ baseₛ h₀ₛ mₛ sₛ RRₛ := by
  intro he ha hse hsa hle hla
  walk_at "c_startS"
  w_strict (walk_at "k_to")
  rename Fr _ _ _ _ => F0
  rename News _ _ _ _ => N0
  rename Below _ _ _ _ => B0
  rename Frag.In _ _ => X0
  rename KtsDicts _ _ => D0
  rename Top _ _ _ _ _ _ => T0
  refine w_cutS (σ := Nat × Nat) (SldI e a (W.listOf (List.toArray es) ke) (W.listOf (List.toArray as) ka) ne na)
    (SldX e a (W.listOf (List.toArray es) ke) (W.listOf (List.toArray as) ka) ne na)
    (fun c => (ne.length - c.1) + (na.length - c.2)) (0, 0) [("expected", _), ("actual", _), ("missing", _), ("unexpected", _), ("i", _), ("j", _)] (Gr.mk KtsTurn.refl B0 X0 T0 D0) F0 N0 (by exact ⟨rfl, rfl, rfl, rfl, rfl, rfl, trivial⟩) (.mk ⟨by omega, by omega, by omega⟩ IntsAre.nil IntsAre.nil (Nat.zero_le _) (Nat.zero_le _) (Nat.zero_le _) (Nat.zero_le _) (DA.init _ _)) ?_ ?_ (by passes_own)
  · clear F0 N0 B0 X0 T0 D0
    rintro g ⟨i, j⟩ ps₁ u news₁ h tk P C ⟨hMU, hms, hus, hi, hj, hnm, hnu, hDA⟩ G1 B1 X1 T1 D1 F1 N1 hN - hC hB - -
    rename_i M U ms us km ku nm nu ti tj
    dsimp only [kstB] at F1
    repeat' (first | ((fail_if_success (with_reducible show wpAny _ _ (exec (Stmt.Assign _ _ _) _) _ _ _)); first | (k_unfold; (try dsimp only)) | walk1) | (dsimp only; (fail_if_success (with_reducible show wpAny _ _ (exec (Stmt.Assign _ _ _) _) _ _ _)); walk1) | fail "no step")
    refine cut_sld hC e a (W.listOf (List.toArray es) ke) (W.listOf (List.toArray as) ka) ne na ?hand ?_
    case hand =>
      rename BaseOk _ _ _ _ _ => hB9
      clear F1 N1 G1 B1 X1 T1 D1 hms hus hi hj hnm hnu hDA hMU
      rintro _ _ ⟨hx, F, N, G, hps, hMU, hms, hus, hDA, hst, hi, hj, hnm, hnu⟩
      refine caught_here (X := "IndexError") (T' := "IndexError") G.below hx F N hB9.inn hB9.top G.dicts (by k_is) PyProof.Rows.Boot.«IndexError» (by decide) PySem.F.isExc_IndexError PySem.F.notTuple_IndexError (by kts_sub) ?_
      intro h7 g7 T7 F7 N7 B7 X7 P7 D7
      have G7 := G.trans (Gr.mk T7 B7 X7 P7 D7)
      replace F7 := hps.fr F7
      (try dsimp only [kstB] at F7)
      clear G T7 F N hx
      walk_at "k_to"
      (refine hB _ (hC _ ?_); (try dsimp only); refine AtS.intro (by assumption) (by assumption) (by assumption) [("missing", _), ("unexpected", _)] [(_, _), (_, _), (_, _), (_, _)] (by exact ⟨rfl, rfl, trivial⟩) (fun p hp => List.mem_cons_of_mem _ (List.mem_cons_of_mem _ hp)) ?_)
      exact sldX_of hDA hst hMU (by assumption) (by assumption)
    intro hH
    by_cases ci : i < ne.length
    · by_cases cj : j < na.length
      · walk_at "k_to"
        · refine w_start (w_turn ?_ (by passes_own))
          by_cases ci1 : i + 1 < ne.length
          · have hs1 := hse i ci1
            walk_at "k_to"
            · refine hN _ ?_
              dsimp only
              refine AtS.intro' (by assumption) (by assumption) (by assumption) [("expected", _), ("actual", _), ("missing", _), ("unexpected", _), ("i", _), ("j", _)] (by exact ⟨rfl, rfl, rfl, rfl, rfl, rfl, trivial⟩) ?_
              exact ⟨(i + 1, j), SldI.mk hMU (by assumption) hus (by (try dsimp only); omega) hj (by rw [List.length_append]; exact Nat.succ_le_succ hnm) hnu (hDA.lt ci cj (by assumption)), by dsimp only; omega⟩
          · walk_at "s_to"
            refine hH _ _ (SldH.mk (toC (by assumption)) (by assumption) (by assumption) (by assumption) (by exact ⟨rfl, rfl, rfl, rfl, rfl, rfl, trivial⟩) hMU (by assumption) (by assumption) (hDA.lt ci cj (by assumption)) (.inl (by omega)) (by omega) hj (by rw [List.length_append]; exact Nat.succ_le_succ hnm) hnu)
        · refine w_start (w_turn ?_ (by passes_own))
          by_cases cj1 : j + 1 < na.length
          · have hs1 := hsa j cj1
            walk_at "k_to"
            · refine hN _ ?_
              dsimp only
              refine AtS.intro' (by assumption) (by assumption) (by assumption) [("expected", _), ("actual", _), ("missing", _), ("unexpected", _), ("i", _), ("j", _)] (by exact ⟨rfl, rfl, rfl, rfl, rfl, rfl, trivial⟩) ?_
              exact ⟨(i, j + 1), SldI.mk hMU hms (by assumption) hi (by (try dsimp only); omega) hnm (by rw [List.length_append]; exact Nat.succ_le_succ hnu) (hDA.gt ci cj (by assumption)), by dsimp only; omega⟩
          · walk_at "s_to"
            refine hH _ _ (SldH.mk (toC (by assumption)) (by assumption) (by assumption) (by assumption) (by exact ⟨rfl, rfl, rfl, rfl, rfl, rfl, trivial⟩) hMU (by assumption) (by assumption) (hDA.gt ci cj (by assumption)) (.inr (by omega)) hi (by omega) hnm (by rw [List.length_append]; exact Nat.succ_le_succ hnu))
        · refine w_start (w_turn ?_ (by passes_own))
          by_cases ci1 : i + 1 < ne.length
          · have hs1 := hse i ci1
            walk_at "k_to"
            · refine w_start (w_turn ?_ (by passes_own))
              by_cases cj1 : j + 1 < na.length
              · have hs2 := hsa j cj1
                walk_at "k_to"
                · refine hN _ ?_
                  dsimp only
                  refine AtS.intro' (by assumption) (by assumption) (by assumption) [("expected", _), ("actual", _), ("missing", _), ("unexpected", _), ("i", _), ("j", _)] (by exact ⟨rfl, rfl, rfl, rfl, rfl, rfl, trivial⟩) ?_
                  exact ⟨(i + 1, j + 1), SldI.mk hMU hms hus (by (try dsimp only); omega) (by (try dsimp only); omega) (by (try dsimp only); omega) (by (try dsimp only); omega) (hDA.eq ci cj (by assumption) (by assumption)), by dsimp only; omega⟩
              · walk_at "s_to"
                refine hH _ _ (SldH.mk (toC (by assumption)) (by assumption) (by assumption) (by assumption) (by exact ⟨rfl, rfl, rfl, rfl, rfl, rfl, trivial⟩) hMU (by assumption) (by assumption) (hDA.eq ci cj (by assumption) (by assumption)) (.inr (by omega)) (by omega) (by omega) (by omega) (by omega))
          · walk_at "k_to"
            rename Heap.NewExc _ _ _ _ => hx9
            rename BaseOk _ _ _ _ _ => hB9
            rename Gr _ _ _ _ _ _ _ _ _ => G9
            rename Fr _ _ _ _ => F9
            rename News _ _ _ _ => N9
            rename KtsDicts _ _ => D9
            rename Below _ _ _ _ => B9
            refine fin_here B9 (toC hx9) F9 N9 hB9.inn hB9.top D9 ?_
            intro h3 g3 Te oe oT T3 F3 N3 O3 off3 hTe3 B3 X3 P3 D3
            have G3 := G9.trans (Gr.mk T3 B3 X3 P3 D3)
            clear G9 F9 N9 D9 B9 hx9 T3
            walk_at "k_to"
            refine w_start (w_turn ?_ (by passes_own))
            by_cases cj1 : j + 1 < na.length
            · have hs2 := hsa j cj1
              walk_at "k_to"
              · rename Fr _ _ _ _ => F4
                rename News _ _ _ _ => N4
                refine caught_again (X := "IndexError") (T' := "IndexError") F4 N4 O3 hTe3 (fun q hq => (off3 q hq).2) X3 P3 (by k_is) PyProof.Rows.Boot.«IndexError» (by decide) PySem.F.isExc_IndexError PySem.F.notTuple_IndexError (by kts_sub) ?_
                intro h5 oT5 F5 N5
                replace N5 := news_sub N5 (fun q hq => List.mem_cons_of_mem _ (List.mem_cons_of_mem _ hq))
                clear F4 N4 O3
                walk_at "k_to"
                (refine hB _ (hC _ ?_); (try dsimp only); refine AtS.intro (by assumption) (by assumption) (by assumption) [("missing", _), ("unexpected", _)] [(_, _), (_, _), (_, _), (_, _)] (by exact ⟨rfl, rfl, trivial⟩) (fun p hp => List.mem_cons_of_mem _ (List.mem_cons_of_mem _ hp)) ?_)
                exact sldX_of (hDA.eq ci cj (by assumption) (by assumption)) (.inl (by omega)) hMU (by assumption) (by assumption)
            · repeat' (first | (walk_at "no_loop"; (fail_if_success (with_reducible show wpAny _ _ (subscriptTail _ _ (Value.ref _) (Value.int _ _)) _ _ _)); first | (k_unfold; (try dsimp only)) | walk1) | (dsimp only; walk_at "no_loop"; (fail_if_success (with_reducible show wpAny _ _ (subscriptTail _ _ (Value.ref _) (Value.int _ _)) _ _ _)); walk1) | fail "no step")
              rename Fr _ _ _ _ => F4
              rename News _ _ _ _ => N4
              refine item_outH (k := j + 1) (n := ka) rfl O3 N4 (by k_mem) (by k_mem) ha (by omega) (by omega) ?_ (by with_unfolding_all rfl)
              intro h5 tk5 e5 hx5
              refine (show PassesOwnAt _ _ _ _ _ by passes_own) _ _ ?_
              dsimp only
              have N6 := news_sub N4 (news := [(U, W.listOf (List.toArray us) ku), (M, W.listOf (List.toArray ms) km), (e, W.listOf (List.toArray es) ke), (a, W.listOf (List.toArray as) ka)]) (fun q hq => List.mem_cons_of_mem _ (List.mem_cons_of_mem _ hq))
              refine hH _ _ (SldH.mk hx5 F4 N6 G3 (by exact ⟨rfl, rfl, rfl, rfl, rfl, rfl, trivial⟩) hMU (by assumption) (by assumption) (hDA.eq ci cj (by assumption) (by assumption)) (.inl (by omega)) (by omega) (by omega) (by omega) (by omega))
      · walk_at "s_to"
        refine hH _ _ (SldH.mk (toC (by assumption)) (by assumption) (by assumption) (by assumption) (by exact ⟨rfl, rfl, rfl, rfl, rfl, rfl, trivial⟩) hMU (by assumption) (by assumption) hDA (.inr (by omega)) hi hj hnm hnu)
    · walk_at "s_to"
      refine hH _ _ (SldH.mk (toC (by assumption)) (by assumption) (by assumption) (by assumption) (by exact ⟨rfl, rfl, rfl, rfl, rfl, rfl, trivial⟩) hMU (by assumption) (by assumption) hDA (.inl (by omega)) hi hj hnm hnu)
  · clear F0 N0 B0 X0 T0 D0
    rintro g ps₁ u news₁ h tk ⟨M, U, ms, us, km, ku, rfl, hMU, rfl, hm, hu⟩ G1 B1 X1 T1 D1 F1 N1
    dsimp only [kstB] at F1
    walk_at "k_to"
    walk_at "c_doneS"
    exact ⟨_, M, U, ms, us, km, ku, rfl, rfl, ⟨by omega, by omega, by omega, by omega⟩, hm, hu⟩
theorem all (p : Dat) : ok p := drink _ ok (by with_unfolding_all exact core) p
end S_sld_con
theorem sld_con (w : World) (mean) (mg mb) (e a : Addr) (es as : List Value) (ne na : List Int) (ke ka : Nat) (he : IntsAre es ne) (ha : IntsAre as na) (hse : ∀ i : Nat, i + 1 < ne.length → ne.getD (i : Int).toNat 0 < ne.getD ((i : Int) + 1).toNat 0) (hsa : ∀ i : Nat, i + 1 < na.length → na.getD (i : Int).toNat 0 < na.getD ((i : Int) + 1).toNat 0) (hle : ne.length ≤ 10) (hla : na.length ≤ 10) : ConS w mean mg mb 440 1900 162 [.ref e, .ref a] [(e, W.listOf (List.toArray es) ke), (a, W.listOf (List.toArray as) ka)] (fun r news' => ∃ T M U ms us km ku, r = .ref T ∧ news' = [(T, ({ cls := .type "tuple", data := .seq #[.ref M, .ref U] } : Obj)), (U, W.listOf (List.toArray us) ku), (M, W.listOf (List.toArray ms) km), (e, W.listOf (List.toArray es) ke), (a, W.listOf (List.toArray as) ka)] ∧ (@LT.lt Nat _ U T ∧ @LT.lt Nat _ M U ∧ @LT.lt Nat _ e M ∧ @LT.lt Nat _ a M) ∧ IntsAre ms (sldF ne na).1 ∧ IntsAre us (sldF ne na).2) :=
  fun gdₛ cnₛ csₛ Lₛ aₛ ccdₛ clₛ outerₛ A₀ₛ baseₛ h₀ₛ mₛ sₛ RRₛ => S_sld_con.all (w, mean, mg, mb, e, a, es, as, ne, na, ke, ka, gdₛ, cnₛ, csₛ, Lₛ, aₛ, ccdₛ, clₛ, outerₛ, A₀ₛ, baseₛ, h₀ₛ, mₛ, sₛ, RRₛ) he ha hse hsa hle hla
theorem at_UseSld : True := by
  w_top off
  exact trivial
structure Ris (ns : List Int) : Prop where
  up : ∀ i : Nat, i + 1 < ns.length → ns.getD (i : Int).toNat 0 < ns.getD ((i : Int) + 1).toNat 0
  short : ns.length ≤ 10
theorem use_sld {w : World} {mean : ExcName → Option Value} {mg mb : Str → Option Value} {all rest : List (Addr × Obj)} {e a : Addr} {es as : List Value} {ne na : List Int} {ke ka : Nat}
    {A A₀ : Around} {cn : Str} {cs : Scope} {L f : Addr} {ccd : Value} {cl : List (Str × Addr)} {outer : List Env} {base h₀ : Heap} {m : Str → Option Value} {s : Shared} {Q E : Value → Shared → Prop}
    (B : Below A₀ base outer h₀) (F : Fr h₀ L s.heap m) (X : (hd.heap_1 w.params).In h₀) (N : News h₀ L s.heap all) (T : Top VW LS mean mg mb h₀) (HB : BaseOk w mean mg mb base) (D : KtsDicts (frs outer) h₀)
    (hA : A.frames = some (envX cn cs L f ccd cl :: outer)) (hk : cs.kind = .function) (hh : A.handled = none) (hd : A.depth ≤ 440) (hu : A.units ≤ 1900)
    (m1 : (e, W.listOf (List.toArray es) ke) ∈ all) (m2 : (a, W.listOf (List.toArray as) ka) ∈ all) (he : IntsAre es ne) (ha : IntsAre as na) (re : Ris ne) (ra : Ris na)
    (sub : ∀ p ∈ rest, p ∈ all) (off : ∀ p ∈ rest, p.1 ≠ e ∧ p.1 ≠ a)
    (h : ∀ t M U ms us km ku h' tk' g', Gr w mean mg mb A₀ base outer h₀ g' → Fr g' L h' m →
      News g' L h' ((t, ({ cls := .type "tuple", data := .seq #[.ref M, .ref U] } : Obj)) :: (U, W.listOf (List.toArray us) ku) :: (M, W.listOf (List.toArray ms) km) :: (e, W.listOf (List.toArray es) ke) :: (a, W.listOf (List.toArray as) ka) :: rest) →
      (@LT.lt Nat _ U t ∧ @LT.lt Nat _ M U ∧ @LT.lt Nat _ e M ∧ @LT.lt Nat _ a M) → (∀ q ∈ rest, q.1 ≠ t ∧ q.1 ≠ U ∧ q.1 ≠ M) → IntsAre ms (sldF ne na).1 → IntsAre us (sldF ne na).2 → Q (.ref t) { s with heap := h', toks := tk' }) :
    wpAny (model Challenge.rw_om0134_01.row.prog w) A (call (.ref 162) [.ref e, .ref a]) Q E s := by
  refine use_conS (rest := rest) (sld_con w mean mg mb e a es as ne na ke ka he ha re.up ra.up re.short ra.short) B F X (fun p hp => ?_) (news_sub N sub) T HB.inn HB.top D hA hk hh hd hu (fun p hp q => ?_) ?_
  · rcases List.mem_cons.mp hp with rfl | hp
    · exact N _ m1
    · rcases List.mem_cons.mp hp with rfl | hp
      · exact N _ m2
      · cases hp
  · rcases List.mem_cons.mp q with q | q
    · exact (off p hp).1 q
    · rcases List.mem_cons.mp q with q | q
      · exact (off p hp).2 q
      · cases q
  · rintro r n h' tk' g' G F' N' fresh ⟨t, M, U, ms, us, km, ku, rfl, rfl, ord, i1, i2⟩
    refine h t M U ms us km ku h' tk' g' G F' N' ord (fun q hq => ?_) i1 i2
    have key : ∀ p : Addr × Obj, p ∈ [(t, ({ cls := .type "tuple", data := .seq #[.ref M, .ref U] } : Obj)), (U, W.listOf (List.toArray us) ku), (M, W.listOf (List.toArray ms) km), (e, W.listOf (List.toArray es) ke), (a, W.listOf (List.toArray as) ka)] → @Ne Nat p.1 e → @Ne Nat p.1 a → q.1 ≠ p.1 := fun p hp h1 h2 => by
      rcases fresh p hp with z | z
      · rcases List.mem_cons.mp z with z | z
        · exact absurd z h1
        · rcases List.mem_cons.mp z with z | z
          · exact absurd z h2
          · cases z
      · exact z q hq
    exact ⟨key _ (.head _) (by dsimp only; omega) (by dsimp only; omega), key _ (.tail _ (.head _)) (by dsimp only; omega) (by dsimp only; omega), key _ (mt2 (.head _)) (by dsimp only; omega) (by dsimp only; omega)⟩
theorem at_DictLines : True := by
  w_top off
  exact trivial
theorem lines_DictLines_352 : True := by
  k_with "call builtin:dict.get" => (k_dflt (refine' kdg_get1 (knd := PySem.intKind _ _) ?Nₖ₂₅ ?mₖ₂₅ ?dₖ₂₅ ?loₖ₂₅ (intKind_is _ _ _ _) _ ?lₖ₂₅ ?_; (case Nₖ₂₅ => k_asm); (case mₖ₂₅ => k_mem); (case dₖ₂₅ => k_asm); (case loₖ₂₅ => k_asm); (case lₖ₂₅ => with_reducible assumption)); dsimp only [Option.getD])
  k_with "subscriptTail" => ((with_reducible show wpAny _ _ (subscriptTail _ _ (Value.ref _) (Value.int _ _)) _ _ _); k_dflt (refine' kda_item (knd := PySem.intKind _ _) ?Nₖ₂₆ ?mₖ₂₆ ?dₖ₂₆ (intKind_is _ _ _ _) ?lₖ₂₆ ?_ ?sₖ₂₆ ?gₖ₂₆; (case Nₖ₂₆ => k_asm); (case mₖ₂₆ => k_mem); (case dₖ₂₆ => k_asm); (case lₖ₂₆ => with_reducible assumption); (case sₖ₂₆ => with_unfolding_all rfl); (case gₖ₂₆ => intro _; with_unfolding_all rfl)))
  k_with "compareOp In int ref" => (k_dflt (refine' kda_in (knd := PySem.intKind _ _) ?Nₖ₂₇ ?mₖ₂₇ ?dₖ₂₇ ?loₖ₂₇ (intKind_is _ _ _ _) _ ?lₖ₂₇ ?_; (case Nₖ₂₇ => k_asm); (case mₖ₂₇ => k_mem); (case dₖ₂₇ => k_asm); (case loₖ₂₇ => k_asm); (case lₖ₂₇ => with_reducible assumption)))
  exact trivial
theorem at_Star : True := by
  w_top off
  exact trivial
theorem bind_star {fd : FuncData} {self : Value} {vs : List Value} {a b : Arg} (h1 : fd.params.posonlyargs = []) (h2 : fd.params.args = [a]) (h3 : fd.params.kwonlyargs = []) (h4 : fd.params.vararg = some b) (h5 : fd.params.kwarg = none) (h6 : fd.defaults = .none) :
    bindArgs fd ⟨self :: vs, []⟩ = (newTuple vs >>= fun t => pure [(a.arg, self), (b.arg, t)]) := by
  cases fd
  rename_i p _ _ _ _ _ _ _ _ _ _ _ _
  cases p
  dsimp only at h1 h2 h3 h4 h5 h6
  subst h1 h2 h3 h4 h5 h6
  have e0 : seqItems? Value.none = pure none := rfl
  simp [bindArgs, e0]
theorem peek1_push {α : Type} {K : Frag} {M : Model} {A : Around} {E : Value → Shared → Prop} {Q : α → Shared → Prop} {s : Shared} {o : Obj} {r : Addr → α} (X : K.In s.heap)
    (q : Q (r s.heap.objs.size) { s with heap := s.heap.push o }) {t : Sem α} {g : Addr → Option α} (e : peek1 K ⟨M.prog, M.w.params⟩ t = some (o, g)) (hg : ∀ D, g D = some (r D)) : wpAny M A t Q E s := by
  revert g
  induction t with
  | rule _ k ih => intro g e hg Γ p hΓ; exact ih () e hg Γ p hΓ
  | point _ k ih => intro g e hg Γ p hΓ; exact ih () e hg Γ p hΓ
  | ask k ih => intro g e hg Γ p hΓ; exact ih _ e hg Γ p hΓ
  | load a _ k ih =>
    intro g e hg Γ p hΓ
    simp only [peek1] at e
    cases hq : K.lookup a with
    | none => rw [hq] at e; cases e
    | some ob => rw [hq] at e; exact ⟨ob, X _ _ hq, ih ob e hg Γ p hΓ⟩
  | alloc ob k _ =>
    intro g e hg
    injection (show some (ob, fun D => peek K ⟨M.prog, M.w.params⟩ (k D)) = some (o, g) from e) with e
    injection e with e1 e2
    subst e1
    subst e2
    have X' : K.In (s.heap.push ob) := X.keeps fun b x hb => Heap.get?_push_of_some _ hb
    show wpAny M A (alloc ob >>= k) Q E s
    refine wpAny_bind (wpAny_alloc ?_)
    exact (Looks.of_peek (M := M) (h := s.heap.push ob) X' (hg s.heap.objs.size)).here (s := { s with heap := s.heap.push ob }) q
  | _ => intro g e; cases e
section
variable {prog : Program} {w : World} {A A₀ : Around} {s : Shared} {K : Frag} {L : Addr} {h₀ base : Heap} {m mg mb : Str → Option Value} {news : List (Addr × Obj)} {p : Program} {loose : List Str} {mean : ExcName → Option Value}
theorem enter_defR {env : Env} {outer : List Env} {RR : Result → Shared → Prop} {name qual : Str} {params : Arguments} {body : List Stmt} {scope : Scope} {dV kV doc pm cdv ct oc : Value} {an od : Option Addr} {osl : Array (Option Value)} {f : Addr} {args : Args} {vs : List Value} {binds : Addr → List (Str × Value)}
    (B : Below A₀ base outer h₀) (F : Fr h₀ L s.heap m) (X₀ : K.In h₀) (N : News h₀ L s.heap news) (T : Top p loose mean mg mb h₀) (hA : A.frames = some (env :: outer)) (hf : env.frame = some L) (hke : env.scope.kind = .function)
    (ho : K.lookup f = some ⟨oc, od, .func (fnOf name qual params body scope dV kV doc pm an cdv ct), osl⟩) (hcd : codeIn K cdv qual = true) (hroom : A.depth < recursionLimit)
    (hv : args.pos.drop (params.posonlyargs.length + params.args.length) = vs)
    (hb : ∀ {A' : Around} {E : Value → Shared → Prop} {Q : List (Str × Value) → Shared → Prop}, Q (binds s.heap.objs.size) { s with heap := s.heap.push ({ cls := .type "tuple", data := .seq vs.toArray } : Obj) } → wpAny (model prog w) A' (bindArgs (fnOf name qual params body scope dV kV doc pm an cdv ct) args) Q E s)
    (hloc : ∀ D, ∀ y ∈ binds D, scope.names.lookup y.1 = some .local)
    (hco : scope.isCoroutine = false) (hgen : scope.isGenerator = false) (hk : scope.kind = .function) (hcell : ∀ x ∈ scope.names, x.2 ≠ .cell)
    (h : ∀ D g L' h₁ tk', (∀ p ∈ news, p.1 < D) → Fr h₀ L g m → Fr g L' h₁ (fun y => (binds D).reverse.lookup y) → News g L' h₁ ((D, ({ cls := .type "tuple", data := .seq vs.toArray } : Obj)) :: news) → Below A base (env :: outer) g → K.In g → Top p loose mean mg mb g → (∀ p ∈ news, p.1 < L') →
      (∀ b o, s.heap.get? b = some o → b ∉ news.map (·.1) → g.get? b = some o) →
      wpAny (model prog w) (A.deeper (envOf qual scope L' f cdv)) (execs body (envOf qual scope L' f cdv))
        (fun fl s' => LeaveK h₀ L m g RR (match fl with | .ret v => v | _ => .none) s')
        (fun e s' => wpAny (model prog w) (A.deeper (envOf qual scope L' f cdv)) (leaving (envOf qual scope L' f cdv) e) (fun _ s'' => RR (.error e) s'') (fun e' s'' => RR (.error e') s'') s')
        { s with heap := h₁, toks := tk' }) : codeAny (model prog w) A (.call (.ref f) args) RR s := by
  have _ := hv
  refine codeAny_call_function (fd := fnOf name qual params body scope dV kV doc pm an cdv ct) (body := body) hroom ((X₀.keeps F.keep) _ _ ho) rfl hco hgen rfl (codeRec_of (X₀.keeps F.keep) hcd) ?_
  have lt : ∀ p ∈ news, p.1 < s.heap.objs.size := fun p hp => Heap.lt_size (N p hp).1
  have F₁ := F.push (({ cls := .type "tuple", data := .seq vs.toArray } : Obj))
  have N₁ := News.push F N (({ cls := .type "tuple", data := .seq vs.toArray } : Obj)) rfl
  refine hb ?_
  obtain ⟨FG, BG, st, lv⟩ := groundX (R := RR) (s := { s with heap := s.heap.push ({ cls := .type "tuple", data := .seq vs.toArray } : Obj) }) B F₁ N₁ hA hf hke
  refine wpAny_newFunctionEnv hcell (hloc _) (fun h₁ hns hsb => ⟨((T.nolimit.keeps F.keep).keeps fun b o e => Heap.get?_push_of_some _ e).fresh _ hsb, codeAny_func ?_⟩) hk
  have hk₁ : ∀ b o, (s.heap.push ({ cls := .type "tuple", data := .seq vs.toArray } : Obj)).get? b = some o → h₁.get? b = some o := fun b o e => hsb.extBut b o (Nat.ne_of_lt (Heap.lt_size e)) (Heap.get?_push_of_some _ e)
  exact wpAny_mono (h s.heap.objs.size _ _ h₁ _ lt FG ⟨hns, fun b o e => hk₁ b o (of_hideAll _ e), Nat.le_of_eq (hideAll_size _ _)⟩
    (fun p hp => ⟨hk₁ _ _ (N₁ p hp).1, Nat.ne_of_lt (Heap.lt_size (N₁ p hp).1), hideAll_none _ (List.mem_map_of_mem hp)⟩) BG (X₀.keeps st) (T.keeps st)
    (fun p hp => by show p.1 < (s.heap.push _).objs.size; rw [Heap.size_push]; exact Nat.lt_succ_of_lt (lt p hp))
    (fun b o e n => hideAll_get _ (Heap.get?_push_of_some _ e) fun q => (List.mem_cons.mp q).elim (fun q => absurd (Heap.lt_size e) (by rw [q]; exact Nat.lt_irrefl _)) n))
    (fun fl s' hl => lv _ _ hl) fun _ _ y => y
end
theorem bind_lit {prog : Program} {w : World} {K : Frag} {h₀ : Heap} {L : Addr} {m : Str → Option Value} {s : Shared} {o : Obj} {fd : FuncData} {args : Args} {g₁ : Addr → Option (List (Str × Value))} {binds : Addr → List (Str × Value)} (F : Fr h₀ L s.heap m) (X₀ : K.In h₀)
    (hp : peek1 K ⟨prog, w.params⟩ (bindArgs fd args) = some (o, g₁)) (hg : ∀ D, g₁ D = some (binds D)) {A' : Around} {E : Value → Shared → Prop} {Q : List (Str × Value) → Shared → Prop} (q : Q (binds s.heap.objs.size) { s with heap := s.heap.push o }) : wpAny (model prog w) A' (bindArgs fd args) Q E s :=
  peek1_push (X₀.keeps F.keep) (r := binds) q hp hg
theorem bind_sym {M : Model} {s : Shared} {fd : FuncData} {self : Value} {vs : List Value} {a b : Arg} (h1 : fd.params.posonlyargs = []) (h2 : fd.params.args = [a]) (h3 : fd.params.kwonlyargs = []) (h4 : fd.params.vararg = some b) (h5 : fd.params.kwarg = none) (h6 : fd.defaults = .none) (hz : vs.length ≤ 1000)
    {A' : Around} {E : Value → Shared → Prop} {Q : List (Str × Value) → Shared → Prop} (q : Q [(a.arg, self), (b.arg, .ref s.heap.objs.size)] { s with heap := s.heap.push ({ cls := .type "tuple", data := .seq vs.toArray } : Obj) }) : wpAny M A' (bindArgs fd ⟨self :: vs, []⟩) Q E s := by
  rw [bind_star h1 h2 h3 h4 h5 h6]
  have hsz : sizeLine = 16777216 := rfl
  exact wpAny_bind (wpAny_newObj_type (wpAny_pure q) (by show vs.toArray.size ≤ sizeLine; rw [List.size_toArray]; omega))
section
variable {prog : Program} {w : World} {A A₀ : Around} {s : Shared} {K : Frag} {L : Addr} {h₀ base : Heap} {m mg mb : Str → Option Value} {news : List (Addr × Obj)} {p : Program} {loose : List Str} {mean : ExcName → Option Value}
theorem enter_defV {env : Env} {outer : List Env} {RR : Result → Shared → Prop} {name qual : Str} {params : Arguments} {body : List Stmt} {scope : Scope} {kV doc pm cdv ct oc : Value} {an od : Option Addr} {osl : Array (Option Value)} {f : Addr} {self : Value} {vs : List Value} {pa pb : Arg}
    (B : Below A₀ base outer h₀) (F : Fr h₀ L s.heap m) (X₀ : K.In h₀) (N : News h₀ L s.heap news) (T : Top p loose mean mg mb h₀) (hA : A.frames = some (env :: outer)) (hf : env.frame = some L) (hke : env.scope.kind = .function)
    (ho : K.lookup f = some ⟨oc, od, .func (fnOf name qual params body scope .none kV doc pm an cdv ct), osl⟩) (hcd : codeIn K cdv qual = true) (hroom : A.depth < recursionLimit)
    (h1 : params.posonlyargs = []) (h2 : params.args = [pa]) (h3 : params.kwonlyargs = []) (h4 : params.vararg = some pb) (h5 : params.kwarg = none) (hz : vs.length ≤ 1000) (hloc : (∀ D : Addr, ∀ y ∈ [(pa.arg, self), (pb.arg, Value.ref D)], scope.names.lookup y.1 = some .local))
    (hco : scope.isCoroutine = false) (hgen : scope.isGenerator = false) (hk : scope.kind = .function) (hcell : ∀ x ∈ scope.names, x.2 ≠ .cell)
    (h : ∀ D g L' h₁ tk', (∀ p ∈ news, p.1 < D) → Fr h₀ L g m → Fr g L' h₁ (fun y => [(pa.arg, self), (pb.arg, Value.ref D)].reverse.lookup y) → News g L' h₁ ((D, ({ cls := .type "tuple", data := .seq vs.toArray } : Obj)) :: news) → Below A base (env :: outer) g → K.In g → Top p loose mean mg mb g → (∀ p ∈ news, p.1 < L') →
      (∀ b o, s.heap.get? b = some o → b ∉ news.map (·.1) → g.get? b = some o) →
      wpAny (model prog w) (A.deeper (envOf qual scope L' f cdv)) (execs body (envOf qual scope L' f cdv))
        (fun fl s' => LeaveK h₀ L m g RR (match fl with | .ret v => v | _ => .none) s')
        (fun e s' => wpAny (model prog w) (A.deeper (envOf qual scope L' f cdv)) (leaving (envOf qual scope L' f cdv) e) (fun _ s'' => RR (.error e) s'') (fun e' s'' => RR (.error e') s'') s')
        { s with heap := h₁, toks := tk' }) : codeAny (model prog w) A (.call (.ref f) ⟨self :: vs, []⟩) RR s :=
  enter_defR (vs := vs) (binds := fun D => [(pa.arg, self), (pb.arg, Value.ref D)]) B F X₀ N T hA hf hke ho hcd hroom (by rw [h1, h2]; rfl) (fun q => bind_sym h1 h2 h3 h4 h5 rfl hz q) hloc hco hgen hk hcell h
end
theorem lines_Star_367 : True := by
  k_with "c_enterR" => (refine' enter_defR ?k1ₖ₂₈ ?k2ₖ₂₈ ?k3ₖ₂₈ ?k4ₖ₂₈ ?k5ₖ₂₈ ?kAₖ₂₈ ?kFₖ₂₈ ?kKₖ₂₈ ?k6ₖ₂₈ ?k7ₖ₂₈ ?k8ₖ₂₈ ?kVₖ₂₈ ?kPₖ₂₈ ?kBₖ₂₈ ?c2ₖ₂₈ ?c3ₖ₂₈ ?c4ₖ₂₈ ?c5ₖ₂₈ ?_; (case kAₖ₂₈ => exact rfl); (case kFₖ₂₈ => exact rfl); (case kKₖ₂₈ => assumption); (case k1ₖ₂₈ => k_asm); (case k2ₖ₂₈ => k_asm); (case k3ₖ₂₈ => k_asm); (case k4ₖ₂₈ => k_asm); (case k5ₖ₂₈ => k_asm); (case k6ₖ₂₈ => k_is); (case k7ₖ₂₈ => k_is); (case k8ₖ₂₈ => exact Nat.le_of_ble_eq_true rfl); (case kVₖ₂₈ => kl_lit); (case kPₖ₂₈ => exact bind_lit (by k_asm) (by k_asm) rfl (fun _ => rfl)); (case kBₖ₂₈ => exact fun _ => locs rfl); (case c5ₖ₂₈ => decide); (case c2ₖ₂₈ => exact rfl); (case c3ₖ₂₈ => exact rfl); (case c4ₖ₂₈ => exact rfl); k_whole; intro D'ₖ g'ₖ L'ₖ h'ₖ tk'ₖ l1ₖ FG'ₖ F'ₖ N'ₖ B'ₖ X'ₖ T'ₖ hlt'ₖ hg'ₖ; (try k_lt l1ₖ); (try dsimp only); (try k_fold))
  k_with "c_enterV" => (refine' enter_defV ?k1ₖ₂₉ ?k2ₖ₂₉ ?k3ₖ₂₉ ?k4ₖ₂₉ ?k5ₖ₂₉ ?kAₖ₂₉ ?kFₖ₂₉ ?kKₖ₂₉ ?k6ₖ₂₉ ?k7ₖ₂₉ ?k8ₖ₂₉ ?h1ₖ₂₉ ?h2ₖ₂₉ ?h3ₖ₂₉ ?h4ₖ₂₉ ?h5ₖ₂₉ ?hzₖ₂₉ ?kBₖ₂₉ ?c2ₖ₂₉ ?c3ₖ₂₉ ?c4ₖ₂₉ ?c5ₖ₂₉ ?_; (case kAₖ₂₉ => exact rfl); (case kFₖ₂₉ => exact rfl); (case kKₖ₂₉ => assumption); (case k1ₖ₂₉ => k_asm); (case k2ₖ₂₉ => k_asm); (case k3ₖ₂₉ => k_asm); (case k4ₖ₂₉ => k_asm); (case k5ₖ₂₉ => k_asm); (case k6ₖ₂₉ => k_is); (case k7ₖ₂₉ => k_is); (case k8ₖ₂₉ => exact Nat.le_of_ble_eq_true rfl); (case h1ₖ₂₉ => exact rfl); (case h2ₖ₂₉ => exact rfl); (case h3ₖ₂₉ => exact rfl); (case h4ₖ₂₉ => exact rfl); (case h5ₖ₂₉ => exact rfl); (case hzₖ₂₉ => first | omega | ((have hl9ₖ := IntsAre.length (by with_reducible assumption)); omega)); (case kBₖ₂₉ => exact fun _ => locs rfl); (case c5ₖ₂₉ => decide); (case c2ₖ₂₉ => exact rfl); (case c3ₖ₂₉ => exact rfl); (case c4ₖ₂₉ => exact rfl); k_whole; intro D'ₖ g'ₖ L'ₖ h'ₖ tk'ₖ l1ₖ FG'ₖ F'ₖ N'ₖ B'ₖ X'ₖ T'ₖ hlt'ₖ hg'ₖ; (try k_lt l1ₖ); (try dsimp only); (try k_fold))
  k_with "c_startR" => ((first | (unfold Con; intro gdₖ cnₖ csₖ Lₖ aₖ ccdₖ clₖ outerₖ A₀ₖ baseₖ h₀ₖ mₖ sₖ RRₖ Bₖ Fₖ Xₖ Nₖ Tₖ hkₖ hretₖ) | (unfold ConB; intro Bₖ Fₖ Xₖ Nₖ Tₖ hkₖ hretₖ)); revert Xₖ; k_fill; intro Xₖ; k_dflt walk_at "c_enterR")
  k_with "c_startV" => ((first | (unfold Con; intro gdₖ cnₖ csₖ Lₖ aₖ ccdₖ clₖ outerₖ A₀ₖ baseₖ h₀ₖ mₖ sₖ RRₖ Bₖ Fₖ Xₖ Nₖ Tₖ hkₖ hretₖ) | (unfold ConB; intro Bₖ Fₖ Xₖ Nₖ Tₖ hkₖ hretₖ)); revert Xₖ; k_fill; intro Xₖ; k_dflt walk_at "c_enterV")
  k_with "k_run" => repeat' (first | (k_unfold; (try dsimp only)) | walk1 | (dsimp only; walk1) | fail "no step")
  exact trivial
theorem news_tl {g h : Heap} {L : Addr} {p : Addr × Obj} {news : List (Addr × Obj)} (N : News g L h (p :: news)) : News g L h news := fun q hq => N q (List.mem_cons_of_mem _ hq)
theorem lines_Star_369 : True := by
  k_with "c_doneT" => ((rename (∀ _ _ _ _, Left _ _ _ _ → _) => hret9ₖ); (rename (∀ _ _, _ → ¬ _ ∈ List.map _ _ → _) => hg9ₖ); k_dflt (refine' hret9ₖ _ _ _ _ (left_of ?F9ₖ₃₃ (news_tl ?N9ₖ₃₃) hg9ₖ) ?_; (case F9ₖ₃₃ => assumption); (case N9ₖ₃₃ => assumption)))
  exact trivial
theorem at_CompVals : True := by
  w_top off
  exact trivial
section
open LCg LCt
noncomputable def SrcV (prog : Program) (w : World) (A : Around) (h₀ : Heap) (L : Addr) (m : Str → Option Value) (env : Env) (ct elt : PySem.Expr) (x : Str) (scope : Scope) (cl : List (Str × Addr)) (Q : Value → Shared → Prop) (d : Addr) (od : Obj) (kvs : List (Int × Value)) (xv : Value) (s₁ : Shared) : Prop :=
  ∃ vw news, xv = .ref vw ∧ A.handled = none ∧ Fr h₀ L s₁.heap m ∧ News h₀ L s₁.heap news ∧ s₁.heap.IsValuesView vw d ∧ (d, od) ∈ news ∧
      ∀ s₂ : Shared, (∃ h, s₂ = { s₁ with heap := h }) → CompRestT prog w A h₀ L m env ct elt x scope cl s₂ (fun nw => (d, od) ∈ nw) (fun i v => ∃ k, kvs[i]? = some (k, v)) (FinE h₀ L m s₂ Q) kvs.length 0 [] news
theorem SrcV.intro {prog : Program} {w : World} {A : Around} {h₀ : Heap} {L : Addr} {m : Str → Option Value} {env : Env} {ct elt : PySem.Expr} {x : Str} {scope : Scope} {cl : List (Str × Addr)} {Q : Value → Shared → Prop} {d : Addr} {od : Obj} {kvs : List (Int × Value)} {s₁ : Shared} {vw : Addr} {news : List (Addr × Obj)}
    (hh : A.handled = none) (F : Fr h₀ L s₁.heap m) (N : News h₀ L s₁.heap news) (hv : s₁.heap.IsValuesView vw d) (hm : (d, od) ∈ news)
    (R : ∀ g, CompRestT prog w A h₀ L m env ct elt x scope cl { s₁ with heap := g } (fun nw => (d, od) ∈ nw) (fun i v => ∃ k, kvs[i]? = some (k, v)) (FinE h₀ L m { s₁ with heap := g } Q) kvs.length 0 [] news) :
    SrcV prog w A h₀ L m env ct elt x scope cl Q d od kvs (.ref vw) s₁ := ⟨vw, news, rfl, hh, F, N, hv, hm, fun _ ⟨g, e⟩ => e ▸ R g⟩
section
variable {prog : Program} {w : World} {A : Around} {E : Value → Shared → Prop} {s : Shared} {h₀ : Heap} {L : Addr} {m : Str → Option Value} {env : Env}
theorem ListComp_TV {ct elt iter : PySem.Expr} {x : Str} {px : Pos} {scope : Scope} {cl : List (Str × Addr)} {pos : Pos} {Q : Value → Shared → Prop} {d : Addr} {od : Obj} {kvs : List (Int × Value)} (F₀ : Fr h₀ L s.heap m)
    (hod : Obj.IsDictOf (intKind prog w) od kvs) (hsz : kvs.length ≤ sizeLine)
    (hclos : closureFor scope env = pure cl) (hcell : ∀ y ∈ scope.names, y.2 ≠ .cell) (hkind : scope.kind = .function)
    (hnames : ∀ y ∈ scope.names, y.2 = .local → scope.names.lookup y.1 = some .local) (hx : scope.names.lookup x = some .local)
    (h : wpAny (model prog w) A (eval iter env) (SrcV prog w A h₀ L m env ct elt x scope cl Q d od kvs) E s)
    (hs : ∀ x, foldedSetIterable iter env x = pure x := by intro _; rfl) :
    wpAny (model prog w) A (eval (.ListComp elt [⟨.Name x px, iter, [ct], 0⟩] scope pos) env) Q E s := by
  rw [eval_ListComp]
  refine wpAny_comprehension_free (use := none) rfl hs hclos hkind hnames (wpAny_mono h (fun xv s₁ h₁ => ?_) fun _ _ e => e)
  obtain ⟨vw, news, rfl, hh, F, N, hv, hm, R⟩ := h₁
  have hax := N _ hm
  obtain ⟨ep, hat⟩ := (kda_dict N hm hod).dictAt
  have hlt : d < s₁.heap.objs.size := hat.lt_size
  have hne : d ≠ s₁.heap.objs.size := Nat.ne_of_lt hlt
  refine wpAny_pyIter_values hv hat ?_
  refine block_T (S := fun nw => (d, od) ∈ nw) (Walks.dictValues (knd := intKind prog w) hh s₁.heap.objs.size d hne kvs ep) hsz (fun i h st => by obtain ⟨o, e, _⟩ := st.1; exact ⟨o, e⟩) (fun i h h' o nw st e e' hk N' hS => ?_) hcell hkind hx ⟨⟨_, Heap.get?_push_size _ rfl, rfl, rfl⟩, hat.push _⟩ (fun b hb => ?_)
    (F.keeps fun _ _ e => Heap.get?_push_of_some _ e) (N.grown fun _ _ e => Heap.get?_push_of_some _ e) (Nat.ne_of_lt F.ns.lt) (next_is_new F) (fun p hp => Nat.ne_of_lt (Heap.lt_size (N p hp).1)) hm (R _ ⟨_, rfl⟩) ?_
  · refine ⟨st.1.at fun o' q => ?_, ?_⟩
    · rw [e] at q; cases q; exact e'
    · obtain ⟨o₁, es, ho₁, r⟩ := hat
      have : o₁ = od := by rw [hax.1] at ho₁; exact (Option.some.inj ho₁).symm
      subst this
      exact ⟨o₁, es, (N' _ hS).1, r⟩
  · show b < (s₁.heap.push _).objs.size
    rw [Heap.size_push]
    rcases List.mem_cons.mp hb with rfl | hb
    · exact Nat.lt_succ_self _
    · rw [List.mem_singleton.mp hb]; exact Nat.lt_succ_of_lt hlt
  · intro D C h tk m' ys news' F' N' o1 hn hC₀ hD₀ hCL hDL hCD offC fin
    refine ⟨m', hn, fun h'' hs'' => fin D h'' tk (F'.change hs'' hCL hC₀) (fun p hp => ?_) o1⟩
    refine ⟨hs''.extBut _ _ ?_ (N' p hp).1, (N' p hp).2⟩
    rcases List.mem_cons.mp hp with rfl | hp
    · exact Ne.symm hCD
    · exact offC p hp
theorem filt_rest {ct elt : PySem.Expr} {x : Str} {scope : Scope} {cl : List (Str × Addr)} {S : List (Addr × Obj) → Prop} {P : Nat → Value → Prop} {Fin : List Value → List (Addr × Obj) → Prop} {news : List (Addr × Obj)} {n : Nat} (p : Nat → Bool) (e : Nat → Int)
    (turn : ∀ i v I oI C oC D m₂ ys h tk (E' : Value → Shared → Prop), i < n → P i v → NsObj oC m₂ → m₂ x = some v → Fr h₀ L h m → News h₀ L h ((I, oI) :: (C, oC) :: (D, lst ys) :: news) → Off3 I C D news → ((@Ne Nat I C) ∧ (@Ne Nat I D) ∧ (@Ne Nat C D)) →
      wpAny (model prog w) A (isTrue ct (compEnvC scope cl C env) (eval ct (compEnvC scope cl C env))) (fun ok s' => if ok = true then
        wpAny (model prog w) A (eval elt (compEnvC scope cl C env)) (CompEnd h₀ L m { s with heap := h, toks := tk } I oI C oC D (lst ys) S (fun y news' => news' = news ∧ p i = true ∧ ∃ t, y = .int (e i) t)) E' s'
        else CompEnd h₀ L m { s with heap := h, toks := tk } I oI C oC D (lst ys) S (fun _ news' => news' = news ∧ p i = false) Value.none s') E' { s with heap := h, toks := tk })
    (fin : ∀ ys, IntsAre ys (((List.range n).filter p).map e) → ys.length ≤ n → Fin ys news) : CompRestT prog w A h₀ L m env ct elt x scope cl s S P Fin n 0 [] news := by
  have key : ∀ (j i : Nat) (ys : List Value), i + j = n → IntsAre ys (((List.range i).filter p).map e) → ys.length ≤ i → CompRestT prog w A h₀ L m env ct elt x scope cl s S P Fin j i ys news := by
    intro j
    induction j with
    | zero =>
      intro i ys hi hy hl
      have : i = n := by omega
      subst this
      exact CompRestT.zero (fin ys hy hl)
    | succ j ih =>
      intro i ys hi hy hl
      refine CompRestT.succ ?_
      intro v I oI C oC D m₂ h tk E' hv hC hx F N off ne
      refine wpAny_mono (turn i v I oI C oC D m₂ ys h tk E' (by omega) hv hC hx F N off ne) (fun b s₂ hq => ?_) fun _ _ e => e
      cases b with
      | true =>
        simp only [if_true] at hq ⊢
        refine wpAny_mono hq (fun y s₃ hr => ?_) fun _ _ e => e
        obtain ⟨h', tk', nw, e1, F', N', off', hS, hn, hp, t, hy'⟩ := hr
        subst hn hy'
        refine ⟨h', tk', _, e1, F', N', off', hS, ih (i + 1) _ (by omega) ?_ (by rw [List.length_append]; simp; omega)⟩
        rw [List.range_succ, List.filter_append, List.map_append]
        simp only [List.filter_cons, hp, if_true, List.filter_nil, List.map_cons, List.map_nil]
        exact intsAre_append hy (IntsAre.cons _ _ IntsAre.nil)
      | false =>
        simp only [Bool.false_eq_true, if_false] at hq ⊢
        obtain ⟨h', tk', nw, e1, F', N', off', hS, hn, hp⟩ := hq
        subst hn
        refine ⟨h', tk', _, e1, F', N', off', hS, ih (i + 1) _ (by omega) ?_ (by omega)⟩
        rw [List.range_succ, List.filter_append, List.map_append]
        simp only [List.filter_cons, hp, Bool.false_eq_true, if_false, List.filter_nil, List.map_nil, List.append_nil]
        exact hy
  exact key n 0 [] (by omega) IntsAre.nil (Nat.le_refl _)
end
theorem lines_CompVals_381 : True := by
  k_with "k_comp" => repeat' (first | ((fail_if_success (with_reducible show LCg.CompEnd _ _ _ _ _ _ _ _ _ _ _ _ _ _)); first | (k_unfold; (try dsimp only)) | walk1) | ((fail_if_success (with_reducible show LCg.CompEnd _ _ _ _ _ _ _ _ _ _ _ _ _ _)); dsimp only; walk1) | fail "no step")
  k_with "k_srcV" => repeat' (first | ((fail_if_success (with_reducible refine SrcV.intro ?_ ?_ ?_ ?_ ?_ ?_)); first | (k_unfold; (try dsimp only)) | walk1) | fail "no step")
  exact trivial
end
theorem at_CompTup : True := by
  w_top off
  exact trivial
section
open LCg LCt
noncomputable def tupObj (vs : List Value) : Obj := { cls := .type "tuple", data := .seq vs.toArray }
noncomputable def SrcU (prog : Program) (w : World) (A : Around) (h₀ : Heap) (L : Addr) (m : Str → Option Value) (env : Env) (ct elt : PySem.Expr) (x y : Str) (scope : Scope) (cl : List (Str × Addr)) (Q : Flow → Shared → Prop) (vs : List Value) (xv : Value) (s₁ : Shared) : Prop :=
  ∃ d news, xv = .ref d ∧ A.handled = none ∧ Fr h₀ L s₁.heap m ∧ News h₀ L s₁.heap news ∧ (d, tupObj vs) ∈ news ∧
      ∀ s₂ : Shared, (∃ h, s₂ = { s₁ with heap := h }) → CompRestT prog w A h₀ L m env ct elt x scope cl s₂ (fun nw => (d, tupObj vs) ∈ nw) (fun i v => vs.toArray[i]? = some v) (FinA h₀ L m s₂ y Q) vs.toArray.size 0 [] news
theorem SrcU.intro {prog : Program} {w : World} {A : Around} {h₀ : Heap} {L : Addr} {m : Str → Option Value} {env : Env} {ct elt : PySem.Expr} {x y : Str} {scope : Scope} {cl : List (Str × Addr)} {Q : Flow → Shared → Prop} {d : Addr} {vs : List Value} {s₁ : Shared} {news : List (Addr × Obj)}
    (hh : A.handled = none) (F : Fr h₀ L s₁.heap m) (N : News h₀ L s₁.heap news) (hm : (d, tupObj vs) ∈ news)
    (R : ∀ g, CompRestT prog w A h₀ L m env ct elt x scope cl { s₁ with heap := g } (fun nw => (d, tupObj vs) ∈ nw) (fun i v => vs.toArray[i]? = some v) (FinA h₀ L m { s₁ with heap := g } y Q) vs.toArray.size 0 [] news) :
    SrcU prog w A h₀ L m env ct elt x y scope cl Q vs (.ref d) s₁ := ⟨d, news, rfl, hh, F, N, hm, fun _ ⟨g, e⟩ => e ▸ R g⟩
section
variable {prog : Program} {w : World} {A : Around} {E : Value → Shared → Prop} {s : Shared} {h₀ : Heap} {L : Addr} {m : Str → Option Value} {env : Env}
theorem Assign_ListComp_TU {ct elt iter : PySem.Expr} {x y : Str} {px py : Pos} {scope : Scope} {cl : List (Str × Addr)} {pos spos : Pos} {Q : Flow → Shared → Prop} {vs : List Value} (F₀ : Fr h₀ L s.heap m) (hLe : env.locals = L)
    (hsw : swapsWith (.ListComp elt [⟨.Name x px, iter, [ct], 0⟩] scope pos) (some (.Name y py)) spos.line env = pure true)
    (hclos : closureFor scope env = pure cl) (hcell : ∀ z ∈ scope.names, z.2 ≠ .cell) (hkind : scope.kind = .function)
    (hnames : ∀ z ∈ scope.names, z.2 = .local → scope.names.lookup z.1 = some .local) (hx : scope.names.lookup x = some .local)
    (hy : env.kindOf y = some .local) (hp : (env.scope.kind == .class || (env.scope.kind == .module && env.locals != env.globals)) = false) (hsz : vs.length ≤ sizeLine)
    (h : wpAny (model prog w) A (eval iter env) (SrcU prog w A h₀ L m env ct elt x y scope cl Q vs) E s)
    (hs : ∀ x, foldedSetIterable iter env x = pure x := by intro _; rfl) :
    wpAny (model prog w) A (exec (.Assign [.Name y py] (.ListComp elt [⟨.Name x px, iter, [ct], 0⟩] scope pos) spos) env) Q E s := by
  subst hLe
  rw [exec_Assign_Name_used _ _ _ _ hsw]
  refine wpAny_bind (wpAny_standAt (wpAny_bind ?_))
  show wpAny _ A (do let _ ← comprehension (.ListComp elt [⟨.Name x px, iter, [ct], 0⟩] scope pos) scope env _ (newList []) false (eval iter env) (some (assign (.Name y py) env))) _ _ s
  refine wpAny_bind (wpAny_mono (wpAny_comprehension_free (use := some (assign (.Name y py) env)) (Q := fun _ s' => Q .next s') rfl hs hclos hkind hnames
    (wpAny_mono h (fun xv s₁ h₁ => ?_) fun _ _ e => e)) (fun _ s' hq => wpAny_pure (wpAny_pure hq)) fun _ _ e => e)
  obtain ⟨d, news, rfl, hh, F, N, hm, R⟩ := h₁
  have hl : s₁.heap.IsTuple d vs.toArray := ⟨_, (N _ hm).1, rfl, _, rfl⟩
  have hlt : d < s₁.heap.objs.size := Heap.lt_size (N _ hm).1
  have hne : d ≠ s₁.heap.objs.size := Nat.ne_of_lt hlt
  refine wpAny_pyIter_tuple hl ?_
  have up : ∀ b o, s₁.heap.get? b = some o → (s₁.heap.push { cls := .type "tuple_iterator", data := .fields #[.ref d, .int 0 0] }).get? b = some o := fun b o e => Heap.get?_push_of_some _ e
  refine block_T (S := fun nw => (d, tupObj vs) ∈ nw) (Walks.tuple hh s₁.heap.objs.size d hne vs.toArray) (by rw [List.size_toArray]; exact hsz) (fun i h st => by obtain ⟨o, e, _⟩ := st.1; exact ⟨o, e⟩) (fun i h h' o nw st e e' hk N' hS => ?_) hcell hkind hx ⟨⟨_, Heap.get?_push_size _ rfl, rfl, rfl⟩, ⟨_, up _ _ (N _ hm).1, rfl, _, rfl⟩⟩ (fun b hb => ?_)
      (F.keeps up) (N.grown up) (Nat.ne_of_lt F.ns.lt) (next_is_new F) (fun p hp => Nat.ne_of_lt (Heap.lt_size (N p hp).1)) hm (R _ ⟨_, rfl⟩) ?_
  · exact ⟨by obtain ⟨o', q, r⟩ := st.1; rw [e] at q; cases q; exact ⟨o, e', r⟩, ⟨_, (N' _ hS).1, rfl, _, rfl⟩⟩
  · show b < (s₁.heap.push _).objs.size
    rw [Heap.size_push]
    rcases List.mem_cons.mp hb with rfl | hb
    · exact Nat.lt_succ_self _
    · rw [List.mem_singleton.mp hb]; exact Nat.lt_succ_of_lt hlt
  · intro D C h' tk m' ys news' F' N' o1 hn hC₀ hD₀ hCL hDL hCD offC fin
    show wpAny _ A (assign (.Name y py) env (.ref D)) _ _ _
    refine wpAny_assign_Name (wpAny_storeName_local hy F'.ns (fun h₂ hn₂ hs₂ => ?_) hp)
    have hL₀ : h₀.get? env.locals = none := Heap.get?_none_of_le F'.above
    have F₂ : Fr h₀ env.locals h₂ (fun z => if z = y then some (.ref D) else m z) := ⟨hn₂, fun b o e => hs₂.extBut b o (fun q => by rw [q, hL₀] at e; cases e) (F'.keep b o e), F'.above⟩
    refine ⟨m', hn.sameBut hs₂ hCL, fun h'' hs'' => fin D h'' _ (F₂.change hs'' hCL hC₀) (fun p hp => ?_) o1⟩
    have z : h₂.get? p.1 = some p.2 := hs₂.extBut _ _ (N' p hp).2.1 (N' p hp).1
    refine ⟨hs''.extBut _ _ ?_ z, (N' p hp).2⟩
    rcases List.mem_cons.mp hp with rfl | hp
    · exact Ne.symm hCD
    · exact offC p hp
end
section
variable {prog : Program} {w : World} {A A₀ : Around} {s : Shared} {K : Frag} {L : Addr} {h₀ base : Heap} {m mg mb : Str → Option Value} {news : List (Addr × Obj)} {p : Program} {loose : List Str} {mean : ExcName → Option Value}
theorem enter_defSC {env : Env} {outer : List Env} {RR : Result → Shared → Prop} {name qual : Str} {params : Arguments} {body : List Stmt} {scope : Scope} {dV kV doc pm cdv ct oc : Value} {an od : Option Addr} {osl : Array (Option Value)} {f : Addr} {args : Args} {binds : List (Str × Value)}
    (B : Below A₀ base outer h₀) (F : Fr h₀ L s.heap m) (X₀ : K.In h₀) (N : News h₀ L s.heap news) (T : Top p loose mean mg mb h₀) (D : KtsDicts (frs outer) h₀) (hA : A.frames = some (env :: outer)) (hf : env.frame = some L) (hke : env.scope.kind = .function)
    (ho : K.lookup f = some ⟨oc, od, .func (fnOf name qual params body scope dV kV doc pm an cdv ct), osl⟩) (hcd : codeIn K cdv qual = true) (hroom : A.depth < recursionLimit)
    (hbind : BindsTo s (fnOf name qual params body scope dV kV doc pm an cdv ct) args binds) (hkind : (binds.all fun y => scope.names.lookup y.1 == some .local || scope.names.lookup y.1 == some .cell) = true)
    (hnd : ((cellsFrom 0 scope.names []).map (·.1)).Nodup)
    (hco : scope.isCoroutine = false) (hgen : scope.isGenerator = false) (hk : scope.kind = .function)
    (h : ∀ g L' h₁ tk cells, Fr g L' h₁ (bindL (envOfC qual scope L' f cdv).kindOf binds fun _ => none) → News g L' h₁ (cells ++ news) →
      CellsAre (bindC (envOfC qual scope L' f cdv).kindOf binds fun _ => none) (cellsFrom (L' + 1) scope.names []) cells → Below A base (env :: outer) g → K.In g → Top p loose mean mg mb g → KtsDicts (frs (env :: outer)) g → (∀ p ∈ news, p.1 < L') →
      (∀ b o, s.heap.get? b = some o → b ∉ news.map (·.1) → g.get? b = some o) →
      wpAny (model prog w) (A.deeper (envOfC qual scope L' f cdv)) (execs body (envOfC qual scope L' f cdv))
        (fun fl s' => RR (.ok (.ret (match fl with | .ret v => v | _ => .none))) s')
        (fun e s' => wpAny (model prog w) (A.deeper (envOfC qual scope L' f cdv)) (leaving (envOfC qual scope L' f cdv) e) (fun _ s'' => RR (.error e) s'') (fun e' s'' => RR (.error e') s'') s')
        { s with heap := h₁, toks := tk }) : codeAny (model prog w) A (.call (.ref f) args) RR s := by
  obtain ⟨FG, BG, st, lv⟩ := groundX (R := RR) B F N hA hf hke
  have DG : KtsDicts (frs (env :: outer)) (hideAll s.heap (news.map (·.1))) := by
    have := dicts_push FG D
    intro b hb
    refine this b ?_
    obtain ⟨env', he, hb'⟩ := List.mem_filterMap.mp hb
    rcases List.mem_cons.mp he with rfl | he
    · exact List.mem_cons.mpr (.inl (Option.some.inj (hb'.symm.trans hf)))
    · exact List.mem_cons.mpr (.inr (List.mem_filterMap.mpr ⟨env', he, hb'⟩))
  refine codeAny_call_function hroom ((X₀.keeps F.keep) _ _ ho) rfl hco hgen rfl (codeRec_of (X₀.keeps F.keep) hcd) (hbind _ _ _ _ ?_)
  refine wpAny_newFunctionEnv_cells hk (kindsX hkind _) fun env' he s' x => ?_
  subst he
  refine ⟨(T.nolimit.keeps F.keep).keeps x.toInCall.keep, codeAny_func ?_⟩
  obtain ⟨h₁, tk, rfl, _⟩ := x.done
  have hk₁ := x.toInCall.keep
  obtain ⟨cells, NC, Y⟩ := Cl.news (h₀ := s.heap) (Nat.le_refl _) fun n c hm => ⟨x.cell n c (lookup_of_mem_nodup (cellsFrom_names scope.names 0 (s.heap.objs.size + 1) [] [] rfl ▸ hnd) hm), x.above n c hm⟩
  refine wpAny_mono (h _ s.heap.objs.size h₁ tk cells ⟨x.toInCall.ns, fun b o e => hk₁ b o (of_hideAll _ e), Nat.le_of_eq (hideAll_size _ _)⟩ (fun p hp => ?_) Y BG (X₀.keeps st) (T.keeps st) DG (fun p hp => Heap.lt_size (N p hp).1) (fun b o e n => hideAll_get _ e n)) (fun fl s' hl => hl) fun _ _ y => y
  rcases List.mem_append.mp hp with hp | hp
  · refine ⟨(NC p hp).1, (NC p hp).2.1, ?_⟩
    cases q : (hideAll s.heap (news.map (·.1))).get? p.1 with
    | none => rfl
    | some o => have := of_hideAll _ q; rw [(NC p hp).2.2] at this; cases this
  · exact ⟨hk₁ _ _ (N p hp).1, Nat.ne_of_lt (Heap.lt_size (N p hp).1), hideAll_none _ (List.mem_map_of_mem hp)⟩
end
theorem lines_CompTup_398 : True := by
  k_with "c_enterSC" => (refine' enter_defSC ?k1ₖ₃₆ ?k2ₖ₃₆ ?k3ₖ₃₆ ?k4ₖ₃₆ ?k5ₖ₃₆ ?kDDₖ₃₆ ?kAₖ₃₆ ?kFₖ₃₆ ?kKₖ₃₆ ?k6ₖ₃₆ ?k7ₖ₃₆ ?k8ₖ₃₆ ?k9ₖ₃₆ ?kBₖ₃₆ ?kDₖ₃₆ ?c2ₖ₃₆ ?c3ₖ₃₆ ?c4ₖ₃₆ ?_; (case kAₖ₃₆ => exact rfl); (case kFₖ₃₆ => exact rfl); (case kKₖ₃₆ => assumption); (case k1ₖ₃₆ => k_asm); (case k2ₖ₃₆ => k_asm); (case k3ₖ₃₆ => k_asm); (case k4ₖ₃₆ => k_asm); (case k5ₖ₃₆ => k_asm); (case kDDₖ₃₆ => assumption); (case k6ₖ₃₆ => k_is); (case k7ₖ₃₆ => k_is); (case k8ₖ₃₆ => exact Nat.le_of_ble_eq_true rfl); (case k9ₖ₃₆ => exact BindsTo.of_eq rfl); (case kBₖ₃₆ => exact rfl); (case kDₖ₃₆ => decide +kernel); (case c2ₖ₃₆ => exact rfl); (case c3ₖ₃₆ => exact rfl); (case c4ₖ₃₆ => exact rfl); k_whole; intro g'ₖ L'ₖ h'ₖ tk'ₖ cells'ₖ F'ₖ N'ₖ Y'ₖ B'ₖ X'ₖ T'ₖ D'ₖ l1ₖ hg'ₖ; (try k_lt l1ₖ); k_cells Y'ₖ; (try simp only [List.nil_append, List.cons_append] at N'ₖ); (try dsimp only); (try k_fold))
  k_with "c_startSC" => ((first | (unfold ConS; intro gdₖ cnₖ csₖ Lₖ aₖ ccdₖ clₖ outerₖ A₀ₖ baseₖ h₀ₖ mₖ sₖ RRₖ Bₖ Fₖ Xₖ Nₖ Tₖ hkₖ XBₖ TBₖ Dₖ hretₖ) | (unfold ConSB; intro Bₖ Fₖ Xₖ Nₖ Tₖ hkₖ XBₖ TBₖ Dₖ hretₖ)); have hoffₖ := off_frames Bₖ Nₖ; have hBaseₖ := BaseOk.mk XBₖ TBₖ; clear XBₖ TBₖ; revert Xₖ; k_fill; intro Xₖ; k_dflt walk_at "c_enterSC")
  exact trivial
end
theorem at_GetNext : True := by
  w_top off
  exact trivial
theorem slot_li_getattribute : Slot "list_iterator" "__getattribute__" "object.__getattribute__" :=
  .of (owner := "object") (n := "__getattribute__") (by rw [typeLookup_type, builtinLookup_eq_fast]; kernel_rfl) (by decide +kernel) (by decide +kernel) (by decide +kernel)
    (by first | exact .inl (by decide +kernel) | exact .inr (by decide +kernel)) (by rw [isSubtype_type]; kernel_rfl)
theorem entry_obj_getattribute : entryFor table "object.__getattribute__" = some Builtin.«object.__getattribute__» := entryFor_of_tree (by kernel_rfl)
theorem args_obj_getattribute (a b : Value) : argsOk "object.__getattribute__" ⟨[a, b], []⟩ := by unfold argsOk; kernel_rfl
theorem lookup_li_next : typeLookup (.type "list_iterator") "__next__" = pure (some (.builtin "list_iterator.__next__")) := by rw [typeLookup_type, builtinLookup_eq_fast]; kernel_rfl
theorem slot_wd_get : Slot "wrapper_descriptor" "__get__" "wrapper_descriptor.__get__" :=
  .of (owner := "wrapper_descriptor") (n := "__get__") (by rw [typeLookup_type, builtinLookup_eq_fast]; kernel_rfl) (by decide +kernel) (by decide +kernel) (by decide +kernel)
    (by first | exact .inl (by decide +kernel) | exact .inr (by decide +kernel)) (by rw [isSubtype_type]; kernel_rfl)
theorem entry_wd_get : entryFor table "wrapper_descriptor.__get__" = some Builtin.«wrapper_descriptor.__get__» := entryFor_of_tree (by kernel_rfl)
theorem args_wd_get (a b c : Value) : argsOk "wrapper_descriptor.__get__" ⟨[a, b, c], []⟩ := by unfold argsOk; kernel_rfl
theorem type_li_next : typeOf (.builtin "list_iterator.__next__") = pure (.type "wrapper_descriptor") := by show builtinType _ = _; rw [builtinType_eq_fast]; kernel_rfl
theorem wd_no_set : typeLookup (.type "wrapper_descriptor") "__set__" = pure none := by rw [typeLookup_type, builtinLookup_eq_fast]; kernel_rfl
theorem wd_no_delete : typeLookup (.type "wrapper_descriptor") "__delete__" = pure none := by rw [typeLookup_type, builtinLookup_eq_fast]; kernel_rfl
section
variable {prog : Program} {w : World} {A : Around} {E : Value → Shared → Prop}
theorem code_wd_get {hp : Heap} {g : Array GenState} {d : Drawn} {tk : Nat} {os : OsState} {it : Addr} {vs : Array Value} {sl : Array (Option Value)} {R : Result → Shared → Prop}
    (hx : hp.get? it = some { cls := .type "list_iterator", dict := none, data := .fields vs, slots := sl })
    (h : R (.ok (.ret (.ref hp.objs.size))) ⟨hp.push { cls := .type "method-wrapper", data := .fields #[.builtin "list_iterator.__next__", .ref it] }, g, d, tk, os⟩) :
    codeAny (model prog w) A (.call (.builtin "wrapper_descriptor.__get__") ⟨[.builtin "list_iterator.__next__", .ref it, .type "list_iterator"], []⟩) R ⟨hp, g, d, tk, os⟩ := by
  have hT : (⟨hp, g, d, tk, os⟩ : Shared).TypeIs (.ref it) "list_iterator" := ⟨_, hx, rfl⟩
  have hB : (⟨hp, g, d, tk, os⟩ : Shared).TypeIs (.builtin "list_iterator.__next__") "wrapper_descriptor" := type_li_next
  have f1 : isSubtype (.type "list_iterator") (.type "list_iterator") = pure true := by rw [isSubtype_type]; kernel_rfl
  refine codeAny_call_builtin slot_wd_get.plain entry_wd_get (slot_wd_get.check _ _ _ _ _ _ _ _ hB (args_wd_get _ _ _) ?_)
  have e0 : ".".intercalate ("list_iterator.__next__".cutAt '.').dropLast = "list_iterator" := by decide +kernel
  unfold Builtin.«wrapper_descriptor.__get__»
  repeat (any_goals (first | assumption | wp_step))
  rw [e0]
  refine wpAny_of_eq f1 ?_
  repeat (any_goals (first | assumption | wp_step))
theorem wp_object_getattribute {hp : Heap} {g : Array GenState} {d : Drawn} {tk : Nat} {os : OsState} {it : Addr} {vs : Array Value} {sl : Array (Option Value)} {u : Tok} {Q : Fin → Shared → Prop}
    (hx : hp.get? it = some { cls := .type "list_iterator", dict := none, data := .fields vs, slots := sl })
    (h : Q (.done (.ret (.ref hp.objs.size))) ⟨hp.push { cls := .type "method-wrapper", data := .fields #[.builtin "list_iterator.__next__", .ref it] }, g, d, tk, os⟩) :
    wpAny (model prog w) A (Builtin.«object.__getattribute__» ⟨[.ref it, .str "__next__" u], []⟩) Q E ⟨hp, g, d, tk, os⟩ := by
  have hT : (⟨hp, g, d, tk, os⟩ : Shared).TypeIs (.ref it) "list_iterator" := ⟨_, hx, rfl⟩
  have f1 := lookup_li_next
  have f2 := type_li_next
  have f3 := slot_wd_get.lookup
  have f4 := wd_no_set
  have f5 := wd_no_delete
  unfold Builtin.«object.__getattribute__»
  repeat (any_goals (first | assumption | wp_step))
  exact code_wd_get hx (wpAny_pure h)
theorem getAttr_next {s : Shared} {it : Addr} {o : Obj} {vs : Array Value} {Q : Value → Shared → Prop}
    (hx : s.heap.get? it = some o) (hc : o.cls = .type "list_iterator") (hdat : o.data = .fields vs) (hd : o.dict = none)
    (h : Q (.ref s.heap.objs.size) { s with heap := s.heap.push { cls := .type "method-wrapper", data := .fields #[.builtin "list_iterator.__next__", .ref it] }, toks := s.toks + 1 }) :
    wpAny (model prog w) A (getAttr (.ref it) "__next__" true) Q E s := by
  obtain ⟨c, dct, dat, sl⟩ := o
  simp only at hc hdat hd
  subst hc hdat hd
  obtain ⟨hp, g, d, tk, os⟩ := s
  have hT : ∀ tk', (⟨hp, g, d, tk', os⟩ : Shared).TypeIs (.ref it) "list_iterator" := fun _ => ⟨_, hx, rfl⟩
  have f3 := slot_li_getattribute.lookup
  have f4 := slot_li_getattribute.bind (.ref it)
  unfold getAttr getAttrBy
  repeat (any_goals (first | assumption | exact hT _ | ((with_reducible show wpAny _ _ (call (Value.builtin "object.__getattribute__") _ _) _ _ _); refine wpAny_call_entry slot_li_getattribute (hT _) entry_obj_getattribute (wp_object_getattribute hx ?_) (args_obj_getattribute _ _)) | wp_step))
  exact ⟨_, rfl, wpAny_pure h⟩
theorem check_li_next (it : Addr) : checkBoundCall "list_iterator.__next__" ⟨[.ref it], []⟩ = pure () := by first | kernel_rfl | rfl
theorem call_next_tree {s : Shared} {b it : Addr} {ob : Obj} {Q : Value → Shared → Prop} (hb : s.heap.get? b = some ob) (hbc : ob.cls = .type "method-wrapper") (hbd : ob.data = .fields #[.builtin "list_iterator.__next__", .ref it])
    (h : ∀ A', A'.handled = A.handled → wpAny (model prog w) A' (Builtin.«list_iterator.__next__» ⟨[.ref it], []⟩) (fun fin s' => ∃ v, fin = .done (.ret v) ∧ Q v s') E s) :
    wpAny (model prog w) A (call (.ref b) []) Q E s := by
  refine wpAny_call (codeAny_of_tree ?_)
  show wpAny _ A.in1 (callAny (.ref b) ⟨[], []⟩) _ _ s
  simp only [callAny]
  refine wpAny_bind (wpAny_load hb ?_)
  simp only [hbd, hbc, show (Value.type "method-wrapper" == Value.type "method" || Value.type "method-wrapper" == Value.type "builtin_function_or_method" || Value.type "method-wrapper" == Value.type "method-wrapper") = true by decide, if_true]
  show wpAny _ _ (do
          checkBoundCall "list_iterator.__next__" { pos := [Value.ref it] }
          again (Code.builtin "list_iterator.__next__" { pos := [Value.ref it] })) _ _ s
  refine wpAny_bind (wpAny_of_eq (a := ()) (check_li_next it) ?_)
  refine wpAny_pure ⟨Code.quiet_builtin _ (by decide +kernel), codeAny_builtin PySem.entry_listiter_next ?_⟩
  exact wpAny_mono (h _ rfl) (fun fin s' ⟨v, e, q⟩ => by subst e; exact q) fun _ _ e => e
noncomputable abbrev liO (l : Addr) (i : Nat) : Obj := { cls := .type "list_iterator", data := .fields #[.ref l, .int (i : Int) 0] }
noncomputable abbrev mwO (it : Addr) : Obj := { cls := .type "method-wrapper", data := .fields #[.builtin "list_iterator.__next__", .ref it] }
theorem next_item_tree {s : Shared} {it l : Addr} {i : Nat} {items : Array Value} {x : Value} {Q : PySem.Fin → Shared → Prop} (hit : s.heap.get? it = some (liO l i))
    (hl : s.heap.IsList l items) (hx : items[i]? = some x) (hQ : ∀ h', h'.get? it = some (liO l (i + 1)) → Heap.SameBut it s.heap h' → Q (.done (.ret x)) { s with heap := h' }) :
    wpAny (model prog w) A (Builtin.«list_iterator.__next__» ⟨[.ref it], []⟩) Q E s := by
  obtain ⟨ol, hol, _, nl, hdl⟩ := hl
  show wpAny _ _ (field (.ref it) 0 >>= _) _ _ s
  refine wpAny_bind (wpAny_field hit rfl (x := .ref l) rfl ?_)
  show wpAny _ _ (if (Value.ref l == Value.none) = true then _ else _) _ _ s
  rw [if_neg (show ¬ ((Value.ref l == Value.none) = true) from Bool.false_ne_true)]
  show wpAny _ _ (field (.ref it) 1 >>= _) _ _ s
  refine wpAny_bind (wpAny_field hit rfl (x := .int i 0) rfl ?_)
  show wpAny _ _ (seqItems? (.ref l) >>= _) _ _ s
  refine wpAny_bind (wpAny_seqItems hol hdl ?_)
  simp only [Int.toNat_natCast, hx]
  refine wpAny_bind (wpAny_setField hit rfl (by simp) (wpAny_pure (hQ _ ?_ (Heap.SameBut.update ..))))
  rw [Heap.get?_update_self _ hit rfl]
  rfl
theorem next_end_tree {s : Shared} {it l : Addr} {i : Nat} {items : Array Value} {Q : PySem.Fin → Shared → Prop} (hh : A.handled = none) (hit : s.heap.get? it = some (liO l i))
    (hl : s.heap.IsList l items) (hx : items[i]? = none) (hE : ∀ h1 h' e, Heap.SameBut it s.heap h1 → Heap.NewExc h1 h' e "StopIteration" → E (.ref e) { s with heap := h' }) :
    wpAny (model prog w) A (Builtin.«list_iterator.__next__» ⟨[.ref it], []⟩) Q E s := by
  obtain ⟨ol, hol, _, nl, hdl⟩ := hl
  show wpAny _ _ (field (.ref it) 0 >>= _) _ _ s
  refine wpAny_bind (wpAny_field hit rfl (x := .ref l) rfl ?_)
  show wpAny _ _ (if (Value.ref l == Value.none) = true then _ else _) _ _ s
  rw [if_neg (show ¬ ((Value.ref l == Value.none) = true) from Bool.false_ne_true)]
  show wpAny _ _ (field (.ref it) 1 >>= _) _ _ s
  refine wpAny_bind (wpAny_field hit rfl (x := .int i 0) rfl ?_)
  show wpAny _ _ (seqItems? (.ref l) >>= _) _ _ s
  refine wpAny_bind (wpAny_seqItems hol hdl ?_)
  simp only [Int.toNat_natCast, hx]
  refine wpAny_bind (wpAny_rule (wpAny_bind (wpAny_setField hit rfl (by simp) ?_)))
  show wpAny _ _ (newExc (.type "StopIteration") [] >>= _) _ _ _
  refine wpAny_bind ?_
  simp only [newExc, newTuple]
  refine wpAny_bind (wpAny_newObj_type ?_ (by size_fits))
  refine wpAny_bind (m := firstArgMember _ _) (wpAny_of_eq (a := Value.none) (by first | rfl | (simp only [firstArgMember]; rfl)) ?_)
  refine wpAny_newObj_type ?_ (by size_fits)
  simp only [raiseNew]
  refine wpAny_bind (wpAny_handled ?_)
  rw [hh]
  refine wpAny_bind (wpAny_pure (wpAny_throw ?_))
  refine hE _ _ _ (Heap.SameBut.update ..) ⟨fun b o e => Heap.get?_push_of_some _ (Heap.get?_push_of_some _ e), Heap.get?_none_of_le (by simp), _, _, Heap.get?_push_size _ rfl, rfl, rfl⟩
section
variable {s : Shared} {h₀ : Heap} {L b it l : Addr} {m : Str → Option Value} {news news' rest : List (Addr × Obj)} {i : Nat} {vs : List Value} {n : Nat} {Q : Value → Shared → Prop}
theorem next_itemK {x : Value} (F : Fr h₀ L s.heap m) (N : News h₀ L s.heap news) (hb : (b, mwO it) ∈ news) (U : Upd it (liO l i) (liO l (i + 1)) news news') (hl : (l, W.listOf (List.toArray vs) n) ∈ news) (hx : vs[i]? = some x)
    (h : ∀ h', Fr h₀ L h' m → News h₀ L h' news' → Q x { s with heap := h' }) : wpAny (model prog w) A (call (.ref b) []) Q E s := by
  obtain ⟨pre, post, rfl, rfl, a, c⟩ := U.split
  have z := N (it, liO l i) (List.mem_append.mpr (.inr (.head _)))
  refine call_next_tree (N _ hb).1 rfl rfl fun A' _ => next_item_tree z.1 (PySem.IsL.isList (n := n) (N _ hl).1) (by simpa using hx) fun h' hi hs => ⟨_, rfl, h h' (F.change hs z.2.1 z.2.2) ?_⟩
  exact news_set N a c hs hi
theorem next_endK (hh : A.handled = none) (F : Fr h₀ L s.heap m) (N : News h₀ L s.heap news) (hb : (b, mwO it) ∈ news) (hi : (it, liO l i) ∈ news) (hl : (l, W.listOf (List.toArray vs) n) ∈ news) (hx : vs[i]? = none) (sub : ∀ p ∈ rest, p ∈ news) (off : ∀ p ∈ rest, p.1 ≠ it)
    (hE : ∀ h1 h' e, Fr h₀ L h1 m → News h₀ L h1 rest → Heap.NewExc h1 h' e "StopIteration" → E (.ref e) { s with heap := h' }) : wpAny (model prog w) A (call (.ref b) []) Q E s := by
  have z := N _ hi
  refine call_next_tree (N _ hb).1 rfl rfl fun A' hA => next_end_tree (hA.trans hh) z.1 (PySem.IsL.isList (n := n) (N _ hl).1) (by simpa using hx) fun h1 h' e hs hx' => hE h1 h' e (F.change hs z.2.1 z.2.2) (fun p hp => ?_) hx'
  have y := N p (sub p hp)
  exact ⟨hs.extBut _ _ (off p hp) y.1, y.2⟩
theorem get_nextK (F : Fr h₀ L s.heap m) (N : News h₀ L s.heap news) (hi : (it, liO l i) ∈ news)
    (h : ∀ D h', Fr h₀ L h' m → News h₀ L h' ((D, mwO it) :: news) → (∀ p ∈ news, p.1 < D) → Q (.ref D) { s with heap := h', toks := s.toks + 1 }) : wpAny (model prog w) A (getAttr (.ref it) "__next__" true) Q E s :=
  getAttr_next (N _ hi).1 rfl rfl rfl (h _ _ (F.push _) (News.push F N _ rfl) fun p hp => Heap.lt_size (N p hp).1)
theorem iter_listK (F : Fr h₀ L s.heap m) (N : News h₀ L s.heap news) (hl : (l, W.listOf (List.toArray vs) n) ∈ news)
    (h : ∀ D h', Fr h₀ L h' m → News h₀ L h' ((D, liO l 0) :: news) → (∀ p ∈ news, p.1 < D) → Q (.ref D) { s with heap := h' }) : wpAny (model prog w) A (call (.builtin "iter") [.ref l]) Q E s := by
  refine PySem.Calls.call_function_entry (by decide +kernel) (by decide +kernel) kdk_entry_iter (kdk_args_iter _) ?_
  unfold Builtin.«iter»
  refine wpAny_bind (m := someArgs "iter" 1 2 _) (wpAny_of_eq (a := [Value.ref l]) (by first | rfl | kernel_rfl!) ?_)
  show wpAny _ _ (pyIter (.ref l) >>= _) _ _ _
  refine wpAny_bind (wpAny_pyIter_list (PySem.IsL.isList (n := n) (N _ hl).1) ?_)
  exact wpAny_pure ⟨_, rfl, h _ _ (F.push _) (News.push F N _ rfl) (fun q hq => Heap.lt_size (N q hq).1)⟩
end
end
theorem callWith_mw {prog : Program} {w : World} {A : Around} {E : Value → Shared → Prop} {s : Shared} {h₀ : Heap} {L u it : Addr} {news : List (Addr × Obj)} {pos : Pos} {Q : Value → Shared → Prop} (N : News h₀ L s.heap news) (hm : (u, mwO it) ∈ news)
    (h : wpAny (model prog w) A (call (.ref u) []) Q E s) : wpAny (model prog w) A (callWith pos (.ref u) [] [] []) Q E s := by
  have ho := (N _ hm).1
  unfold callWith
  refine wpAny_bind (wpAny_holding ?_)
  have e0 : evalArgs (.ref u) true ([] : List (Bool × Sem Value)) [] = pure ⟨[], []⟩ := by first | rfl | kernel_rfl
  refine wpAny_of_eq e0 (wpAny_bind (wpAny_standAt ?_))
  simp only [List.any_nil, Bool.or_false]
  refine wpAny_bind (m := keeperOf (.ref u)) ?_
  unfold keeperOf
  refine wpAny_bind (wpAny_load ho ?_)
  simp only [show (Value.type "method-wrapper" != Value.type "method") = true by decide, show (Value.type "method-wrapper" == Value.type "builtin_function_or_method" || Value.type "method-wrapper" == Value.type "method-wrapper") = true by decide, if_true]
  refine wpAny_pure ?_
  exact wpAny_bind (wpAny_mono h (fun r s₂ hr => wpAny_bind (wpAny_holding (wpAny_point (wpAny_pure hr)))) fun _ _ x => x)
theorem lines_GetNext_432 : True := by
  k_with "callWith ref" => (k_dflt (refine' callWith_mw ?Nₖ₃₈ ?mₖ₃₈ ?_; (case Nₖ₃₈ => k_asm); (case mₖ₃₈ => k_mem)))
  exact trivial
theorem at_KeysS : True := by
  w_top off
  exact trivial
section
variable {w : World} {mean : ExcName → Option Value} {mg mb : Str → Option Value} {A A₀ : Around} {base g₀ : Heap} {outer : List Env} {E : Value → Shared → Prop} {s : Shared} {env : Env} {Q : Flow → Shared → Prop} {m₀ : Str → Option Value} {news : List (Addr × Obj)}
inductive AtIS (w : World) (mean : ExcName → Option Value) (mg mb : Str → Option Value) (A₀ : Around) (base : Heap) (outer : List Env) (g₀ : Heap) (L : Addr) (s : Shared) (I : Addr) (it : Obj) (X : List (Str × Value) → List (Addr × Obj) → Prop) : Shared → Prop
  | mk {g h : Heap} {tk : Nat} {m : Str → Option Value} {ps : List (Str × Value)} {news : List (Addr × Obj)} (G : Gr w mean mg mb A₀ base outer g₀ g) (F : Fr g L h m) (N : News g L h ((I, it) :: news)) (off : ∀ p ∈ news, p.1 ≠ I) (M : AllAt m ps) (x : X ps news) :
    AtIS w mean mg mb A₀ base outer g₀ L s I it X { s with heap := h, toks := tk }
inductive KeyI (w : World) (mean : ExcName → Option Value) (mg mb : Str → Option Value) (A₀ : Around) (base : Heap) (outer : List Env) (g₀ : Heap) (L : Addr) (s : Shared) (I d : Addr) (J : List Int → List (Str × Value) → List (Addr × Obj) → Prop) (kvs : List (Int × Value)) (ep : Nat) : Nat → Shared → Prop
  | mk {g h : Heap} {tk : Nat} {m : Str → Option Value} {ps : List (Str × Value)} {nw : List (Addr × Obj)} {i : Nat} {it : Obj} (G : Gr w mean mg mb A₀ base outer g₀ g) (F : Fr g L h m) (N : News g L h ((I, it) :: nw)) (off : ∀ p ∈ nw, p.1 ≠ I) (M : AllAt m ps)
    (j : J ((kvs.map (·.1)).drop i) ps nw) (hi : i ≤ kvs.length) (st : h.IsKeyIter I d i kvs.length ep ∧ h.DictAt (intKind Challenge.rw_om0134_01.row.prog w) d kvs ep) : KeyI w mean mg mb A₀ base outer g₀ L s I d J kvs ep (kvs.length + 1 - i) { s with heap := h, toks := tk }
theorem AtIS.intro {L : Addr} {I : Addr} {it : Obj} {X : List (Str × Value) → List (Addr × Obj) → Prop} {g h' : Heap} {tk : Nat} {m' : Str → Option Value} {all : List (Addr × Obj)} (G : Gr w mean mg mb A₀ base outer g₀ g) (F : Fr g L h' m') (N : News g L h' all) (ps : List (Str × Value)) (news' : List (Addr × Obj)) (hps : AllAt m' ps)
    (hI : (I, it) ∈ all) (sub : ∀ p ∈ news', p ∈ all) (off : ∀ p ∈ news', p.1 ≠ I) (x : X ps news') : AtIS w mean mg mb A₀ base outer g₀ L s I it X { s with heap := h', toks := tk } :=
  .mk G F (fun p hp => (List.mem_cons.mp hp).elim (fun e => e ▸ N _ hI) fun hp => N _ (sub p hp)) off hps x
theorem for_keysS {target : PySem.Expr} {body : List Stmt} {iter : PySem.Expr} {pos : Pos} {gi : Heap} (J : List Int → List (Str × Value) → List (Addr × Obj) → Prop) (ps₀ : List (Str × Value)) {d : Addr} {od : Obj} {kvs : List (Int × Value)}
    (hh : A.handled = none) (G : Gr w mean mg mb A₀ base outer g₀ gi) (F : Fr gi env.locals s.heap m₀) (N : News gi env.locals s.heap news) (hm : (d, od) ∈ news) (hod : Obj.IsDictOf (intKind Challenge.rw_om0134_01.row.prog w) od kvs) (lo : (d == sysModules) = false)
    (hps : AllAt m₀ ps₀) (h0 : J (kvs.map (·.1)) ps₀ news) (hk : ∀ r ps n, J r ps n → (d, od) ∈ n)
    (turn : ∀ g I x t r ps₁ (u : Str → Option Value) news₁ it h tk (P : Flow → Shared → Prop), (∀ p ∈ news, p.1 < I) → J (x :: r) ps₁ news₁ → Gr w mean mg mb A₀ base outer g₀ g → Below A₀ base outer g → (hd.heap_1 w.params).In g → Top VW LS mean mg mb g → KtsDicts (frs outer) g → Fr g env.locals h (kstB u ps₁) → News g env.locals h ((I, it) :: news₁) →
      (∀ s', AtIS w mean mg mb A₀ base outer g₀ env.locals s I it (J r) s' → P .next s') → (∀ s', P .next s' → P .cont s') → (∀ s', Q .next s' → P .brk s') → (∀ v s', Q (.ret v) s' → P (.ret v) s') →
      wpAny (model Challenge.rw_om0134_01.row.prog w) A (assign target env (.int x t)) (fun _ s₂ => wpAny (model Challenge.rw_om0134_01.row.prog w) A (execs body env) P E s₂) E { s with heap := h, toks := tk })
    (done : ∀ g ps₁ (u : Str → Option Value) news₁ h tk, J [] ps₁ news₁ → Gr w mean mg mb A₀ base outer g₀ g → Below A₀ base outer g → (hd.heap_1 w.params).In g → Top VW LS mean mg mb g → KtsDicts (frs outer) g → Fr g env.locals h (kstB u ps₁) → News g env.locals h news₁ → Q .next { s with heap := h, toks := tk })
    (hE : PassesOwn (model Challenge.rw_om0134_01.row.prog w) A env E) (he : ∀ Q', Q' (.ref d) s → wpAny (model Challenge.rw_om0134_01.row.prog w) A (eval iter env) Q' E s)
    (hs : ∀ x, foldedSetIterable iter env x = pure x := by intro _; rfl) :
    wpAny (model Challenge.rw_om0134_01.row.prog w) A (exec (.For target iter body [] pos) env) Q E s := by
  have hax := N _ hm
  obtain ⟨ep, hat⟩ := (kda_dict N hm hod).dictAt
  have hne : d ≠ s.heap.objs.size := Nat.ne_of_lt hat.lt_size
  have W := Walks.dictKeys (knd := intKind Challenge.rw_om0134_01.row.prog w) (prog := Challenge.rw_om0134_01.row.prog) (w := w) hh s.heap.objs.size d hne kvs ep
  have hlt : ∀ p ∈ news, p.1 < s.heap.objs.size := fun p hp => Heap.lt_size (N p hp).1
  have hLI : env.locals ≠ s.heap.objs.size := Nat.ne_of_lt F.ns.lt
  refine wpAny_For (he _ (wpAny_pyIter_dict lo hat ?_)) hs
  refine codeAny_forLoop_any (KeyI w mean mg mb A₀ base outer g₀ env.locals s s.heap.objs.size d J kvs ep) ?_ (kvs.length + 1)
    (KeyI.mk (i := 0) G (F.push _) (News.push F N _ rfl) (fun p hp => Nat.ne_of_lt (hlt p hp)) hps h0 (Nat.zero_le _) ⟨⟨_, Heap.get?_push_size _ rfl, rfl, rfl⟩, hat.push _⟩)
  rintro _ _ ⟨G', F', N', off, M', j, hi, st⟩
  rename_i g h tk m ps nw i it
  have hI₀ : g.get? s.heap.objs.size = none := (N' _ (List.mem_cons_self ..)).2.2
  by_cases hlt' : i < kvs.length
  · refine W.item i _ _ _ hlt' st fun v h₁ tk₁ hP st₁ hk₁ => ?_
    refine letGo_keyiter st₁.1 ?_
    obtain ⟨x, y, hx, hv⟩ := hP
    obtain ⟨t, rfl⟩ : ∃ t, v = .int x t := by
      cases v <;> simp [intKind, Value.isInt] at hv
      subst hv
      exact ⟨_, rfl⟩
    have hdr : (kvs.map (·.1)).drop i = x :: (kvs.map (·.1)).drop (i + 1) := by
      rw [List.drop_eq_getElem_cons (by simpa using hlt')]
      congr 1
      simp only [List.getElem_map]
      have := List.getElem?_eq_getElem hlt'
      rw [hx] at this
      injection this with this
      rw [← this]
    rw [hdr] at j
    obtain ⟨it₁, hit₁, _, _⟩ := st₁.1
    have F₁ : Fr g env.locals h₁ m := LCg.fr_but F' hk₁ hLI hI₀
    have N₁ : News g env.locals h₁ ((s.heap.objs.size, it₁) :: nw) := fun p hp => by
      rcases List.mem_cons.mp hp with rfl | hp
      · exact ⟨hit₁, Ne.symm hLI, hI₀⟩
      · exact LCg.news_but (fun p hp => N' p (List.mem_cons_of_mem _ hp)) hk₁ off p hp
    refine wpAny_mono (turn g _ x t _ ps m nw it₁ h₁ tk₁ (fun f s' => match f with | .next => AtIS w mean mg mb A₀ base outer g₀ env.locals s s.heap.objs.size it₁ (J ((kvs.map (·.1)).drop (i + 1))) s' | .cont => AtIS w mean mg mb A₀ base outer g₀ env.locals s s.heap.objs.size it₁ (J ((kvs.map (·.1)).drop (i + 1))) s' | .brk => Q .next s' | .ret v => Q (.ret v) s') hlt j G' G'.below G'.inn G'.top G'.dicts (M'.fr F₁) N₁ (fun _ x => x) (fun _ x => x) (fun _ x => x) (fun _ _ x => x))
      (fun _ s₂ z => wpAny_mono (wpAny_passesOwn hE z) (fun f s₃ y => ?_) fun _ _ e => e) hE
    have key : AtIS w mean mg mb A₀ base outer g₀ env.locals s s.heap.objs.size it₁ (J ((kvs.map (·.1)).drop (i + 1))) s₃ → ∃ k' < kvs.length + 1 - i, KeyI w mean mg mb A₀ base outer g₀ env.locals s s.heap.objs.size d J kvs ep k' s₃ := by
      rintro ⟨G₂, F₂, N₂, off₂, M₂, j₂⟩
      refine ⟨kvs.length + 1 - (i + 1), by omega, .mk G₂ F₂ N₂ off₂ M₂ j₂ hlt' ?_⟩
      have hd₂ := (N₂ _ (List.mem_cons_of_mem _ (hk _ _ _ j₂))).1
      have hd₁ : h₁.get? d = some od := (N₁ _ (List.mem_cons_of_mem _ (hk _ _ _ j))).1
      refine W.frame _ _ _ st₁ fun b hb o e => ?_
      rcases List.mem_cons.mp hb with rfl | hb
      · rw [hit₁] at e; cases e; exact (N₂ _ (List.mem_cons_self ..)).1
      · rw [List.mem_singleton.mp hb] at e ⊢
        rw [hd₁] at e; cases e; exact hd₂
    cases f with
    | ret v => exact y
    | brk => exact y
    | next => exact key y
    | cont => exact key y
  · have hin : i = kvs.length := by omega
    subst hin
    refine W.done _ _ _ st fun h₁ tk₁ hk₁ => wpAny_execs_nil ?_
    rw [List.drop_eq_nil_of_le (by simp)] at j
    have F₁ : Fr g env.locals h₁ m := LCg.fr_but F' hk₁ hLI hI₀
    have N₁ : News g env.locals h₁ nw := LCg.news_but (fun p hp => N' p (List.mem_cons_of_mem _ hp)) hk₁ off
    exact done g ps m nw h₁ tk₁ j G' G'.below G'.inn G'.top G'.dicts (M'.fr F₁) N₁
end
theorem at_Both : True := by
  w_top off
  k_with "k_call2" => repeat' (first | ((fail_if_success (with_reducible show wpAny _ _ (call (Value.ref _) [Value.ref _, Value.ref _]) _ _ _)); first | (k_unfold; (try dsimp only)) | walk1) | (dsimp only; (fail_if_success (with_reducible show wpAny _ _ (call (Value.ref _) [Value.ref _, Value.ref _]) _ _ _)); walk1) | fail "no step")
  exact trivial
theorem both_con (w : World) (mean) (mg mb) (e a : Addr) (es as : List Value) (ne na : List Int) (ke ka : Nat) (he : IntsAre es ne) (ha : IntsAre as na) (re : Ris ne) (ra : Ris na) (rm : Ris (sldF ne na).1) (EA : e ≠ a) :
    ConS w mean mg mb 430 1800 186 [.ref e, .ref a] [(e, W.listOf (List.toArray es) ke), (a, W.listOf (List.toArray as) ka)]
      (fun r news' => ∃ M : Addr, ∃ ms km, r = .ref M ∧ news' = [(M, W.listOf (List.toArray ms) km), (e, W.listOf (List.toArray es) ke), (a, W.listOf (List.toArray as) ka)] ∧ @LT.lt Nat _ e M ∧ @LT.lt Nat _ a M ∧ IntsAre ms (sldF ne (sldF ne na).1).1) := by
  walk_at "c_startS"
  w_strict (walk_at "k_call2")
  rename Fr _ _ _ _ => F3
  rename News _ _ _ _ => N3
  rename BaseOk _ _ _ _ _ => hB9
  rename Below _ _ _ _ => B3
  rename Frag.In _ _ => X3
  rename KtsDicts _ _ => D3
  rename Top _ _ _ _ _ _ => T3
  refine use_sld (rest := []) B3 F3 X3 N3 T3 hB9 D3 rfl (by first | assumption | rfl) rfl (Nat.le_of_ble_eq_true rfl) (Nat.le_of_ble_eq_true rfl) (by k_mem) (by k_mem) he ha re ra (fun _ q => nomatch q) (fun _ q => nomatch q) ?_
  intro t M U ms us km ku h' tk' g' G' F' N' hord _ im iu
  clear F3 N3 B3 X3 D3 T3
  have B3 := G'.below
  have X3 := G'.inn
  have T3 := G'.top
  have D3 := G'.dicts
  walk_at "k_call2"
  rename Fr _ _ _ _ => F4
  rename News _ _ _ _ => N4
  refine use_sld (rest := [(a, W.listOf (List.toArray as) ka)]) B3 F4 X3 N4 T3 hB9 D3 rfl (by first | assumption | rfl) rfl (Nat.le_of_ble_eq_true rfl) (Nat.le_of_ble_eq_true rfl) (by k_mem) (by k_mem) he im re rm (fun p hp => by rw [List.mem_singleton.mp hp]; k_mem) (fun p hp => by rw [List.mem_singleton.mp hp]; exact ⟨fun q => EA q.symm, by k_ne⟩) ?_
  intro t2 M2 U2 ms2 us2 km2 ku2 h2 tk2 g2 G2 F5 N5 hord2 hnew im2 iu2
  clear F4 N4 B3 X3 D3 T3
  have G3 := G'.trans G2
  have B3 := G3.below
  have X3 := G3.inn
  have T3 := G3.top
  have D3 := G3.dicts
  walk_at "k_run"
  rename Fr _ _ _ _ => F6
  rename News _ _ _ _ => N6
  replace N6 := news_sub N6 (news := [(M2, W.listOf (List.toArray ms2) km2), (e, W.listOf (List.toArray es) ke), (a, W.listOf (List.toArray as) ka)]) (fun p hp => by
    rcases List.mem_cons.mp hp with rfl | hp
    · k_mem
    · rcases List.mem_cons.mp hp with rfl | hp
      · k_mem
      · rw [List.mem_singleton.mp hp]; k_mem)
  clear G' G2
  rename Gr _ _ _ _ _ _ _ _ _ => G9
  walk_at "c_doneS"
  exact ⟨M2, ms2, km2, rfl, rfl, by omega, by omega, im2⟩
theorem at_SortA : True := by
  w_top off
  exact trivial
noncomputable abbrev tsL (w : World) (P dP D : Addr) (h1 h2 h3 h4 : Tok) (rv : Value) (po fi : Int) (tpo tfi : Tok) : List (Addr × Obj) :=
  [(P, instObj 151 dP), (dP, dictOf [⟨PyData.keyHash w.params "_node2info", .str "_node2info" h1, .ref D⟩, ⟨PyData.keyHash w.params "_ready_nodes", .str "_ready_nodes" h2, rv⟩, ⟨PyData.keyHash w.params "_npassedout", .str "_npassedout" h3, .int po tpo⟩, ⟨PyData.keyHash w.params "_nfinished", .str "_nfinished" h4, .int fi tfi⟩] 4)]
noncomputable abbrev niO (x d l : Addr) (vi vn : Value) : Addr × Obj := (x, { cls := .ref 54, dict := some d, data := .plain, slots := #[some vi, some vn, some (.ref l)] })
noncomputable abbrev IK (w : World) (oD : Obj) (kvs : List (Int × Value)) : Prop := Obj.IsDictOf (intKind Challenge.rw_om0134_01.row.prog w) oD kvs
theorem at_SorF : True := by
  w_top off
  k_with_none
  k_with "c_enter" => (refine' enter_def ?k1ₖ₁ ?k2ₖ₁ ?k3ₖ₁ ?k4ₖ₁ ?k5ₖ₁ ?kAₖ₁ ?kFₖ₁ ?kKₖ₁ ?k6ₖ₁ ?k7ₖ₁ ?k8ₖ₁ ?k9ₖ₁ ?kBₖ₁ ?c2ₖ₁ ?c3ₖ₁ ?c4ₖ₁ ?c5ₖ₁ ?_; (case kAₖ₁ => exact rfl); (case kFₖ₁ => exact rfl); (case kKₖ₁ => assumption); (case k1ₖ₁ => k_asm); (case k2ₖ₁ => k_asm); (case k3ₖ₁ => k_asm); (case k4ₖ₁ => k_asm); (case k5ₖ₁ => k_asm); (case k6ₖ₁ => k_is); (case k7ₖ₁ => k_is); (case k8ₖ₁ => exact Nat.le_of_ble_eq_true rfl); (case k9ₖ₁ => exact BindsTo.of_eq rfl); (case c5ₖ₁ => decide); (case kBₖ₁ => exact locs rfl); (case c2ₖ₁ => exact rfl); (case c3ₖ₁ => exact rfl); (case c4ₖ₁ => exact rfl); k_whole; intro g'ₖ L'ₖ h'ₖ FG'ₖ F'ₖ N'ₖ B'ₖ X'ₖ T'ₖ hlt'ₖ hg'ₖ; (try dsimp only); (try k_fold))
  k_with "c_enterC" => (refine' enter_defC ?k1ₖ₂ ?k2ₖ₂ ?k3ₖ₂ ?k4ₖ₂ ?k5ₖ₂ ?kAₖ₂ ?kFₖ₂ ?kKₖ₂ ?k6ₖ₂ ?k7ₖ₂ ?k8ₖ₂ ?k9ₖ₂ ?kBₖ₂ ?kDₖ₂ ?c2ₖ₂ ?c3ₖ₂ ?c4ₖ₂ ?_; (case kAₖ₂ => exact rfl); (case kFₖ₂ => exact rfl); (case kKₖ₂ => assumption); (case k1ₖ₂ => k_asm); (case k2ₖ₂ => k_asm); (case k3ₖ₂ => k_asm); (case k4ₖ₂ => k_asm); (case k5ₖ₂ => k_asm); (case k6ₖ₂ => k_is); (case k7ₖ₂ => k_is); (case k8ₖ₂ => exact Nat.le_of_ble_eq_true rfl); (case k9ₖ₂ => exact BindsTo.of_eq rfl); (case kBₖ₂ => exact rfl); (case kDₖ₂ => decide +kernel); (case c2ₖ₂ => exact rfl); (case c3ₖ₂ => exact rfl); (case c4ₖ₂ => exact rfl); k_whole; intro g'ₖ L'ₖ h'ₖ tk'ₖ cells'ₖ FG'ₖ F'ₖ N'ₖ Y'ₖ B'ₖ X'ₖ T'ₖ l1ₖ hg'ₖ; (try k_lt l1ₖ); k_cells Y'ₖ; (try simp only [List.nil_append, List.cons_append] at N'ₖ); (try dsimp only); (try k_fold))
  k_with "c_startC" => ((first | (unfold Con; intro gdₖ cnₖ csₖ Lₖ aₖ ccdₖ clₖ outerₖ A₀ₖ baseₖ h₀ₖ mₖ sₖ RRₖ Bₖ Fₖ Xₖ Nₖ Tₖ hkₖ hretₖ) | (unfold ConB; intro Bₖ Fₖ Xₖ Nₖ Tₖ hkₖ hretₖ)); revert Xₖ; k_fill; intro Xₖ; k_dflt walk_at "c_enterC")
  k_with "c_start" => ((first | (unfold Con; intro gdₖ cnₖ csₖ Lₖ aₖ ccdₖ clₖ outerₖ A₀ₖ baseₖ h₀ₖ mₖ sₖ RRₖ Bₖ Fₖ Xₖ Nₖ Tₖ hkₖ hretₖ) | (unfold ConB; intro Bₖ Fₖ Xₖ Nₖ Tₖ hkₖ hretₖ)); revert Xₖ; k_fill; intro Xₖ; k_dflt walk_at "c_enter")
  k_with "no_loop" => ((fail_if_success (with_reducible show wpAny _ _ (exec (Stmt.While _ _ _ _) _) _ _ _)); (fail_if_success (with_reducible show wpAny _ _ (exec (Stmt.For _ _ _ _ _) _) _ _ _)); (fail_if_success (with_reducible show wpAny _ _ (pyIter _) (fun _ _ => TurnsAt _ _ _ _ _ _ _ _ _ _ _) _ _)); (fail_if_success (with_reducible show wpAny _ _ (call (Value.type "list") [Value.ref _]) _ _ _)))
  k_with "k_to" => repeat' (first | (walk_at "no_loop"; first | (k_unfold; (try dsimp only)) | walk1) | (dsimp only; walk_at "no_loop"; walk1) | fail "no step")
  k_with "c_done" => ((rename (∀ _ _ _ _, Left _ _ _ _ → _) => hret9ₖ); (rename (∀ _ _, _ → ¬ _ ∈ List.map _ _ → _) => hg9ₖ); k_dflt (refine' hret9ₖ _ _ _ _ (left_of ?F9ₖ₁₀ ?N9ₖ₁₀ hg9ₖ) ?_; (case F9ₖ₁₀ => assumption); (case N9ₖ₁₀ => assumption)))
  k_with "c_done0" => ((rename (∀ _ _ _ _, Left _ _ _ _ → _) => hret9ₖ); (rename (∀ _ _, _ → ¬ _ ∈ List.map _ _ → _) => hg9ₖ); k_dflt (refine' hret9ₖ _ [] _ _ (left_of ?F9ₖ₁₂ news_nil hg9ₖ) ?_; (case F9ₖ₁₂ => assumption)))
  k_with "c_enterS" => (refine' enter_defS ?k1ₖ₁₆ ?k2ₖ₁₆ ?k3ₖ₁₆ ?k4ₖ₁₆ ?k5ₖ₁₆ ?kDₖ₁₆ ?kAₖ₁₆ ?kFₖ₁₆ ?kKₖ₁₆ ?k6ₖ₁₆ ?k7ₖ₁₆ ?k8ₖ₁₆ ?k9ₖ₁₆ ?kBₖ₁₆ ?c2ₖ₁₆ ?c3ₖ₁₆ ?c4ₖ₁₆ ?c5ₖ₁₆ ?_; (case kAₖ₁₆ => exact rfl); (case kFₖ₁₆ => exact rfl); (case kKₖ₁₆ => assumption); (case k1ₖ₁₆ => k_asm); (case k2ₖ₁₆ => k_asm); (case k3ₖ₁₆ => k_asm); (case k4ₖ₁₆ => k_asm); (case k5ₖ₁₆ => k_asm); (case kDₖ₁₆ => assumption); (case k6ₖ₁₆ => k_is); (case k7ₖ₁₆ => k_is); (case k8ₖ₁₆ => exact Nat.le_of_ble_eq_true rfl); (case k9ₖ₁₆ => exact BindsTo.of_eq rfl); (case c5ₖ₁₆ => decide); (case kBₖ₁₆ => exact locs rfl); (case c2ₖ₁₆ => exact rfl); (case c3ₖ₁₆ => exact rfl); (case c4ₖ₁₆ => exact rfl); k_whole; intro g'ₖ L'ₖ h'ₖ F'ₖ N'ₖ B'ₖ X'ₖ T'ₖ D'ₖ hlt'ₖ hg'ₖ; (try dsimp only); (try k_fold))
  k_with "c_doneS" => ((rename (∀ _ _ _ _, LeftS _ _ _ _ _ → _) => hret9ₖ); (rename (∀ _ _, _ → ¬ _ ∈ List.map _ _ → _) => hg9ₖ); (rename (∀ _, _ ∈ _ → ¬ _ ∈ _ :: frs _) => hoff9ₖ); (rename Gr _ _ _ _ _ _ _ _ _ => G9ₖ); k_dflt (refine' hret9ₖ _ _ _ _ (left_ofS ?F9ₖ₁₇ ?N9ₖ₁₇ G9ₖ.turn hg9ₖ hoff9ₖ) ?_; (case F9ₖ₁₇ => assumption); (case N9ₖ₁₇ => assumption)))
  k_with "c_startS" => ((first | (unfold ConS; intro gdₖ cnₖ csₖ Lₖ aₖ ccdₖ clₖ outerₖ A₀ₖ baseₖ h₀ₖ mₖ sₖ RRₖ Bₖ Fₖ Xₖ Nₖ Tₖ hkₖ XBₖ TBₖ Dₖ hretₖ) | (unfold ConSB; intro Bₖ Fₖ Xₖ Nₖ Tₖ hkₖ XBₖ TBₖ Dₖ hretₖ)); have hoffₖ := off_frames Bₖ Nₖ; have hBaseₖ := BaseOk.mk XBₖ TBₖ; clear XBₖ TBₖ; revert Xₖ; k_fill; intro Xₖ; k_dflt walk_at "c_enterS")
  k_with "s_to" => repeat' (first | ((fail_if_success (with_reducible show wpAny _ _ (noteFrame _ _) (fun _ s₂ => wpAny _ _ (setFlight _ none) _ _ _) _ _)); walk_at "no_loop"; first | (k_unfold; (try dsimp only)) | walk1) | (dsimp only; (fail_if_success (with_reducible show wpAny _ _ (noteFrame _ _) (fun _ s₂ => wpAny _ _ (setFlight _ none) _ _ _) _ _)); walk_at "no_loop"; walk1) | fail "no step")
  k_with "c_enterR" => (refine' enter_defR ?k1ₖ₂₈ ?k2ₖ₂₈ ?k3ₖ₂₈ ?k4ₖ₂₈ ?k5ₖ₂₈ ?kAₖ₂₈ ?kFₖ₂₈ ?kKₖ₂₈ ?k6ₖ₂₈ ?k7ₖ₂₈ ?k8ₖ₂₈ ?kVₖ₂₈ ?kPₖ₂₈ ?kBₖ₂₈ ?c2ₖ₂₈ ?c3ₖ₂₈ ?c4ₖ₂₈ ?c5ₖ₂₈ ?_; (case kAₖ₂₈ => exact rfl); (case kFₖ₂₈ => exact rfl); (case kKₖ₂₈ => assumption); (case k1ₖ₂₈ => k_asm); (case k2ₖ₂₈ => k_asm); (case k3ₖ₂₈ => k_asm); (case k4ₖ₂₈ => k_asm); (case k5ₖ₂₈ => k_asm); (case k6ₖ₂₈ => k_is); (case k7ₖ₂₈ => k_is); (case k8ₖ₂₈ => exact Nat.le_of_ble_eq_true rfl); (case kVₖ₂₈ => kl_lit); (case kPₖ₂₈ => exact bind_lit (by k_asm) (by k_asm) rfl (fun _ => rfl)); (case kBₖ₂₈ => exact fun _ => locs rfl); (case c5ₖ₂₈ => decide); (case c2ₖ₂₈ => exact rfl); (case c3ₖ₂₈ => exact rfl); (case c4ₖ₂₈ => exact rfl); k_whole; intro D'ₖ g'ₖ L'ₖ h'ₖ tk'ₖ l1ₖ FG'ₖ F'ₖ N'ₖ B'ₖ X'ₖ T'ₖ hlt'ₖ hg'ₖ; (try k_lt l1ₖ); (try dsimp only); (try k_fold))
  k_with "c_enterV" => (refine' enter_defV ?k1ₖ₂₉ ?k2ₖ₂₉ ?k3ₖ₂₉ ?k4ₖ₂₉ ?k5ₖ₂₉ ?kAₖ₂₉ ?kFₖ₂₉ ?kKₖ₂₉ ?k6ₖ₂₉ ?k7ₖ₂₉ ?k8ₖ₂₉ ?h1ₖ₂₉ ?h2ₖ₂₉ ?h3ₖ₂₉ ?h4ₖ₂₉ ?h5ₖ₂₉ ?hzₖ₂₉ ?kBₖ₂₉ ?c2ₖ₂₉ ?c3ₖ₂₉ ?c4ₖ₂₉ ?c5ₖ₂₉ ?_; (case kAₖ₂₉ => exact rfl); (case kFₖ₂₉ => exact rfl); (case kKₖ₂₉ => assumption); (case k1ₖ₂₉ => k_asm); (case k2ₖ₂₉ => k_asm); (case k3ₖ₂₉ => k_asm); (case k4ₖ₂₉ => k_asm); (case k5ₖ₂₉ => k_asm); (case k6ₖ₂₉ => k_is); (case k7ₖ₂₉ => k_is); (case k8ₖ₂₉ => exact Nat.le_of_ble_eq_true rfl); (case h1ₖ₂₉ => exact rfl); (case h2ₖ₂₉ => exact rfl); (case h3ₖ₂₉ => exact rfl); (case h4ₖ₂₉ => exact rfl); (case h5ₖ₂₉ => exact rfl); (case hzₖ₂₉ => first | omega | ((have hl9ₖ := IntsAre.length (by with_reducible assumption)); omega)); (case kBₖ₂₉ => exact fun _ => locs rfl); (case c5ₖ₂₉ => decide); (case c2ₖ₂₉ => exact rfl); (case c3ₖ₂₉ => exact rfl); (case c4ₖ₂₉ => exact rfl); k_whole; intro D'ₖ g'ₖ L'ₖ h'ₖ tk'ₖ l1ₖ FG'ₖ F'ₖ N'ₖ B'ₖ X'ₖ T'ₖ hlt'ₖ hg'ₖ; (try k_lt l1ₖ); (try dsimp only); (try k_fold))
  k_with "c_startR" => ((first | (unfold Con; intro gdₖ cnₖ csₖ Lₖ aₖ ccdₖ clₖ outerₖ A₀ₖ baseₖ h₀ₖ mₖ sₖ RRₖ Bₖ Fₖ Xₖ Nₖ Tₖ hkₖ hretₖ) | (unfold ConB; intro Bₖ Fₖ Xₖ Nₖ Tₖ hkₖ hretₖ)); revert Xₖ; k_fill; intro Xₖ; k_dflt walk_at "c_enterR")
  k_with "c_startV" => ((first | (unfold Con; intro gdₖ cnₖ csₖ Lₖ aₖ ccdₖ clₖ outerₖ A₀ₖ baseₖ h₀ₖ mₖ sₖ RRₖ Bₖ Fₖ Xₖ Nₖ Tₖ hkₖ hretₖ) | (unfold ConB; intro Bₖ Fₖ Xₖ Nₖ Tₖ hkₖ hretₖ)); revert Xₖ; k_fill; intro Xₖ; k_dflt walk_at "c_enterV")
  k_with "k_run" => repeat' (first | (k_unfold; (try dsimp only)) | walk1 | (dsimp only; walk1) | fail "no step")
  k_with "c_doneT" => ((rename (∀ _ _ _ _, Left _ _ _ _ → _) => hret9ₖ); (rename (∀ _ _, _ → ¬ _ ∈ List.map _ _ → _) => hg9ₖ); k_dflt (refine' hret9ₖ _ _ _ _ (left_of ?F9ₖ₃₃ (news_tl ?N9ₖ₃₃) hg9ₖ) ?_; (case F9ₖ₃₃ => assumption); (case N9ₖ₃₃ => assumption)))
  k_with "k_comp" => repeat' (first | ((fail_if_success (with_reducible show LCg.CompEnd _ _ _ _ _ _ _ _ _ _ _ _ _ _)); first | (k_unfold; (try dsimp only)) | walk1) | ((fail_if_success (with_reducible show LCg.CompEnd _ _ _ _ _ _ _ _ _ _ _ _ _ _)); dsimp only; walk1) | fail "no step")
  k_with "k_srcV" => repeat' (first | ((fail_if_success (with_reducible refine SrcV.intro ?_ ?_ ?_ ?_ ?_ ?_)); first | (k_unfold; (try dsimp only)) | walk1) | fail "no step")
  k_with "c_enterSC" => (refine' enter_defSC ?k1ₖ₃₆ ?k2ₖ₃₆ ?k3ₖ₃₆ ?k4ₖ₃₆ ?k5ₖ₃₆ ?kDDₖ₃₆ ?kAₖ₃₆ ?kFₖ₃₆ ?kKₖ₃₆ ?k6ₖ₃₆ ?k7ₖ₃₆ ?k8ₖ₃₆ ?k9ₖ₃₆ ?kBₖ₃₆ ?kDₖ₃₆ ?c2ₖ₃₆ ?c3ₖ₃₆ ?c4ₖ₃₆ ?_; (case kAₖ₃₆ => exact rfl); (case kFₖ₃₆ => exact rfl); (case kKₖ₃₆ => assumption); (case k1ₖ₃₆ => k_asm); (case k2ₖ₃₆ => k_asm); (case k3ₖ₃₆ => k_asm); (case k4ₖ₃₆ => k_asm); (case k5ₖ₃₆ => k_asm); (case kDDₖ₃₆ => assumption); (case k6ₖ₃₆ => k_is); (case k7ₖ₃₆ => k_is); (case k8ₖ₃₆ => exact Nat.le_of_ble_eq_true rfl); (case k9ₖ₃₆ => exact BindsTo.of_eq rfl); (case kBₖ₃₆ => exact rfl); (case kDₖ₃₆ => decide +kernel); (case c2ₖ₃₆ => exact rfl); (case c3ₖ₃₆ => exact rfl); (case c4ₖ₃₆ => exact rfl); k_whole; intro g'ₖ L'ₖ h'ₖ tk'ₖ cells'ₖ F'ₖ N'ₖ Y'ₖ B'ₖ X'ₖ T'ₖ D'ₖ l1ₖ hg'ₖ; (try k_lt l1ₖ); k_cells Y'ₖ; (try simp only [List.nil_append, List.cons_append] at N'ₖ); (try dsimp only); (try k_fold))
  k_with "c_startSC" => ((first | (unfold ConS; intro gdₖ cnₖ csₖ Lₖ aₖ ccdₖ clₖ outerₖ A₀ₖ baseₖ h₀ₖ mₖ sₖ RRₖ Bₖ Fₖ Xₖ Nₖ Tₖ hkₖ XBₖ TBₖ Dₖ hretₖ) | (unfold ConSB; intro Bₖ Fₖ Xₖ Nₖ Tₖ hkₖ XBₖ TBₖ Dₖ hretₖ)); have hoffₖ := off_frames Bₖ Nₖ; have hBaseₖ := BaseOk.mk XBₖ TBₖ; clear XBₖ TBₖ; revert Xₖ; k_fill; intro Xₖ; k_dflt walk_at "c_enterSC")
  k_with "k_call2" => repeat' (first | ((fail_if_success (with_reducible show wpAny _ _ (call (Value.ref _) [Value.ref _, Value.ref _]) _ _ _)); first | (k_unfold; (try dsimp only)) | walk1) | (dsimp only; (fail_if_success (with_reducible show wpAny _ _ (call (Value.ref _) [Value.ref _, Value.ref _]) _ _ _)); walk1) | fail "no step")
  k_with "execs cons" => (dsimp only; walk_at "execs cons")
  k_with "execs nil" => (dsimp only; walk_at "execs nil")
  k_with "ite" => (k_openite; first | refine ite_pos (ne_yes (by omega)) ?_ | refine ite_neg (ne_no (by omega)) ?_)
  k_with "k_all" => first | exact List.forall_mem_nil _ | (refine' List.forall_mem_cons.mpr ⟨?aₖ₁₁, ?bₖ₁₁⟩; (case aₖ₁₁ => k_ne); (case bₖ₁₁ => k_all)) | fail "k_all: not by order"
  k_with "call builtin:list.append" => ((with_reducible show wpAny _ _ (call (Value.builtin _) [Value.ref _, Value.int _ _]) _ _ _); k_dflt (refine' app_int ?Fₖ₁₉ ?Nₖ₁₉ ?Uₖ₁₉ ?iₖ₁₉ ?zₖ₁₉ ?_; (case Fₖ₁₉ => k_asm); (case Nₖ₁₉ => k_asm); (case Uₖ₁₉ => k_upd); (case iₖ₁₉ => with_reducible assumption); (case zₖ₁₉ => omega)); intro h'ₖ F'ₖ N'ₖ hi'ₖ hl'ₖ; (try dsimp only at N'ₖ); (try k_sweep))
  k_with "subscriptTail Name Slice ref ref" => ((with_reducible show wpAny _ _ (subscriptTail _ (PySem.Expr.Slice (some _) none none _) (Value.ref _) (Value.ref _)) _ _ _); k_dflt (refine' slice_from ?Fₖ₂₀ ?Nₖ₂₀ ?mₖ₂₀ ?iₖ₂₀ ?zₖ₂₀ ?_ ?sₖ₂₀ ?tₖ₂₀; (case Fₖ₂₀ => k_asm); (case Nₖ₂₀ => k_asm); (case mₖ₂₀ => k_mem); (case iₖ₂₀ => with_reducible assumption); (case sₖ₂₀ => with_unfolding_all rfl); (case tₖ₂₀ => kmk_pure); (case zₖ₂₀ => omega)); intro D'ₖ ws'ₖ h'ₖ F'ₖ N'ₖ l1ₖ hI'ₖ hl'ₖ; (try k_lt l1ₖ); (try k_sweep))
  k_with "call builtin:list.extend" => ((with_reducible show wpAny _ _ (call (Value.builtin _) [Value.ref _, Value.ref _]) _ _ _); k_dflt (refine' ext_ints ?Fₖ₂₁ ?Nₖ₂₁ ?bₖ₂₁ ?Uₖ₂₁ ?iₖ₂₁ ?jₖ₂₁ ?zₖ₂₁ ?_; (case Fₖ₂₁ => k_asm); (case Nₖ₂₁ => k_asm); (case bₖ₂₁ => k_mem); (case Uₖ₂₁ => (intro k'ₖ; k_upd)); (case iₖ₂₁ => with_reducible assumption); (case jₖ₂₁ => with_reducible assumption); (case zₖ₂₁ => omega)); intro h'ₖ k'ₖ F'ₖ N'ₖ hi'ₖ hl'ₖ; (try dsimp only at N'ₖ); (try k_sweep))
  k_with "call builtin:dict.get" => (k_dflt (refine' kdg_get1 (knd := PySem.intKind _ _) ?Nₖ₂₅ ?mₖ₂₅ ?dₖ₂₅ ?loₖ₂₅ (intKind_is _ _ _ _) _ ?lₖ₂₅ ?_; (case Nₖ₂₅ => k_asm); (case mₖ₂₅ => k_mem); (case dₖ₂₅ => k_asm); (case loₖ₂₅ => k_asm); (case lₖ₂₅ => with_reducible assumption)); dsimp only [Option.getD])
  k_with "subscriptTail" => ((with_reducible show wpAny _ _ (subscriptTail _ _ (Value.ref _) (Value.int _ _)) _ _ _); k_dflt (refine' kda_item (knd := PySem.intKind _ _) ?Nₖ₂₆ ?mₖ₂₆ ?dₖ₂₆ (intKind_is _ _ _ _) ?lₖ₂₆ ?_ ?sₖ₂₆ ?gₖ₂₆; (case Nₖ₂₆ => k_asm); (case mₖ₂₆ => k_mem); (case dₖ₂₆ => k_asm); (case lₖ₂₆ => with_reducible assumption); (case sₖ₂₆ => with_unfolding_all rfl); (case gₖ₂₆ => intro _; with_unfolding_all rfl)))
  k_with "compareOp In int ref" => (k_dflt (refine' kda_in (knd := PySem.intKind _ _) ?Nₖ₂₇ ?mₖ₂₇ ?dₖ₂₇ ?loₖ₂₇ (intKind_is _ _ _ _) _ ?lₖ₂₇ ?_; (case Nₖ₂₇ => k_asm); (case mₖ₂₇ => k_mem); (case dₖ₂₇ => k_asm); (case loₖ₂₇ => k_asm); (case lₖ₂₇ => with_reducible assumption)))
  exact trivial
structure ND (as : List Nat) : Prop where
  nd : as.Nodup
theorem upd_nd (pre : List (Addr × Obj)) {d : Nat} {o o' : Obj} {r : List (Addr × Obj)} (h : ((pre ++ ((d : Addr), o) :: r).map (·.1)).Nodup) : Upd d o o' (pre ++ ((d : Addr), o) :: r) (pre ++ ((d : Addr), o') :: r) := by
  induction pre with
  | nil =>
    refine .head fun p hp e => ?_
    exact (List.nodup_cons.mp h).1 (e ▸ List.mem_map_of_mem (f := (·.1)) hp)
  | cons p pre ih =>
    have h2 := List.nodup_cons.mp h
    refine .tail (fun e => h2.1 ?_) (ih h2.2)
    show p.1 ∈ List.map (·.1) (pre ++ ((d : Addr), o) :: r)
    rw [e]
    exact List.mem_map_of_mem (f := (·.1)) (a := ((d : Addr), o)) (List.mem_append.mpr (.inr (.head _)))
theorem updF_nd (pre : List (Addr × Obj)) {d : Nat} {o : Obj} {r : List (Addr × Obj)} (h : ((pre ++ ((d : Addr), o) :: r).map (·.1)).Nodup) : UpdF d o (pre ++ ((d : Addr), o) :: r) (fun o' => pre ++ ((d : Addr), o') :: r) := by
  induction pre with
  | nil =>
    refine .head fun p hp e => ?_
    exact (List.nodup_cons.mp h).1 (e ▸ List.mem_map_of_mem (f := (·.1)) hp)
  | cons p pre ih =>
    have h2 := List.nodup_cons.mp h
    refine .tail (fun e => h2.1 ?_) (ih h2.2)
    show p.1 ∈ List.map (·.1) (pre ++ ((d : Addr), o) :: r)
    rw [e]
    exact List.mem_map_of_mem (f := (·.1)) (a := ((d : Addr), o)) (List.mem_append.mpr (.inr (.head _)))
section
variable {d : Nat} {o o' : Obj} {r : List (Addr × Obj)} {p0 p1 p2 p3 p4 p5 p6 p7 p8 p9 : Addr × Obj}
theorem upd_0 (h : ND (d :: r.map (·.1))) : Upd d o o' ((d, o) :: r) ((d, o') :: r) := upd_nd [] h.nd
theorem upd_1 (h : ND (p0.1 :: d :: r.map (·.1))) : Upd d o o' (p0 :: (d, o) :: r) (p0 :: (d, o') :: r) := upd_nd [p0] h.nd
theorem upd_2 (h : ND (p0.1 :: p1.1 :: d :: r.map (·.1))) : Upd d o o' (p0 :: p1 :: (d, o) :: r) (p0 :: p1 :: (d, o') :: r) := upd_nd [p0, p1] h.nd
theorem upd_3 (h : ND (p0.1 :: p1.1 :: p2.1 :: d :: r.map (·.1))) : Upd d o o' (p0 :: p1 :: p2 :: (d, o) :: r) (p0 :: p1 :: p2 :: (d, o') :: r) := upd_nd [p0, p1, p2] h.nd
theorem upd_4 (h : ND (p0.1 :: p1.1 :: p2.1 :: p3.1 :: d :: r.map (·.1))) : Upd d o o' (p0 :: p1 :: p2 :: p3 :: (d, o) :: r) (p0 :: p1 :: p2 :: p3 :: (d, o') :: r) := upd_nd [p0, p1, p2, p3] h.nd
theorem upd_5 (h : ND (p0.1 :: p1.1 :: p2.1 :: p3.1 :: p4.1 :: d :: r.map (·.1))) : Upd d o o' (p0 :: p1 :: p2 :: p3 :: p4 :: (d, o) :: r) (p0 :: p1 :: p2 :: p3 :: p4 :: (d, o') :: r) := upd_nd [p0, p1, p2, p3, p4] h.nd
theorem upd_6 (h : ND (p0.1 :: p1.1 :: p2.1 :: p3.1 :: p4.1 :: p5.1 :: d :: r.map (·.1))) : Upd d o o' (p0 :: p1 :: p2 :: p3 :: p4 :: p5 :: (d, o) :: r) (p0 :: p1 :: p2 :: p3 :: p4 :: p5 :: (d, o') :: r) := upd_nd [p0, p1, p2, p3, p4, p5] h.nd
theorem upd_7 (h : ND (p0.1 :: p1.1 :: p2.1 :: p3.1 :: p4.1 :: p5.1 :: p6.1 :: d :: r.map (·.1))) : Upd d o o' (p0 :: p1 :: p2 :: p3 :: p4 :: p5 :: p6 :: (d, o) :: r) (p0 :: p1 :: p2 :: p3 :: p4 :: p5 :: p6 :: (d, o') :: r) := upd_nd [p0, p1, p2, p3, p4, p5, p6] h.nd
theorem updF_0 (h : ND (d :: r.map (·.1))) : UpdF d o ((d, o) :: r) (fun o' => (d, o') :: r) := updF_nd [] h.nd
theorem updF_1 (h : ND (p0.1 :: d :: r.map (·.1))) : UpdF d o (p0 :: (d, o) :: r) (fun o' => p0 :: (d, o') :: r) := updF_nd [p0] h.nd
theorem updF_2 (h : ND (p0.1 :: p1.1 :: d :: r.map (·.1))) : UpdF d o (p0 :: p1 :: (d, o) :: r) (fun o' => p0 :: p1 :: (d, o') :: r) := updF_nd [p0, p1] h.nd
theorem updF_3 (h : ND (p0.1 :: p1.1 :: p2.1 :: d :: r.map (·.1))) : UpdF d o (p0 :: p1 :: p2 :: (d, o) :: r) (fun o' => p0 :: p1 :: p2 :: (d, o') :: r) := updF_nd [p0, p1, p2] h.nd
theorem updF_4 (h : ND (p0.1 :: p1.1 :: p2.1 :: p3.1 :: d :: r.map (·.1))) : UpdF d o (p0 :: p1 :: p2 :: p3 :: (d, o) :: r) (fun o' => p0 :: p1 :: p2 :: p3 :: (d, o') :: r) := updF_nd [p0, p1, p2, p3] h.nd
theorem updF_5 (h : ND (p0.1 :: p1.1 :: p2.1 :: p3.1 :: p4.1 :: d :: r.map (·.1))) : UpdF d o (p0 :: p1 :: p2 :: p3 :: p4 :: (d, o) :: r) (fun o' => p0 :: p1 :: p2 :: p3 :: p4 :: (d, o') :: r) := updF_nd [p0, p1, p2, p3, p4] h.nd
theorem updF_6 (h : ND (p0.1 :: p1.1 :: p2.1 :: p3.1 :: p4.1 :: p5.1 :: d :: r.map (·.1))) : UpdF d o (p0 :: p1 :: p2 :: p3 :: p4 :: p5 :: (d, o) :: r) (fun o' => p0 :: p1 :: p2 :: p3 :: p4 :: p5 :: (d, o') :: r) := updF_nd [p0, p1, p2, p3, p4, p5] h.nd
end
theorem lines_SorF_473 : True := by
  k_with "k_upd" => first | exact upd_0 (by assumption) | exact upd_1 (by assumption) | exact upd_2 (by assumption) | exact upd_3 (by assumption) | exact upd_4 (by assumption) | exact upd_5 (by assumption) | exact upd_6 (by assumption) | exact upd_7 (by assumption) | fail "k_upd: no ND"
  k_with "k_updF" => first | exact updF_0 (by assumption) | exact updF_1 (by assumption) | exact updF_2 (by assumption) | exact updF_3 (by assumption) | exact updF_4 (by assumption) | exact updF_5 (by assumption) | exact updF_6 (by assumption) | fail "k_updF: no ND"
  exact trivial
theorem ND.push {D : Nat} {news : List (Addr × Obj)} (h : ND (news.map (·.1))) (l : ∀ p ∈ news, p.1 < D) : ND (D :: news.map (·.1)) := ⟨List.nodup_cons.mpr ⟨fun q => by
  obtain ⟨p, hp, e⟩ := List.mem_map.mp q
  have := l p hp
  rw [e] at this
  exact Nat.lt_irrefl _ this, h.nd⟩⟩
theorem ND.lt {D : Nat} {news news' : List (Addr × Obj)} (l : ∀ p ∈ news, p.1 < D) (e : news'.map (·.1) = news.map (·.1)) : ∀ p ∈ news', p.1 < D := fun p hp => by
  have h : p.1 ∈ news.map (·.1) := e ▸ List.mem_map_of_mem (f := (·.1)) hp
  obtain ⟨z, hz, ez⟩ := List.mem_map.mp h
  have := l z hz
  rwa [ez] at this
theorem mem6 {p a b c d e f : Addr × Obj} {r r' : List (Addr × Obj)} (h : p ∈ r → p ∈ r') (hp : p ∈ a :: b :: c :: d :: e :: f :: r) : p ∈ a :: b :: c :: d :: e :: f :: r' := by
  simp only [List.mem_cons] at hp ⊢
  rcases hp with q | q | q | q | q | q | q
  · exact .inl q
  · exact .inr (.inl q)
  · exact .inr (.inr (.inl q))
  · exact .inr (.inr (.inr (.inl q)))
  · exact .inr (.inr (.inr (.inr (.inl q))))
  · exact .inr (.inr (.inr (.inr (.inr (.inl q)))))
  · exact .inr (.inr (.inr (.inr (.inr (.inr (h q))))))
theorem mem5 {p a b c d e : Addr × Obj} {r r' : List (Addr × Obj)} (h : p ∈ r → p ∈ r') (hp : p ∈ a :: b :: c :: d :: e :: r) : p ∈ a :: b :: c :: d :: e :: r' := by
  simp only [List.mem_cons] at hp ⊢
  rcases hp with q | q | q | q | q | q
  · exact .inl q
  · exact .inr (.inl q)
  · exact .inr (.inr (.inl q))
  · exact .inr (.inr (.inr (.inl q)))
  · exact .inr (.inr (.inr (.inr (.inl q))))
  · exact .inr (.inr (.inr (.inr (.inr (h q)))))
theorem ND.off {D : Nat} {news news' : List (Addr × Obj)} (l : ∀ p ∈ news, p.1 < D) (e : news'.map (·.1) = news.map (·.1)) : ∀ p ∈ news', p.1 ≠ D := fun p hp q => by
  have h : p.1 ∈ news.map (·.1) := e ▸ List.mem_map_of_mem (f := (·.1)) hp
  obtain ⟨z, hz, ez⟩ := List.mem_map.mp h
  have := l z hz
  rw [ez, q] at this
  exact Nat.lt_irrefl _ this
theorem nam1 {P : Prop} {g h : Heap} {L a : Addr} {oa : Obj} {r : List (Addr × Obj)} (_N : News g L h ((a, oa) :: r)) (k : ∀ a' : Nat, a' = a → P) : P := k a rfl
noncomputable abbrev niL (x d l : Addr) (vi vn : Value) (ls : List Value) (k : Nat) : List (Addr × Obj) := [niO x d l vi vn, (d, dictOf [] 0), (l, W.listOf (List.toArray ls) k)]
structure SA where
  (P dP D R : Nat) (x d l : Int → Nat) (h1 h2 h3 h4 : Tok) (v : Int → Tok)
  oD : Obj
structure SV where
  (po fi : Int) (tpo tfi : Tok) (t : Int → Tok) (s : Int → List Value) (k : Int → Nat) (kr : Nat) (rd : List Value)
noncomputable def SV.setT (V : SV) (t : Int → Tok) : SV := { V with t := t }
noncomputable abbrev kv4 (x : Int → Nat) : List (Int × Value) := [(0, .ref (x 0)), (1, .ref (x 1)), (2, .ref (x 2)), (3, .ref (x 3))]
noncomputable def adr3 (A : SA) (i : Int) : List Nat := [A.x i, A.d i, A.l i]
noncomputable def adrN (A : SA) : List Nat := [A.P, A.dP, A.D] ++ (adr3 A 0 ++ (adr3 A 1 ++ (adr3 A 2 ++ adr3 A 3)))
structure SA.Ok (A : SA) : Prop where
  nd : (A.R :: adrN A).Nodup
structure SA.Dict (w : World) (A : SA) : Prop where
  d : Obj.IsDictOf (intKind Challenge.rw_om0134_01.row.prog w) A.oD (kv4 A.x)
  lo : ((A.D : Addr) == sysModules) = false
noncomputable def nodeL (A : SA) (V : SV) (n : Int → Int) (i : Int) : List (Addr × Obj) := niL (A.x i) (A.d i) (A.l i) (.int i (A.v i)) (.int (n i) (V.t i)) (V.s i) (V.k i)
noncomputable def nodesL (A : SA) (V : SV) (n : Int → Int) : List (Addr × Obj) := nodeL A V n 0 ++ (nodeL A V n 1 ++ (nodeL A V n 2 ++ nodeL A V n 3))
noncomputable abbrev ownD (w : World) (A : SA) (V : SV) (rv : Value) : Obj := dictOf [⟨PyData.keyHash w.params "_node2info", .str "_node2info" A.h1, .ref A.D⟩, ⟨PyData.keyHash w.params "_ready_nodes", .str "_ready_nodes" A.h2, rv⟩, ⟨PyData.keyHash w.params "_npassedout", .str "_npassedout" A.h3, .int V.po V.tpo⟩, ⟨PyData.keyHash w.params "_nfinished", .str "_nfinished" A.h4, .int V.fi V.tfi⟩] 4
noncomputable def sorM (w : World) (A : SA) (V : SV) (n : Int → Int) : List (Addr × Obj) := (A.P, instObj 151 A.dP) :: (A.dP, ownD w A V .none) :: (A.D, A.oD) :: nodesL A V n
noncomputable def sorN (w : World) (A : SA) (V : SV) (n : Int → Int) : List (Addr × Obj) := (A.R, W.listOf (List.toArray V.rd) V.kr) :: (A.P, instObj 151 A.dP) :: (A.dP, ownD w A V (.ref A.R)) :: (A.D, A.oD) :: nodesL A V n
theorem sorM_adr {w : World} {A : SA} {V : SV} {n : Int → Int} : (sorM w A V n).map (·.1) = adrN A := rfl
theorem sorN_adr {w : World} {A : SA} {V : SV} {n : Int → Int} : (sorN w A V n).map (·.1) = A.R :: adrN A := rfl
noncomputable def othL (A : SA) (V : SV) (n : Int → Int) (i : Int) : List (Addr × Obj) := ([0, 1, 2, 3].filter fun j => j ≠ i).flatMap (nodeL A V n)
theorem nodes_flat {A : SA} {V : SV} {n : Int → Int} : nodesL A V n = [0, 1, 2, 3].flatMap (nodeL A V n) := by
  simp [nodesL]
theorem perm_pick {i : Int} (hi : 0 ≤ i ∧ i ≤ 3) : ([0, 1, 2, 3] : List Int).Perm (i :: [0, 1, 2, 3].filter fun j => j ≠ i) := by
  have : i = 0 ∨ i = 1 ∨ i = 2 ∨ i = 3 := by omega
  rcases this with rfl | rfl | rfl | rfl <;> decide
theorem nodes_perm {A : SA} {V : SV} {n : Int → Int} {i : Int} (hi : 0 ≤ i ∧ i ≤ 3) : (nodesL A V n).Perm (nodeL A V n i ++ othL A V n i) := by
  rw [nodes_flat]
  exact (perm_pick hi).flatMap_right _
noncomputable abbrev pickL (A : SA) (V : SV) (n : Int → Int) (i : Int) : List (Addr × Obj) := ((A.x i : Nat), ({ cls := .ref 54, dict := some (A.d i), data := .plain, slots := #[some (.int i (A.v i)), some (.int (n i) (V.t i)), some (.ref (A.l i))] } : Obj)) :: ((A.d i : Nat), dictOf [] 0) :: ((A.l i : Nat), W.listOf (List.toArray (V.s i)) (V.k i)) :: othL A V n i
theorem pick_mem {A : SA} {V : SV} {n : Int → Int} {i : Int} (hi : 0 ≤ i ∧ i ≤ 3) (p : Addr × Obj) : p ∈ nodesL A V n ↔ p ∈ pickL A V n i := (nodes_perm hi).mem_iff
theorem pick_adr {A : SA} {V : SV} {n : Int → Int} {i : Int} (hi : 0 ≤ i ∧ i ≤ 3) : ((nodesL A V n).map (·.1)).Perm (A.x i :: A.d i :: A.l i :: (othL A V n i).map (·.1)) := (nodes_perm hi).map _
theorem SA.Ok.own {A : SA} (h : A.Ok) {V : SV} {n : Int → Int} : ND (A.R :: A.P :: A.dP :: A.D :: (nodesL A V n).map (·.1)) := ⟨h.nd⟩
theorem SA.Ok.pick {A : SA} (h : A.Ok) {V : SV} {n : Int → Int} {i : Int} (hi : 0 ≤ i ∧ i ≤ 3) : ND (A.R :: A.P :: A.dP :: A.D :: A.x i :: A.d i :: A.l i :: (othL A V n i).map (·.1)) :=
  ⟨((((pick_adr (V := V) (n := n) hi).cons _).cons _).cons _).cons _ |>.nodup_iff.mp h.nd⟩
theorem oth_same {A : SA} {V V' : SV} {n n' : Int → Int} {i : Int} (h : ∀ j, j ≠ i → n' j = n j ∧ V'.t j = V.t j ∧ V'.s j = V.s j ∧ V'.k j = V.k j) : othL A V' n' i = othL A V n i := by
  unfold othL
  have e : ∀ l : List Int, (∀ j ∈ l, j ≠ i) → l.flatMap (nodeL A V' n') = l.flatMap (nodeL A V n) := by
    intro l
    induction l with
    | nil => intro _; rfl
    | cons a l ih =>
      intro hl
      rw [List.flatMap_cons, List.flatMap_cons, ih fun j hj => hl j (.tail _ hj)]
      obtain ⟨h1, h2, h3, h4⟩ := h a (hl a (.head _))
      unfold nodeL
      rw [h1, h2, h3, h4]
  exact e _ fun j hj => by simpa using (List.mem_filter.mp hj).2
theorem kv4_at {x : Int → Nat} {i : Int} (hi : 0 ≤ i ∧ i ≤ 3) : PySem.valueAt (kv4 x) i = some (.ref (x i)) := by
  have : i = 0 ∨ i = 1 ∨ i = 2 ∨ i = 3 := by omega
  rcases this with rfl | rfl | rfl | rfl <;> rfl
noncomputable def upd (f : Int → Int) (i v : Int) (j : Int) : Int := if j = i then v else f j
noncomputable def updT (f : Int → Tok) (i : Int) (v : Tok) (j : Int) : Tok := if j = i then v else f j
noncomputable def updS (f : Int → List Value) (i : Int) (v : List Value) (j : Int) : List Value := if j = i then v else f j
noncomputable def updK (f : Int → Nat) (i : Int) (v : Nat) (j : Int) : Nat := if j = i then v else f j
theorem upd_self {f : Int → Int} {i v : Int} : upd f i v i = v := if_pos rfl
theorem updT_self {f : Int → Tok} {i : Int} {v : Tok} : updT f i v i = v := if_pos rfl
theorem updS_self {f : Int → List Value} {i : Int} {v : List Value} : updS f i v i = v := if_pos rfl
theorem updK_self {f : Int → Nat} {i : Int} {v : Nat} : updK f i v i = v := if_pos rfl
theorem SA.pickND {A : SA} {V : SV} {n : Int → Int} {i : Int} (pre : List Nat) (h : ND (pre ++ adrN A)) (hi : 0 ≤ i ∧ i ≤ 3) : ND (pre ++ (A.P :: A.dP :: A.D :: A.x i :: A.d i :: A.l i :: (othL A V n i).map (·.1))) := by
  have e : (adrN A).Perm (A.P :: A.dP :: A.D :: A.x i :: A.d i :: A.l i :: (othL A V n i).map (·.1)) := (((pick_adr (V := V) (n := n) hi).cons _).cons _).cons _
  exact ⟨(e.append_left pre).nodup_iff.mp h.nd⟩
theorem SA.unpickND {A : SA} {V : SV} {n : Int → Int} {i : Int} (pre : List Nat) (h : ND (pre ++ (A.P :: A.dP :: A.D :: A.x i :: A.d i :: A.l i :: (othL A V n i).map (·.1)))) (hi : 0 ≤ i ∧ i ≤ 3) : ND (pre ++ adrN A) := by
  have e : (adrN A).Perm (A.P :: A.dP :: A.D :: A.x i :: A.d i :: A.l i :: (othL A V n i).map (·.1)) := (((pick_adr (V := V) (n := n) hi).cons _).cons _).cons _
  exact ⟨(e.append_left pre).nodup_iff.mpr h.nd⟩
theorem sub3 {a b c : Addr × Obj} {r : List (Addr × Obj)} : ∀ p ∈ [a, b, c], p ∈ a :: b :: c :: r := fun p hp => by
  simp only [List.mem_cons, List.not_mem_nil, or_false] at hp ⊢
  rcases hp with q | q | q
  · exact .inl q
  · exact .inr (.inl q)
  · exact .inr (.inr (.inl q))
theorem nodes_back {A : SA} {V V' : SV} {n n' : Int → Int} {i : Int} {all : List (Addr × Obj)} {vn : Value} {ls : List Value} {k : Nat} (hi : 0 ≤ i ∧ i ≤ 3) (ho : othL A V' n' i = othL A V n i) (en : vn = .int (n' i) (V'.t i)) (es : ls = V'.s i) (ek : k = V'.k i)
    (hx : (((A.x i : Nat) : Addr), ({ cls := .ref 54, dict := some (A.d i), data := .plain, slots := #[some (.int i (A.v i)), some vn, some (.ref (A.l i))] } : Obj)) ∈ all) (hd : (((A.d i : Nat) : Addr), dictOf [] 0) ∈ all) (hl : (((A.l i : Nat) : Addr), W.listOf (List.toArray ls) k) ∈ all)
    (h : ∀ p ∈ othL A V n i, p ∈ all) : ∀ p ∈ nodesL A V' n', p ∈ all := fun p hp => by
  subst en es ek
  rcases List.mem_cons.mp ((pick_mem hi p).mp hp) with rfl | hp
  · exact hx
  rcases List.mem_cons.mp hp with rfl | hp
  · exact hd
  rcases List.mem_cons.mp hp with rfl | hp
  · exact hl
  · exact h p (ho ▸ hp)
theorem nodes_num {A : SA} {V : SV} {n : Int → Int} {i v : Int} {tk : Tok} {all : List (Addr × Obj)} (hi : 0 ≤ i ∧ i ≤ 3)
    (hx : (((A.x i : Nat) : Addr), ({ cls := .ref 54, dict := some (A.d i), data := .plain, slots := #[some (.int i (A.v i)), some (.int v tk), some (.ref (A.l i))] } : Obj)) ∈ all) (hd : (((A.d i : Nat) : Addr), dictOf [] 0) ∈ all) (hl : (((A.l i : Nat) : Addr), W.listOf (List.toArray (V.s i)) (V.k i)) ∈ all)
    (h : ∀ p ∈ othL A V n i, p ∈ all) : ∀ p ∈ nodesL A (V.setT (updT V.t i tk)) (upd n i v), p ∈ all :=
  nodes_back (V' := V.setT (updT V.t i tk)) hi (oth_same fun j hj => ⟨if_neg hj, if_neg hj, rfl, rfl⟩) (vn := .int v tk) (by rw [upd_self]; show Value.int v tk = .int v (updT V.t i tk i); rw [updT_self]) rfl rfl hx hd hl h
theorem nodes_num5 {A : SA} {V : SV} {n : Int → Int} {i v : Int} {tk : Tok} {a b c d e : Addr × Obj} (hi : 0 ≤ i ∧ i ≤ 3) : ∀ p ∈ a :: b :: c :: d :: e :: nodesL A (V.setT (updT V.t i tk)) (upd n i v),
    p ∈ a :: b :: c :: d :: e :: (((A.x i : Nat) : Addr), ({ cls := .ref 54, dict := some (A.d i), data := .plain, slots := #[some (.int i (A.v i)), some (.int v tk), some (.ref (A.l i))] } : Obj)) :: (((A.d i : Nat) : Addr), dictOf [] 0) :: (((A.l i : Nat) : Addr), W.listOf (List.toArray (V.s i)) (V.k i)) :: othL A V n i :=
  fun p hp => mem5 (nodes_num hi (.head _) (.tail _ (.head _)) (.tail _ (.tail _ (.head _))) (fun p hp => .tail _ (.tail _ (.tail _ hp))) p) hp
theorem nodes_num6 {A : SA} {V : SV} {n : Int → Int} {i v : Int} {tk : Tok} {a b c d e f : Addr × Obj} (hi : 0 ≤ i ∧ i ≤ 3) : ∀ p ∈ a :: b :: c :: d :: e :: f :: nodesL A (V.setT (updT V.t i tk)) (upd n i v),
    p ∈ a :: b :: c :: d :: e :: f :: (((A.x i : Nat) : Addr), ({ cls := .ref 54, dict := some (A.d i), data := .plain, slots := #[some (.int i (A.v i)), some (.int v tk), some (.ref (A.l i))] } : Obj)) :: (((A.d i : Nat) : Addr), dictOf [] 0) :: (((A.l i : Nat) : Addr), W.listOf (List.toArray (V.s i)) (V.k i)) :: othL A V n i :=
  fun p hp => mem6 (nodes_num hi (.head _) (.tail _ (.head _)) (.tail _ (.tail _ (.head _))) (fun p hp => .tail _ (.tail _ (.tail _ hp))) p) hp
theorem pick6 {A : SA} {V : SV} {n : Int → Int} {i : Int} {a b c d e f : Addr × Obj} (hi : 0 ≤ i ∧ i ≤ 3) : ∀ p ∈ a :: b :: c :: d :: e :: f :: pickL A V n i, p ∈ a :: b :: c :: d :: e :: f :: nodesL A V n := fun p hp => mem6 ((pick_mem hi) p).mpr hp
theorem pick7 {A : SA} {V : SV} {n : Int → Int} {i : Int} {a b c d e f g : Addr × Obj} (hi : 0 ≤ i ∧ i ≤ 3) : ∀ p ∈ a :: b :: c :: d :: e :: f :: g :: pickL A V n i, p ∈ a :: b :: c :: d :: e :: f :: g :: nodesL A V n := fun p hp => by
  rcases List.mem_cons.mp hp with rfl | hp
  · exact .head _
  · exact .tail _ (pick6 hi p hp)
theorem mem3 {p a b c : Addr × Obj} {r r' : List (Addr × Obj)} (h : p ∈ r → p ∈ r') (hp : p ∈ a :: b :: c :: r) : p ∈ a :: b :: c :: r' := by
  simp only [List.mem_cons] at hp ⊢
  rcases hp with q | q | q | q
  · exact .inl q
  · exact .inr (.inl q)
  · exact .inr (.inr (.inl q))
  · exact .inr (.inr (.inr (h q)))
theorem pick3 {A : SA} {V : SV} {n : Int → Int} {i : Int} {a b c : Addr × Obj} (hi : 0 ≤ i ∧ i ≤ 3) : ∀ p ∈ a :: b :: c :: pickL A V n i, p ∈ a :: b :: c :: nodesL A V n := fun p hp => mem3 ((pick_mem hi) p).mpr hp
theorem nodes_num3 {A : SA} {V : SV} {n : Int → Int} {i v : Int} {tk : Tok} {a b c : Addr × Obj} (hi : 0 ≤ i ∧ i ≤ 3) : ∀ p ∈ a :: b :: c :: nodesL A (V.setT (updT V.t i tk)) (upd n i v),
    p ∈ a :: b :: c :: (((A.x i : Nat) : Addr), ({ cls := .ref 54, dict := some (A.d i), data := .plain, slots := #[some (.int i (A.v i)), some (.int v tk), some (.ref (A.l i))] } : Obj)) :: (((A.d i : Nat) : Addr), dictOf [] 0) :: (((A.l i : Nat) : Addr), W.listOf (List.toArray (V.s i)) (V.k i)) :: othL A V n i :=
  fun p hp => mem3 (nodes_num hi (.head _) (.tail _ (.head _)) (.tail _ (.tail _ (.head _))) (fun p hp => .tail _ (.tail _ (.tail _ hp))) p) hp
noncomputable def SV.setS (V : SV) (i : Int) (ls : List Value) (k : Nat) : SV := { V with s := updS V.s i ls, k := updK V.k i k }
theorem nodes_suc {A : SA} {V : SV} {n : Int → Int} {i : Int} {ls : List Value} {k : Nat} {all : List (Addr × Obj)} (hi : 0 ≤ i ∧ i ≤ 3)
    (hx : (((A.x i : Nat) : Addr), ({ cls := .ref 54, dict := some (A.d i), data := .plain, slots := #[some (.int i (A.v i)), some (.int (n i) (V.t i)), some (.ref (A.l i))] } : Obj)) ∈ all) (hd : (((A.d i : Nat) : Addr), dictOf [] 0) ∈ all) (hl : (((A.l i : Nat) : Addr), W.listOf (List.toArray ls) k) ∈ all)
    (h : ∀ p ∈ othL A V n i, p ∈ all) : ∀ p ∈ nodesL A (V.setS i ls k) n, p ∈ all :=
  nodes_back (V := V) (V' := V.setS i ls k) (n := n) (n' := n) hi (oth_same fun j hj => ⟨rfl, rfl, if_neg hj, if_neg hj⟩) rfl (by show ls = updS V.s i ls i; rw [updS_self]) (by show k = updK V.k i k i; rw [updK_self]) hx hd hl h
theorem nodes_suc3 {A : SA} {V : SV} {n : Int → Int} {i : Int} {ls : List Value} {k : Nat} {a b c : Addr × Obj} (hi : 0 ≤ i ∧ i ≤ 3) : ∀ p ∈ a :: b :: c :: nodesL A (V.setS i ls k) n,
    p ∈ a :: b :: c :: (((A.x i : Nat) : Addr), ({ cls := .ref 54, dict := some (A.d i), data := .plain, slots := #[some (.int i (A.v i)), some (.int (n i) (V.t i)), some (.ref (A.l i))] } : Obj)) :: (((A.d i : Nat) : Addr), dictOf [] 0) :: (((A.l i : Nat) : Addr), W.listOf (List.toArray ls) k) :: othL A V n i :=
  fun p hp => mem3 (nodes_suc hi (.head _) (.tail _ (.head _)) (.tail _ (.tail _ (.head _))) (fun p hp => .tail _ (.tail _ (.tail _ hp))) p) hp
theorem cons_mem {a : Addr × Obj} {r r' : List (Addr × Obj)} (h : ∀ p ∈ r, p ∈ r') : ∀ p ∈ a :: r, p ∈ a :: r' := fun p hp => (List.mem_cons.mp hp).elim (fun e => e ▸ .head _) fun hp => .tail _ (h p hp)
noncomputable def SV.setF (V : SV) (po fi : Int) (tpo tfi : Tok) : SV := { V with po := po, fi := fi, tpo := tpo, tfi := tfi }
theorem sorN_F {w : World} {A : SA} {V : SV} {n : Int → Int} {po fi : Int} {tpo tfi : Tok} : sorN w A (V.setF po fi tpo tfi) n = (A.R, W.listOf (List.toArray V.rd) V.kr) :: (A.P, instObj 151 A.dP) ::
    (A.dP, dictOf [⟨PyData.keyHash w.params "_node2info", .str "_node2info" A.h1, .ref A.D⟩, ⟨PyData.keyHash w.params "_ready_nodes", .str "_ready_nodes" A.h2, .ref A.R⟩, ⟨PyData.keyHash w.params "_npassedout", .str "_npassedout" A.h3, .int po tpo⟩, ⟨PyData.keyHash w.params "_nfinished", .str "_nfinished" A.h4, .int fi tfi⟩] 4) ::
    (A.D, A.oD) :: nodesL A V n := rfl
noncomputable def SV.setR (V : SV) (rd : List Value) (kr : Nat) : SV := { V with rd := rd, kr := kr }
theorem node_l {A : SA} {V : SV} {n : Int → Int} {i : Int} (hi : 0 ≤ i ∧ i ≤ 3) : ((A.l i : Nat), W.listOf (List.toArray (V.s i)) (V.k i)) ∈ nodesL A V n := (pick_mem hi _).mpr (.tail _ (.tail _ (.head _)))
theorem nodes_num7 {A : SA} {V : SV} {n : Int → Int} {i v : Int} {tk : Tok} {a b c d e f g : Addr × Obj} (hi : 0 ≤ i ∧ i ≤ 3) : ∀ p ∈ b :: c :: d :: e :: f :: g :: nodesL A (V.setT (updT V.t i tk)) (upd n i v),
    p ∈ a :: b :: c :: d :: e :: f :: g :: (((A.x i : Nat) : Addr), ({ cls := .ref 54, dict := some (A.d i), data := .plain, slots := #[some (.int i (A.v i)), some (.int v tk), some (.ref (A.l i))] } : Obj)) :: (((A.d i : Nat) : Addr), dictOf [] 0) :: (((A.l i : Nat) : Addr), W.listOf (List.toArray (V.s i)) (V.k i)) :: othL A V n i :=
  fun p hp => .tail _ (nodes_num6 hi p hp)
theorem Con.frame {w : World} {mean : ExcName → Option Value} {mg mb : Str → Option Value} {dp un : Nat} {f : Addr} {args : List Value} {news all : List (Addr × Obj)} {R R' : Value → List (Addr × Obj) → Prop} (C : Con w mean mg mb dp un f args news R) (sub : ∀ p ∈ news, p ∈ all)
    (hR : ∀ r n, R r n → ∃ n', R' r n' ∧ ∀ p ∈ n', p ∈ n ∨ (p ∈ all ∧ p.1 ∉ news.map (·.1))) : Con w mean mg mb dp un f args all R' :=
  fun gd cn cs L a ccd cl outer A₀ base h₀ m s RR B F X N T hk hret => C gd cn cs L a ccd cl outer A₀ base h₀ m s RR B F X (fun p hp => N p (sub p hp)) T hk fun r n h' tk' l y => by
    obtain ⟨n', hR', hn⟩ := hR r n y
    refine hret r n' h' tk' ⟨fun b o e q => l.keep b o e fun z => q ?_, fun p hp => ?_, fun p hp => ?_⟩ hR'
    · obtain ⟨p, hp, rfl⟩ := List.mem_map.mp z
      exact List.mem_map_of_mem (sub p hp)
    · rcases hn p hp with z | z
      · exact l.here p z
      · exact l.keep _ _ (N p z.1).1 z.2
    · rcases hn p hp with z | z
      · rcases l.new p z with y | y
        · obtain ⟨q, hq, e⟩ := List.mem_map.mp y
          exact .inl (e ▸ List.mem_map_of_mem (sub q hq))
        · exact .inr y
      · exact .inl (List.mem_map_of_mem z.1)
theorem at_SortBase2 : True := by
  w_top off
  exact trivial
noncomputable def q4 (n0 n1 n2 n3 : Int) (i : Int) : Int := if i = 0 then n0 else if i = 1 then n1 else if i = 2 then n2 else if i = 3 then n3 else 0
theorem tup_ints {prog : Program} {w : World} {A : Around} {E : Value → Shared → Prop} {s : Shared} {h₀ : Heap} {L l : Addr} {m : Str → Option Value} {news : List (Addr × Obj)} {vs : List Value} {ns : List Int} {n : Nat} {Q : Value → Shared → Prop} (F : Fr h₀ L s.heap m) (N : News h₀ L s.heap news)
    (hm : (l, W.listOf (List.toArray vs) n) ∈ news) (hi : IntsAre vs ns) (hz : ns.length ≤ 1000)
    (h : ∀ D h', Fr h₀ L h' m → News h₀ L h' ((D, ({ cls := .type "tuple", data := .seq vs.toArray } : Obj)) :: news) → (∀ p ∈ news, p.1 < D) → Q (.ref D) { s with heap := h' }) : wpAny (model prog w) A (call (.type "tuple") [.ref l]) Q E s :=
  kde_tupleOf F N (PySem.IsL.isList (n := n) (N _ hm).1) (by rw [List.size_toArray, hi.length]; omega) rfl h
theorem lines_SortBase2_541 : True := by
  k_with "call type:tuple" => ((with_reducible show wpAny _ _ (call (Value.type _) [Value.ref _]) _ _ _); k_dflt (refine' tup_ints ?Fₖ₄₂ ?Nₖ₄₂ ?mₖ₄₂ ?iₖ₄₂ ?zₖ₄₂ ?_; (case Fₖ₄₂ => k_asm); (case Nₖ₄₂ => k_asm); (case mₖ₄₂ => k_mem); (case iₖ₄₂ => with_reducible assumption); (case zₖ₄₂ => omega)); intro D'ₖ h'ₖ F'ₖ N'ₖ l1ₖ; (try k_lt l1ₖ); (try k_sweep))
  exact trivial
theorem int_zero_to_three {x : Int} (h : 0 ≤ x ∧ x ≤ 3) : x = 0 ∨ x = 1 ∨ x = 2 ∨ x = 3 := by omega
theorem clear_list {prog : Program} {w : World} {A : Around} {E : Value → Shared → Prop} {s : Shared} {h₀ : Heap} {L D : Addr} {m : Str → Option Value} {news : List (Addr × Obj)} {vs : List Value} {n : Nat} {Q : Value → Shared → Prop} {news' : Nat → List (Addr × Obj)} (F : Fr h₀ L s.heap m) (N : News h₀ L s.heap news)
    (U : ∀ k, Upd D (W.listOf (List.toArray vs) n) (W.listOf #[] k) news (news' k)) (hz : vs.length ≤ 1000)
    (h : ∀ h' k, Fr h₀ L h' m → News h₀ L h' (news' k) → Q .none { s with heap := h' }) : wpAny (model prog w) A (call (.builtin "list.clear") [.ref D]) Q E s := by
  have hsz : sizeLine = 16777216 := rfl
  by_cases e : vs = []
  · subst e
    have U0 := U n
    obtain ⟨pre, post, h1, h2, a, c⟩ := U0.split
    have z := N (D, W.listOf (List.toArray []) n) (by rw [h1]; exact List.mem_append.mpr (.inr (.head _)))
    refine call_meets PySem.F.slot_list_clear ⟨_, z.1, rfl⟩ PySem.F.entry_list_clear (PySem.F.args_list_clear_1 _) (PySem.AutoSeq1.list_clear_list_0 D #[] n (by simp)) ⟨z.1, h _ n (F.change (Heap.SameBut.update ..) z.2.1 z.2.2) ?_⟩
    rw [h2]
    rw [h1] at N
    exact kl_turn0 (fun _ => #[]) N a c rfl rfl
  · exact kl_clear F N (U (n + 1)) (fun q => e (List.eq_nil_of_length_eq_zero q)) (by show vs.length ≤ _; omega) fun h' F' N' => h h' _ F' N'
theorem lines_SortBase2_544 : True := by
  k_with "call builtin:list.clear" => ((with_reducible show wpAny _ _ (call (Value.builtin _) [Value.ref _]) _ _ _); k_dflt (refine' clear_list ?Fₖ₄₃ ?Nₖ₄₃ ?Uₖ₄₃ ?zₖ₄₃ ?_; (case Fₖ₄₃ => k_asm); (case Nₖ₄₃ => k_asm); (case Uₖ₄₃ => (intro k'ₖ; k_upd)); (case zₖ₄₃ => first | omega | ((have hl9ₖ := IntsAre.length (by with_reducible assumption)); omega))); intro h'ₖ k'ₖ F'ₖ N'ₖ; (try dsimp only at N'ₖ); (try k_sweep))
  exact trivial
theorem len_tupI {prog : Program} {w : World} {A : Around} {E : Value → Shared → Prop} {s : Shared} {h₀ : Heap} {L l : Addr} {news : List (Addr × Obj)} {vs : List Value} {ns : List Int} {Q : Value → Shared → Prop} (N : News h₀ L s.heap news)
    (hm : (l, ({ cls := .type "tuple", data := .seq vs.toArray } : Obj)) ∈ news) (hi : IntsAre vs ns) (hz : ns.length ≤ 1000) (h : Q (.int ns.length (s.toks + 1)) { s with toks := s.toks + 1 + 1 }) : wpAny (model prog w) A (call (.builtin "len") [.ref l]) Q E s := by
  refine PyProof.Rows.len_tuple (items := vs.toArray) (News.isTup N hm) (by rw [List.size_toArray, hi.length]; omega) ?_
  rw [List.size_toArray, hi.length]
  exact h
theorem lines_SortBase2_546 : True := by
  k_with "call builtin:len" => ((with_reducible show wpAny _ _ (call (Value.builtin _) [Value.ref _]) _ _ _); k_dflt (refine' len_tupI ?Nₖ₄₄ ?mₖ₄₄ ?iₖ₄₄ ?zₖ₄₄ ?_; (case Nₖ₄₄ => k_asm); (case mₖ₄₄ => k_mem); (case iₖ₄₄ => with_reducible assumption); (case zₖ₄₄ => omega)))
  exact trivial
section
variable {prog : Program} {w : World} {A : Around} {E : Value → Shared → Prop} {s : Shared} {env : Env} {h₀ : Heap} {Q : Flow → Shared → Prop} {m₀ : Str → Option Value} {news : List (Addr × Obj)}
theorem for_listP {target : PySem.Expr} {body : List Stmt} (J : List Value → List (Str × Value) → List (Addr × Obj) → Prop) (ps₀ : List (Str × Value)) {ax : Addr} {lo : Obj} {vs : List Value} {n : Nat}
    (hh : A.handled = none) (F : Fr h₀ env.locals s.heap m₀) (N : News h₀ env.locals s.heap news) (hm : (ax, lo) ∈ news) (hc : lo.cls = .type "list") (hd : lo.data = .seq vs.toArray n)
    (hps : AllAt m₀ ps₀) (h0 : J vs ps₀ news) (hk : ∀ r ps n, J r ps n → (ax, lo) ∈ n)
    (turn : ∀ I v r ps₁ (u : Str → Option Value) news₁ it h tk (P : Flow → Shared → Prop), (∀ p ∈ news, p.1 < I) → it.cls = .type "list_iterator" → J (v :: r) ps₁ news₁ → Fr h₀ env.locals h (kstB u ps₁) → News h₀ env.locals h ((I, it) :: news₁) →
      (∀ s', AtI h₀ env.locals s I it (J r) s' → P .next s') → (∀ s', P .next s' → P .cont s') → (∀ s', Q .next s' → P .brk s') → (∀ v s', Q (.ret v) s' → P (.ret v) s') →
      wpAny (model prog w) A (assign target env v) (fun _ s₂ => wpAny (model prog w) A (execs body env) P E s₂) E { s with heap := h, toks := tk })
    (done : ∀ ps₁ (u : Str → Option Value) news₁ h tk, J [] ps₁ news₁ → Fr h₀ env.locals h (kstB u ps₁) → News h₀ env.locals h news₁ → Q .next { s with heap := h, toks := tk }) :
    wpAny (model prog w) A (pyIter (.ref ax)) (fun it s₂ => TurnsAt prog w A h₀ env target body Q E it s₂) E s := by
  refine for_list (fun r m n => ∃ ps, AllAt m ps ∧ J r ps n) hh F N hm hc hd ⟨ps₀, hps, h0⟩ (fun r m n ⟨ps, _, j⟩ => hk r ps n j) ?_ ?_
  · rintro I v r m₁ news₁ it h tk hI hit ⟨ps, M, j⟩ F₁ N₁
    refine turn I v r ps m₁ news₁ it h tk _ hI hit j (M.fr F₁) N₁ ?_ (fun _ x => x) (fun _ x => x) (fun _ _ x => x)
    rintro s' ⟨h', tk', m', ps', n', rfl, F', N', off, M', j'⟩
    exact ⟨h', tk', m', n', rfl, F', N', off, ps', M', j'⟩
  · rintro m₁ news₁ h tk ⟨ps, M, j⟩ F₁ N₁
    exact done ps m₁ news₁ h tk j (M.fr F₁) N₁
end
theorem lines_SortBase2_551 : True := by
  k_with "k_iter" => repeat' (first | ((fail_if_success (with_reducible show wpAny _ _ (pyIter _) (fun _ _ => TurnsAt _ _ _ _ _ _ _ _ _ _ _) _ _)); first | (k_unfold; (try dsimp only)) | walk1) | (dsimp only; ((fail_if_success (with_reducible show wpAny _ _ (pyIter _) (fun _ _ => TurnsAt _ _ _ _ _ _ _ _ _ _ _) _ _)); walk1)) | fail "no step")
  exact trivial
theorem at_SorReady : True := by
  w_top off
  exact trivial
noncomputable def outF (f : Int → Int) (x : Int) : Int → Int := upd f x (-1)
theorem lines_SorReady_555 : True := by
  k_with "k_lt" => ((with_reducible rename (∀ p : Addr × Obj, p ∈ _ → p.1 < _) => hlt9ₖ); (k_dflt (have hP9ₖ := ND.push (by assumption) hlt9ₖ)))
  exact trivial
noncomputable abbrev tupN (vs : List Value) : Obj := { cls := .type "tuple", data := .seq vs.toArray }
inductive RdI (w : World) (A : SA) (V : SV) (n : Int → Int) (nr : List Int) (T : Nat) : List Value → List (Str × Value) → List (Addr × Obj) → Prop
  | mk {r : List Value} {rs : List Int} {m : Int → Int} {V' : SV} (h : IntsAre r rs) (e : nr.foldl outF n = rs.foldl outF m) (hin : ∀ x ∈ rs, 0 ≤ x ∧ x ≤ 3) (hs : V'.s = V.s) (hl : V'.rd.length ≤ 1000) :
    RdI w A V n nr T r [(("self" : Str), .ref A.P), (("result" : Str), .ref T), (("n2i" : Str), .ref A.D)] (((T : Addr), tupN V.rd) :: sorN w A V' m)
namespace S_ready_con
noncomputable def stm (w : World) (mean : ExcName → Option Value) (mg mb : Str → Option Value) (A : SA) (V : SV) (n : Int → Int) (nr : List Int) (gdₛ : Option (List Code)) (cnₛ : Str) (csₛ : Scope) (Lₛ aₛ : Addr) (ccdₛ : Value) (clₛ : List (Str × Addr)) (outerₛ : List Env) (A₀ₛ : Around) (baseₛ h₀ₛ : Heap) (mₛ : Str → Option Value) (sₛ : Shared) (RRₛ : Result → Shared → Prop) : Prop := ∀ (hA : A.Ok) (hd : A.Dict w) (hr : IntsAre V.rd nr) (hlen : nr.length ≤ 4) (hin : ∀ x ∈ nr, 0 ≤ x ∧ x ≤ 3), ConB w mean mg mb 420 1700 113 [.ref A.P] (sorN w A V n)
      (fun r news' => ∃ (T : Nat) (V' : SV), r = .ref T ∧ news' = ((T : Addr), tupN V.rd) :: sorN w A V' (nr.foldl outF n) ∧ V'.s = V.s ∧ V'.rd = []) gdₛ cnₛ csₛ Lₛ aₛ ccdₛ clₛ outerₛ A₀ₛ baseₛ h₀ₛ mₛ sₛ RRₛ
noncomputable abbrev Dat := World × (ExcName → Option Value) × (Str → Option Value) × (Str → Option Value) × SA × SV × (Int → Int) × List Int × Option (List Code) × Str × Scope × Addr × Addr × Value × (List (Str × Addr)) × List Env × Around × Heap × Heap × (Str → Option Value) × Shared × (Result → Shared → Prop)
noncomputable def ok (p : Dat) : Prop := let q1 := p.2.2.2.2.2.2.2.2; let q2 := q1.2.2.2.2.2.2.2.2; stm p.1 p.2.1 p.2.2.1 p.2.2.2.1 p.2.2.2.2.1 p.2.2.2.2.2.1 p.2.2.2.2.2.2.1 p.2.2.2.2.2.2.2.1 q1.1 q1.2.1 q1.2.2.1 q1.2.2.2.1 q1.2.2.2.2.1 q1.2.2.2.2.2.1 q1.2.2.2.2.2.2.1 q1.2.2.2.2.2.2.2.1 q2.1 q2.2.1 q2.2.2.1 q2.2.2.2.1 q2.2.2.2.2.1 q2.2.2.2.2.2
@[irreducible] noncomputable def cc : Dat := @Classical.epsilon Dat ⟨(world0, fun _ => none, fun _ => none, fun _ => none, ⟨0,0,0,0,fun _=>0,fun _=>0,fun _=>0,0,0,0,0,fun _=>0,default⟩, ⟨0,0,0,0,fun _=>0,fun _=>[],fun _=>0,0,[]⟩, default, [], none, default, default, (0 : Nat), (0 : Nat), .none, [], [], {}, {}, {}, fun _ => none, {}, fun _ _ => True)⟩ fun p => ¬ ok p
noncomputable def c1 := cc.2.2.2.2.2.2.2.2
noncomputable def c2 := c1.2.2.2.2.2.2.2.2
@[irreducible] noncomputable def w : World := cc.1
@[irreducible] noncomputable def mean : ExcName → Option Value := cc.2.1
@[irreducible] noncomputable def mg : Str → Option Value := cc.2.2.1
@[irreducible] noncomputable def mb : Str → Option Value := cc.2.2.2.1
@[irreducible] noncomputable def A : SA := cc.2.2.2.2.1
@[irreducible] noncomputable def V : SV := cc.2.2.2.2.2.1
@[irreducible] noncomputable def n : Int → Int := cc.2.2.2.2.2.2.1
@[irreducible] noncomputable def nr : List Int := cc.2.2.2.2.2.2.2.1
@[irreducible] noncomputable def gdₛ : Option (List Code) := c1.1
@[irreducible] noncomputable def cnₛ : Str := c1.2.1
@[irreducible] noncomputable def csₛ : Scope := c1.2.2.1
@[irreducible] noncomputable def Lₛ : Addr := c1.2.2.2.1
@[irreducible] noncomputable def aₛ : Addr := c1.2.2.2.2.1
@[irreducible] noncomputable def ccdₛ : Value := c1.2.2.2.2.2.1
@[irreducible] noncomputable def clₛ : List (Str × Addr) := c1.2.2.2.2.2.2.1
@[irreducible] noncomputable def outerₛ : List Env := c1.2.2.2.2.2.2.2.1
@[irreducible] noncomputable def A₀ₛ : Around := c2.1
@[irreducible] noncomputable def baseₛ : Heap := c2.2.1
@[irreducible] noncomputable def h₀ₛ : Heap := c2.2.2.1
@[irreducible] noncomputable def mₛ : Str → Option Value := c2.2.2.2.1
@[irreducible] noncomputable def sₛ : Shared := c2.2.2.2.2.1
@[irreducible] noncomputable def RRₛ : Result → Shared → Prop := c2.2.2.2.2.2
theorem core : stm w mean mg mb A V n nr gdₛ cnₛ csₛ Lₛ aₛ ccdₛ clₛ outerₛ A₀ₛ baseₛ h₀ₛ mₛ sₛ RRₛ := by
  intro hA hd hr hlen hin
  have hD := hd.d
  have lo := hd.lo
  have hN : ND (A.R :: A.P :: A.dP :: A.D :: (nodesL A V n).map (·.1)) := hA.own
  clear hd
  show ConB w mean mg mb 420 1700 113 [.ref A.P] ((A.R, W.listOf (List.toArray V.rd) V.kr) :: (A.P, instObj 151 A.dP) :: (A.dP, ownD w A V (.ref A.R)) :: (A.D, A.oD) :: nodesL A V n) _ gdₛ cnₛ csₛ Lₛ aₛ ccdₛ clₛ outerₛ A₀ₛ baseₛ h₀ₛ mₛ sₛ RRₛ
  walk_at "c_start"
  w_strict (walk_at "k_to")
  rename Fr _ _ _ _ => F0
  rename News _ _ _ _ => N0
  rename ND (_ :: List.map _ _) => hT
  refine nam1 N0 ?_
  intro T eT
  subst eT
  replace hT : ND (T :: A.R :: adrN A) := hT
  refine for_tupS (RdI w A V n nr T) [("self", _), ("result", _), ("n2i", _)] rfl F0 N0 (List.Mem.head _) rfl rfl (by exact ⟨rfl, rfl, rfl, trivial⟩) (by exact .mk hr rfl hin rfl (by rw [hr.length]; omega)) (by rintro r ps n ⟨⟩; exact List.Mem.head _) ?_ ?_ (by passes_own) ?_
  · rintro I v r ps₁ u news₁ it h tk Pp hI hit ⟨hrs, hf, hin', hs, hlr⟩ F1 N1 hN2 - hB -
    clear F0 N0
    rename_i rs m V'
    dsimp only [kstB] at F1
    cases hrs with
    | cons x t hrs =>
      rename_i rs
      have hi := hin' _ (.head _)
      have hv := kv4_at (x := A.x) hi
      have hP : ND (I :: T :: A.R :: A.P :: A.dP :: A.D :: A.x x :: A.d x :: A.l x :: (othL A V' m x).map (·.1)) := SA.pickND [I, T, A.R] (ND.push (news := ((T : Addr), tupN V.rd) :: sorN w A V' m) hT (ND.lt (news' := ((T : Addr), tupN V.rd) :: sorN w A V' m) hI rfl)) hi
      have off := fun tk' => ND.off (news' := ((T : Addr), tupN V.rd) :: sorN w A (V'.setT (updT V'.t x tk')) (upd m x (-1))) hI rfl
      replace N1 : News _ _ _ ((I, it) :: (T, tupN V.rd) :: (A.R, W.listOf (List.toArray V'.rd) V'.kr) :: (A.P, instObj 151 A.dP) :: (A.dP, ownD w A V' (.ref A.R)) :: (A.D, A.oD) :: pickL A V' m x) := news_sub N1 (fun p hp => mem6 ((pick_mem hi) p).mpr hp)
      clear hI
      walk_at "k_run"
      refine hN2 _ ?_
      (try dsimp only)
      rename Fr _ _ _ _ => F9
      rename News _ _ _ _ => N9
      refine AtI.intro F9 N9 [("self", _), ("result", _), ("n2i", _)] (((T : Addr), tupN V.rd) :: sorN w A (V'.setT (updT V'.t x _)) (upd m x (-1))) (by exact ⟨rfl, rfl, rfl, trivial⟩) (List.Mem.head _) (fun p hp => .tail _ (nodes_num5 hi p hp)) (off _) ?_
      exact .mk hrs hf (fun y hy => hin' y (.tail _ hy)) hs hlr
  · rintro ps₁ u news₁ h tk ⟨hrs, hf, hin', hs, hlr⟩ F1 N1
    clear F0 N0
    rename_i rs m V'
    cases hrs
    dsimp only [kstB] at F1
    replace N1 : News _ _ _ ((T, tupN V.rd) :: (A.R, W.listOf (List.toArray V'.rd) V'.kr) :: (A.P, instObj 151 A.dP) :: (A.dP, ownD w A V' (.ref A.R)) :: (A.D, A.oD) :: nodesL A V' m) := N1
    replace hT : ND (T :: A.R :: A.P :: A.dP :: A.D :: (nodesL A V' m).map (·.1)) := hT
    walk_at "k_run"
    walk_at "c_done"
    exact ⟨T, ⟨_, V'.fi, _, V'.tfi, V'.t, V'.s, V'.k, _, []⟩, rfl, by rw [hf]; rfl, hs, rfl⟩
  · walk_at "k_run"
    assumption
theorem all (p : Dat) : ok p := drink _ ok (by with_unfolding_all exact core) p
end S_ready_con
theorem ready_con (w : World) (mean) (mg mb) (A : SA) (hA : A.Ok) (hd : A.Dict w) (V : SV) (n : Int → Int) (nr : List Int) (hr : IntsAre V.rd nr) (hlen : nr.length ≤ 4) (hin : ∀ x ∈ nr, 0 ≤ x ∧ x ≤ 3) : Con w mean mg mb 420 1700 113 [.ref A.P] (sorN w A V n)
      (fun r news' => ∃ (T : Nat) (V' : SV), r = .ref T ∧ news' = ((T : Addr), tupN V.rd) :: sorN w A V' (nr.foldl outF n) ∧ V'.s = V.s ∧ V'.rd = []) :=
  fun gdₛ cnₛ csₛ Lₛ aₛ ccdₛ clₛ outerₛ A₀ₛ baseₛ h₀ₛ mₛ sₛ RRₛ => S_ready_con.all (w, mean, mg, mb, A, V, n, nr, gdₛ, cnₛ, csₛ, Lₛ, aₛ, ccdₛ, clₛ, outerₛ, A₀ₛ, baseₛ, h₀ₛ, mₛ, sₛ, RRₛ) hA hd hr hlen hin
theorem at_SorDone : True := by
  w_top off
  exact trivial
noncomputable def stepF (c : (Int → Int) × List Int) (s : Int) : (Int → Int) × List Int := (upd c.1 s (c.1 s - 1), if c.1 s - 1 = 0 then c.2 ++ [s] else c.2)
noncomputable def doneF (su : Int → List Int) (c : (Int → Int) × List Int) (n : Int) : (Int → Int) × List Int := (su n).foldl stepF (upd c.1 n (-2), c.2)
noncomputable def s4 (a b c d : List Int) (i : Int) : List Int := if i = 0 then a else if i = 1 then b else if i = 2 then c else d
structure DoneAt (c0 : (Int → Int) × List Int) (su : Int → List Int) (ns rs ss : List Int) (m : Int → Int) (nr : List Int) : Prop where
  eq : ns.foldl (doneF su) c0 = rs.foldl (doneF su) (ss.foldl stepF (m, nr))
  out : ∀ y ∈ rs, (0 ≤ y ∧ y ≤ 3) ∧ m y = -1 ∧ (∀ s ∈ su y, (0 ≤ s ∧ s ≤ 3) ∧ s ∉ rs) ∧ (su y).length ≤ 4
  now : ∀ s ∈ ss, (0 ≤ s ∧ s ≤ 3) ∧ s ∉ rs
  nd : rs.Nodup
  few : nr.length + 4 * rs.length + ss.length ≤ 40
theorem DoneAt.in3 {c0 : (Int → Int) × List Int} {su : Int → List Int} {ns rs ss : List Int} {m : Int → Int} {nr : List Int} {s : Int} (h : DoneAt c0 su ns rs (s :: ss) m nr) : 0 ≤ s ∧ s ≤ 3 := (h.now s (.head _)).1
theorem DoneAt.few' {c0 : (Int → Int) × List Int} {su : Int → List Int} {ns rs ss : List Int} {m : Int → Int} {nr : List Int} (h : DoneAt c0 su ns rs ss m nr) : nr.length ≤ 40 := by have := h.few; omega
theorem DoneAt.step {c0 : (Int → Int) × List Int} {su : Int → List Int} {ns rs ss : List Int} {m : Int → Int} {nr nr' : List Int} {s : Int} (h : DoneAt c0 su ns rs (s :: ss) m nr)
    (e2 : nr' = if m s - 1 = 0 then nr ++ [s] else nr) : DoneAt c0 su ns rs ss (upd m s (m s - 1)) nr' := by
  refine ⟨?_, fun y hy => ?_, fun t ht => h.now t (.tail _ ht), h.nd, ?_⟩
  · rw [h.eq, List.foldl_cons, stepF]
    dsimp only
    rw [e2]
  · obtain ⟨a, b, c⟩ := h.out y hy
    refine ⟨a, ?_, c⟩
    rw [upd, if_neg]
    · exact b
    · rintro rfl; exact (h.now _ (.head _)).2 hy
  · have := h.few
    simp only [List.length_cons] at this
    rw [e2]
    split
    · rw [List.length_append, List.length_singleton]; omega
    · omega
theorem DoneAt.start {c0 : (Int → Int) × List Int} {su : Int → List Int} {ns rs : List Int} {m : Int → Int} {nr : List Int} {x : Int} (h : DoneAt c0 su ns (x :: rs) [] m nr) : DoneAt c0 su ns rs (su x) (upd m x (-2)) nr := by
  obtain ⟨a, b, c, d⟩ := h.out x (.head _)
  have hn := List.nodup_cons.mp h.nd
  refine ⟨?_, fun y hy => ?_, fun s hs => ⟨(c s hs).1, fun q => (c s hs).2 (.tail _ q)⟩, hn.2, ?_⟩
  · rw [h.eq, List.foldl_nil, List.foldl_cons, doneF]
  · obtain ⟨a, b, c, d⟩ := h.out y (.tail _ hy)
    refine ⟨a, ?_, fun s hs => ⟨(c s hs).1, fun q => (c s hs).2 (.tail _ q)⟩, d⟩
    rw [upd, if_neg]
    · exact b
    · rintro rfl; exact hn.1 hy
  · have := h.few
    simp only [List.length_cons, List.length_nil] at this
    omega
inductive DoI (w : World) (A : SA) (V : SV) (c0 : (Int → Int) × List Int) (su : Int → List Int) (ns : List Int) (T : Nat) (vs : List Value) : List Value → List (Str × Value) → List (Addr × Obj) → Prop
  | mk {r : List Value} {rs nr : List Int} {m : Int → Int} {V' : SV} (h : IntsAre r rs) (hr : IntsAre V'.rd nr) (hs : V'.s = V.s) (hk : V'.k = V.k) (hf : DoneAt c0 su ns rs [] m nr) :
    DoI w A V c0 su ns T vs r [(("self" : Str), .ref A.P), (("n2i" : Str), .ref A.D)] (((T : Addr), tupN vs) :: sorN w A V' m)
inductive DnI (w : World) (A : SA) (V : SV) (c0 : (Int → Int) × List Int) (su : Int → List Int) (ns rs : List Int) (T : Nat) (vs : List Value) (ie : Addr × Obj) : List Value → List (Str × Value) → List (Addr × Obj) → Prop
  | mk {r : List Value} {ss nr : List Int} {m : Int → Int} {V' : SV} (h : IntsAre r ss) (hr : IntsAre V'.rd nr) (hs : V'.s = V.s) (hk : V'.k = V.k) (hf : DoneAt c0 su ns rs ss m nr) :
    DnI w A V c0 su ns rs T vs ie r [(("self" : Str), .ref A.P), (("n2i" : Str), .ref A.D)] (ie :: ((T : Addr), tupN vs) :: sorN w A V' m)
namespace S_done_con
noncomputable def stm (w : World) (mean : ExcName → Option Value) (mg mb : Str → Option Value) (A : SA) (V : SV) (n : Int → Int) (nr : List Int) (vs : List Value) (ns : List Int) (su : Int → List Int) (gdₛ : Option (List Code)) (cnₛ : Str) (csₛ : Scope) (Lₛ aₛ : Addr) (ccdₛ : Value) (clₛ : List (Str × Addr)) (outerₛ : List Env) (A₀ₛ : Around) (baseₛ h₀ₛ : Heap) (mₛ : Str → Option Value) (sₛ : Shared) (RRₛ : Result → Shared → Prop) : Prop := ∀ (hA : A.Ok) (hd : A.Dict w) (hr : IntsAre V.rd nr) (hv : IntsAre vs ns) (hvl : ns.length ≤ 4) (hs : ∀ i, 0 ≤ i ∧ i ≤ 3 → IntsAre (V.s i) (su i)) (hdone : DoneAt (n, nr) su ns ns [] n nr), ConB w mean mg mb 420 1700 134 (.ref A.P :: vs) (sorN w A V n)
      (fun r news' => ∃ V' : SV, r = .none ∧ news' = sorN w A V' (ns.foldl (doneF su) (n, nr)).1 ∧ V'.s = V.s ∧ IntsAre V'.rd (ns.foldl (doneF su) (n, nr)).2) gdₛ cnₛ csₛ Lₛ aₛ ccdₛ clₛ outerₛ A₀ₛ baseₛ h₀ₛ mₛ sₛ RRₛ
noncomputable abbrev Dat := World × (ExcName → Option Value) × (Str → Option Value) × (Str → Option Value) × SA × SV × (Int → Int) × List Int × List Value × List Int × (Int → List Int) × Option (List Code) × Str × Scope × Addr × Addr × Value × (List (Str × Addr)) × List Env × Around × Heap × Heap × (Str → Option Value) × Shared × (Result → Shared → Prop)
noncomputable def ok (p : Dat) : Prop := let q1 := p.2.2.2.2.2.2.2.2; let q2 := q1.2.2.2.2.2.2.2.2; stm p.1 p.2.1 p.2.2.1 p.2.2.2.1 p.2.2.2.2.1 p.2.2.2.2.2.1 p.2.2.2.2.2.2.1 p.2.2.2.2.2.2.2.1 q1.1 q1.2.1 q1.2.2.1 q1.2.2.2.1 q1.2.2.2.2.1 q1.2.2.2.2.2.1 q1.2.2.2.2.2.2.1 q1.2.2.2.2.2.2.2.1 q2.1 q2.2.1 q2.2.2.1 q2.2.2.2.1 q2.2.2.2.2.1 q2.2.2.2.2.2.1 q2.2.2.2.2.2.2.1 q2.2.2.2.2.2.2.2.1 q2.2.2.2.2.2.2.2.2
@[irreducible] noncomputable def cc : Dat := @Classical.epsilon Dat ⟨(world0, fun _ => none, fun _ => none, fun _ => none, ⟨0,0,0,0,fun _=>0,fun _=>0,fun _=>0,0,0,0,0,fun _=>0,default⟩, ⟨0,0,0,0,fun _=>0,fun _=>[],fun _=>0,0,[]⟩, default, [], [], [], default, none, default, default, (0 : Nat), (0 : Nat), .none, [], [], {}, {}, {}, fun _ => none, {}, fun _ _ => True)⟩ fun p => ¬ ok p
noncomputable def c1 := cc.2.2.2.2.2.2.2.2
noncomputable def c2 := c1.2.2.2.2.2.2.2.2
@[irreducible] noncomputable def w : World := cc.1
@[irreducible] noncomputable def mean : ExcName → Option Value := cc.2.1
@[irreducible] noncomputable def mg : Str → Option Value := cc.2.2.1
@[irreducible] noncomputable def mb : Str → Option Value := cc.2.2.2.1
@[irreducible] noncomputable def A : SA := cc.2.2.2.2.1
@[irreducible] noncomputable def V : SV := cc.2.2.2.2.2.1
@[irreducible] noncomputable def n : Int → Int := cc.2.2.2.2.2.2.1
@[irreducible] noncomputable def nr : List Int := cc.2.2.2.2.2.2.2.1
@[irreducible] noncomputable def vs : List Value := c1.1
@[irreducible] noncomputable def ns : List Int := c1.2.1
@[irreducible] noncomputable def su : Int → List Int := c1.2.2.1
@[irreducible] noncomputable def gdₛ : Option (List Code) := c1.2.2.2.1
@[irreducible] noncomputable def cnₛ : Str := c1.2.2.2.2.1
@[irreducible] noncomputable def csₛ : Scope := c1.2.2.2.2.2.1
@[irreducible] noncomputable def Lₛ : Addr := c1.2.2.2.2.2.2.1
@[irreducible] noncomputable def aₛ : Addr := c1.2.2.2.2.2.2.2.1
@[irreducible] noncomputable def ccdₛ : Value := c2.1
@[irreducible] noncomputable def clₛ : List (Str × Addr) := c2.2.1
@[irreducible] noncomputable def outerₛ : List Env := c2.2.2.1
@[irreducible] noncomputable def A₀ₛ : Around := c2.2.2.2.1
@[irreducible] noncomputable def baseₛ : Heap := c2.2.2.2.2.1
@[irreducible] noncomputable def h₀ₛ : Heap := c2.2.2.2.2.2.1
@[irreducible] noncomputable def mₛ : Str → Option Value := c2.2.2.2.2.2.2.1
@[irreducible] noncomputable def sₛ : Shared := c2.2.2.2.2.2.2.2.1
@[irreducible] noncomputable def RRₛ : Result → Shared → Prop := c2.2.2.2.2.2.2.2.2
theorem core : stm w mean mg mb A V n nr vs ns su gdₛ cnₛ csₛ Lₛ aₛ ccdₛ clₛ outerₛ A₀ₛ baseₛ h₀ₛ mₛ sₛ RRₛ := by
  intro hA hd hr hv hvl hs hdone
  have hD := hd.d
  have lo := hd.lo
  have hN : ND (A.R :: A.P :: A.dP :: A.D :: (nodesL A V n).map (·.1)) := hA.own
  have hvl2 := hv.length
  clear hd
  show ConB w mean mg mb 420 1700 134 (.ref A.P :: vs) ((A.R, W.listOf (List.toArray V.rd) V.kr) :: (A.P, instObj 151 A.dP) :: (A.dP, ownD w A V (.ref A.R)) :: (A.D, A.oD) :: nodesL A V n) _ gdₛ cnₛ csₛ Lₛ aₛ ccdₛ clₛ outerₛ A₀ₛ baseₛ h₀ₛ mₛ sₛ RRₛ
  walk_at "c_startV"
  w_strict (walk_at "k_to")
  rename Fr _ _ _ _ => F0
  rename News _ _ _ _ => N0
  rename ND (_ :: List.map _ _) => hT
  refine nam1 N0 ?_
  intro T eT
  subst eT
  replace hT : ND (T :: A.R :: adrN A) := hT
  refine for_tupS (DoI w A V (n, nr) su ns T vs) [("self", _), ("n2i", _)] rfl F0 N0 (List.Mem.head _) rfl rfl (by exact ⟨rfl, rfl, trivial⟩) (by exact .mk hv hr rfl rfl hdone) (by rintro r ps n ⟨⟩; exact List.Mem.head _) ?_ ?_ (by passes_own) ?_
  · rintro I v r ps₁ u news₁ it h tk Pp hI hit ⟨hrs, hrd, hvs, hvk, hf⟩ F1 N1 hN2 - hB -
    clear F0 N0 hdone hr hN
    rename_i rs nr' m V'
    dsimp only [kstB] at F1
    cases hrs with
    | cons x t hrs =>
      rename_i rs
      obtain ⟨hi, hx, -, -⟩ := hf.out _ (.head _)
      have hx2 := kv4_at (x := A.x) hi
      have hI2 := ND.push (news := ((T : Addr), tupN vs) :: sorN w A V' m) hT (ND.lt (news' := ((T : Addr), tupN vs) :: sorN w A V' m) hI rfl)
      replace hI2 : ND (I :: T :: A.R :: adrN A) := hI2
      have hP : ND (I :: T :: A.R :: A.P :: A.dP :: A.D :: A.x x :: A.d x :: A.l x :: (othL A V' m x).map (·.1)) := SA.pickND [I, T, A.R] hI2 hi
      have off := fun V2 m2 => ND.off (news' := ((T : Addr), tupN vs) :: sorN w A V2 m2) hI rfl
      replace N1 : News _ _ _ ((I, it) :: (T, tupN vs) :: (A.R, W.listOf (List.toArray V'.rd) V'.kr) :: (A.P, instObj 151 A.dP) :: (A.dP, ownD w A V' (.ref A.R)) :: (A.D, A.oD) :: pickL A V' m x) := news_sub N1 (pick6 hi)
      clear hI
      walk_at "k_to"
      refine For_turns (by assumption) ?_ (by intro _; rfl) (by passes_own)
      walk_at "k_iter"
      rename Fr _ _ _ _ => F2
      rename News _ _ _ _ => N2
      clear F1 N1 hP
      replace N2 : News _ _ _ ((I, it) :: (T, tupN vs) :: sorN w A (V'.setT (updT V'.t x _)) (upd m x (-2))) := news_sub N2 (nodes_num6 hi)
      refine for_listP (DnI w A V (n, nr) su ns rs T vs (I, it)) [("self", _), ("n2i", _)] (ax := A.l x) (vs := V'.s x) (n := V'.k x) rfl F2 N2 (mt4 (mt2 (node_l hi))) rfl rfl (by exact ⟨rfl, rfl, trivial⟩) (by exact .mk (by rw [hvs]; exact hs x hi) hrd hvs hvk hf.start) ?_ ?_ ?_
      · rintro r ps n ⟨_, _, h1, h2, _⟩
        show ((A.l x : Nat), W.listOf (List.toArray (V'.s x)) (V'.k x)) ∈ _
        rw [hvs, hvk, ← h1, ← h2]
        exact mt4 (mt2 (node_l hi))
      · clear hrd hf hx hx2 hvs hvk
        rintro J v r2 ps₁ u news₁ it2 h2 tk2 Pq hJ hit2 ⟨hss, hrd, hvs, hvk, hf⟩ F1 N1 hN3 - - -
        clear F2 N2
        rename_i ss nr' m V'
        dsimp only [kstB] at F1
        have hnr := hf.few'
        cases hss with
        | cons y ty hss =>
          rename_i ss
          have hi3 := hf.in3
          have hx2 := kv4_at (x := A.x) hi3
          have hJ2 : ND (J :: I :: T :: A.R :: adrN A) := ND.push (news := (I, it) :: ((T : Addr), tupN vs) :: sorN w A V' m) hI2 (ND.lt (news' := (I, it) :: ((T : Addr), tupN vs) :: sorN w A V' m) hJ rfl)
          have hP : ND (J :: I :: T :: A.R :: A.P :: A.dP :: A.D :: A.x y :: A.d y :: A.l y :: (othL A V' m y).map (·.1)) := SA.pickND [J, I, T, A.R] hJ2 hi3
          have off := fun V2 m2 => ND.off (news' := (I, it) :: ((T : Addr), tupN vs) :: sorN w A V2 m2) hJ rfl
          replace N1 : News _ _ _ ((J, it2) :: (I, it) :: (T, tupN vs) :: (A.R, W.listOf (List.toArray V'.rd) V'.kr) :: (A.P, instObj 151 A.dP) :: (A.dP, ownD w A V' (.ref A.R)) :: (A.D, A.oD) :: pickL A V' m y) := news_sub N1 (pick7 hi3)
          clear hJ
          walk_at "k_run"
          · refine hN3 _ ?_
            (try dsimp only)
            rename Fr _ _ _ _ => F9
            rename News _ _ _ _ => N9
            refine AtI.intro F9 N9 [("self", _), ("n2i", _)] ((I, it) :: ((T : Addr), tupN vs) :: sorN w A ((V'.setT (updT V'.t y _)).setR _ _) (upd m y (m y - 1))) (by exact ⟨rfl, rfl, trivial⟩) (List.Mem.head _) (fun p hp => nodes_num7 hi3 p hp) (off _ _) ?_
            exact .mk hss (by assumption) hvs hvk (hf.step (if_pos (by assumption)).symm)
          · refine hN3 _ ?_
            (try dsimp only)
            rename Fr _ _ _ _ => F9
            rename News _ _ _ _ => N9
            refine AtI.intro F9 N9 [("self", _), ("n2i", _)] ((I, it) :: ((T : Addr), tupN vs) :: sorN w A (V'.setT (updT V'.t y _)) (upd m y (m y - 1))) (by exact ⟨rfl, rfl, trivial⟩) (List.Mem.head _) (fun p hp => nodes_num7 hi3 p hp) (off _ _) ?_
            exact .mk hss hrd hvs hvk (hf.step (if_neg (by assumption)).symm)
      · clear hrd hf hx hx2 hvs hvk
        rintro ps₁ u news₁ h2 tk2 ⟨hss, hrd, hvs, hvk, hf⟩ F1 N1
        rename_i ss nr' m V'
        cases hss
        clear F2 N2
        dsimp only [kstB] at F1
        replace N1 : News _ _ _ ((I, it) :: (T, tupN vs) :: (A.R, W.listOf (List.toArray V'.rd) V'.kr) :: (A.P, instObj 151 A.dP) :: (A.dP, ownD w A V' (.ref A.R)) :: (A.D, A.oD) :: nodesL A V' m) := N1
        have hP : ND (I :: T :: A.R :: A.P :: A.dP :: A.D :: (nodesL A V' m).map (·.1)) := hI2
        walk_at "k_run"
        refine hN2 _ ?_
        (try dsimp only)
        rename Fr _ _ _ _ => F9
        rename News _ _ _ _ => N9
        refine AtI.intro F9 N9 [("self", _), ("n2i", _)] (((T : Addr), tupN vs) :: sorN w A (V'.setF _ _ _ _) m) (by exact ⟨rfl, rfl, trivial⟩) (List.Mem.head _) (by intro p hp; rw [sorN_F] at hp; exact List.mem_cons_of_mem _ hp) (off _ _) ?_
        exact .mk hrs hrd hvs hvk hf
  · rintro ps₁ u news₁ h tk ⟨hrs, hrd, hvs, hvk, hf⟩ F1 N1
    clear F0 N0
    rename_i rs nr' m V'
    cases hrs
    dsimp only [kstB] at F1
    walk_at "k_run"
    walk_at "c_doneT"
    refine ⟨V', rfl, ?_, hvs, ?_⟩
    · rw [hf.eq]; rfl
    · rw [hf.eq]; exact hrd
  · walk_at "k_run"
    assumption
theorem all (p : Dat) : ok p := drink _ ok (by with_unfolding_all exact core) p
end S_done_con
theorem done_con (w : World) (mean) (mg mb) (A : SA) (hA : A.Ok) (hd : A.Dict w) (V : SV) (n : Int → Int) (nr : List Int) (hr : IntsAre V.rd nr) (vs : List Value) (ns : List Int) (hv : IntsAre vs ns) (hvl : ns.length ≤ 4)
    (su : Int → List Int) (hs : ∀ i, 0 ≤ i ∧ i ≤ 3 → IntsAre (V.s i) (su i)) (hdone : DoneAt (n, nr) su ns ns [] n nr) : Con w mean mg mb 420 1700 134 (.ref A.P :: vs) (sorN w A V n)
      (fun r news' => ∃ V' : SV, r = .none ∧ news' = sorN w A V' (ns.foldl (doneF su) (n, nr)).1 ∧ V'.s = V.s ∧ IntsAre V'.rd (ns.foldl (doneF su) (n, nr)).2) :=
  fun gdₛ cnₛ csₛ Lₛ aₛ ccdₛ clₛ outerₛ A₀ₛ baseₛ h₀ₛ mₛ sₛ RRₛ => S_done_con.all (w, mean, mg, mb, A, V, n, nr, vs, ns, su, gdₛ, cnₛ, csₛ, Lₛ, aₛ, ccdₛ, clₛ, outerₛ, A₀ₛ, baseₛ, h₀ₛ, mₛ, sₛ, RRₛ) hA hd hr hv hvl hs hdone
theorem at_SorAdd : True := by
  w_top off
  exact trivial
theorem use_same {w : World} {mean : ExcName → Option Value} {mg mb : Str → Option Value} {dp un : Nat} {f : Addr} {args : List Value} {newsC all : List (Addr × Obj)} {v : Value} (C : Con w mean mg mb dp un f args newsC (fun r n => n = newsC ∧ r = v))
    {A A₀ : Around} {cn : Str} {cs : Scope} {L a : Addr} {ccd : Value} {cl : List (Str × Addr)} {outer : List Env} {base h₀ : Heap} {m : Str → Option Value} {s : Shared} {Q E : Value → Shared → Prop}
    (B : Below A₀ base outer h₀) (F : Fr h₀ L s.heap m) (X : (hd.heap_1 w.params).In h₀) (N : News h₀ L s.heap all) (T : Top VW LS mean mg mb h₀) (hA : A.frames = some (envX cn cs L a ccd cl :: outer)) (hk : cs.kind = .function) (hh : A.handled = none) (hd : A.depth ≤ dp) (hu : A.units ≤ un)
    (hs : ∀ p ∈ newsC, p ∈ all)
    (h : ∀ h' tk', Fr h₀ L h' m → News h₀ L h' all → Q v { s with heap := h', toks := tk' }) :
    wpAny (model Challenge.rw_om0134_01.row.prog w) A (call (.ref f) args) Q E s := by
  refine wpAny_call (codeAny_le (A' := ktrTop dp un A.guards cn cs L a ccd cl outer) (C _ _ _ _ _ _ _ _ _ _ _ _ _ _ B F X (fun p hp => N p (hs p hp)) T hk fun r n h' tk' l y => ?_) hh hd hA rfl hu)
  obtain ⟨rfl, rfl⟩ := y
  refine h h' tk' (l.fr F fun p hp => N p (hs p hp)) fun p hp => ⟨?_, (N p hp).2⟩
  by_cases q : p.1 ∈ n.map (·.1)
  · obtain ⟨z, hz, e⟩ := List.mem_map.mp q
    have h1 := (N p hp).1
    have h2 := (N z (hs z hz)).1
    rw [← e, h2] at h1
    injection h1 with h1
    rw [← e, ← h1]
    exact l.here z hz
  · exact l.keep _ _ (N p hp).1 q
theorem ninfo_con (w : World) (mean) (mg mb) (A : SA) (V : SV) (hD0 : A.Dict w) (rv : Value) (t : Int) (tt : Tok) (ht : 0 ≤ t ∧ t ≤ 3) :
    Con w mean mg mb 430 1800 94 [.ref A.P, .int t tt] [(A.P, instObj 151 A.dP), (A.dP, ownD w A V rv), (A.D, A.oD)] (fun r news' => news' = [(A.P, instObj 151 A.dP), (A.dP, ownD w A V rv), (A.D, A.oD)] ∧ r = .ref (A.x t)) := by
  have hD := hD0.d
  have lo := hD0.lo
  have hx := kv4_at (x := A.x) ht
  walk_at "c_start"
  w_strict (walk_at "k_to")
  walk_at "c_done"
  exact ⟨rfl, rfl⟩
noncomputable def addS (s : Int → List Int) (t a : Int) (i : Int) : List Int := if i = a then s i ++ [t] else s i
theorem lines_SorAdd_644 : True := by
  k_with "k_callR" => repeat' (first | ((fail_if_success (with_reducible show wpAny _ _ (call (Value.ref _) _) _ _ _)); first | (k_unfold; (try dsimp only)) | walk1) | (dsimp only; (fail_if_success (with_reducible show wpAny _ _ (call (Value.ref _) _) _ _ _)); walk1) | fail "no step")
  k_with "k_toR" => repeat' (first | (walk_at "no_loop"; (fail_if_success (with_reducible show wpAny _ _ (call (Value.ref _) _) _ _ _)); first | (k_unfold; (try dsimp only)) | walk1) | (dsimp only; walk_at "no_loop"; (fail_if_success (with_reducible show wpAny _ _ (call (Value.ref _) _) _ _ _)); walk1) | fail "no step")
  exact trivial
theorem genM {P : Prop} {g h : Heap} {L : Addr} {w : World} {A : SA} {V : SV} {n : Int → Int} {x : Addr × Obj} (N : News g L h (x :: sorM w A V n)) (k : ∀ V1 n1, News g L h (x :: sorM w A V1 n1) → V1 = V → n1 = n → P) : P := k V n N rfl rfl
inductive AdI (w : World) (A : SA) (V : SV) (n : Int → Int) (su : Int → List Int) (t a : Int) (tt ta : Tok) (T : Nat) : List Value → List (Str × Value) → List (Addr × Obj) → Prop
  | one : AdI w A V n su t a tt ta T [.int a ta] [(("self" : Str), .ref A.P), (("node" : Str), .int t tt)] (((T : Addr), ({ cls := .type "tuple", data := .seq #[.int a ta] } : Obj)) :: sorM w A V n)
  | nil {ls : List Value} {k : Nat} (h : IntsAre ls (su a ++ [t])) : AdI w A V n su t a tt ta T [] [(("self" : Str), .ref A.P), (("node" : Str), .int t tt)] (((T : Addr), ({ cls := .type "tuple", data := .seq #[.int a ta] } : Obj)) :: sorM w A (V.setS a ls k) n)
namespace S_add_con0
noncomputable def stm (w : World) (mean : ExcName → Option Value) (mg mb : Str → Option Value) (A : SA) (V : SV) (n : Int → Int) (t a : Int) (tt ta : Tok) (su : Int → List Int) (gdₛ : Option (List Code)) (cnₛ : Str) (csₛ : Scope) (Lₛ aₛ : Addr) (ccdₛ : Value) (clₛ : List (Str × Addr)) (outerₛ : List Env) (A₀ₛ : Around) (baseₛ h₀ₛ : Heap) (mₛ : Str → Option Value) (sₛ : Shared) (RRₛ : Result → Shared → Prop) : Prop := ∀ (hA : (adrN A).Nodup) (hD0 : A.Dict w) (ht : 0 ≤ t ∧ t ≤ 3) (ha : 0 ≤ a ∧ a ≤ 3) (hs : ∀ i, 0 ≤ i ∧ i ≤ 3 → IntsAre (V.s i) (su i)) (hz : (su a).length ≤ 100) (hn : 0 ≤ n t ∧ n t ≤ 1000), ConB w mean mg mb 420 1700 101 [.ref A.P, .int t tt, .int a ta] ((A.P, instObj 151 A.dP) :: (A.dP, ownD w A V .none) :: (A.D, A.oD) :: pickL A V n t)
      (fun r news' => ∃ V' : SV, r = .none ∧ news' = sorM w A V' (upd n t (n t + 1)) ∧ V'.po = V.po ∧ V'.fi = V.fi ∧ ∀ i, 0 ≤ i ∧ i ≤ 3 → IntsAre (V'.s i) (addS su t a i)) gdₛ cnₛ csₛ Lₛ aₛ ccdₛ clₛ outerₛ A₀ₛ baseₛ h₀ₛ mₛ sₛ RRₛ
noncomputable abbrev Dat := World × (ExcName → Option Value) × (Str → Option Value) × (Str → Option Value) × SA × SV × (Int → Int) × Int × Int × Tok × Tok × (Int → List Int) × Option (List Code) × Str × Scope × Addr × Addr × Value × (List (Str × Addr)) × List Env × Around × Heap × Heap × (Str → Option Value) × Shared × (Result → Shared → Prop)
noncomputable def ok (p : Dat) : Prop := let q1 := p.2.2.2.2.2.2.2.2; let q2 := q1.2.2.2.2.2.2.2.2; let q3 := q2.2.2.2.2.2.2.2.2; stm p.1 p.2.1 p.2.2.1 p.2.2.2.1 p.2.2.2.2.1 p.2.2.2.2.2.1 p.2.2.2.2.2.2.1 p.2.2.2.2.2.2.2.1 q1.1 q1.2.1 q1.2.2.1 q1.2.2.2.1 q1.2.2.2.2.1 q1.2.2.2.2.2.1 q1.2.2.2.2.2.2.1 q1.2.2.2.2.2.2.2.1 q2.1 q2.2.1 q2.2.2.1 q2.2.2.2.1 q2.2.2.2.2.1 q2.2.2.2.2.2.1 q2.2.2.2.2.2.2.1 q2.2.2.2.2.2.2.2.1 q3.1 q3.2
@[irreducible] noncomputable def cc : Dat := @Classical.epsilon Dat ⟨(world0, fun _ => none, fun _ => none, fun _ => none, ⟨0,0,0,0,fun _=>0,fun _=>0,fun _=>0,0,0,0,0,fun _=>0,default⟩, ⟨0,0,0,0,fun _=>0,fun _=>[],fun _=>0,0,[]⟩, default, 0, 0, (0 : Nat), (0 : Nat), default, none, default, default, (0 : Nat), (0 : Nat), .none, [], [], {}, {}, {}, fun _ => none, {}, fun _ _ => True)⟩ fun p => ¬ ok p
noncomputable def c1 := cc.2.2.2.2.2.2.2.2
noncomputable def c2 := c1.2.2.2.2.2.2.2.2
noncomputable def c3 := c2.2.2.2.2.2.2.2.2
@[irreducible] noncomputable def w : World := cc.1
@[irreducible] noncomputable def mean : ExcName → Option Value := cc.2.1
@[irreducible] noncomputable def mg : Str → Option Value := cc.2.2.1
@[irreducible] noncomputable def mb : Str → Option Value := cc.2.2.2.1
@[irreducible] noncomputable def A : SA := cc.2.2.2.2.1
@[irreducible] noncomputable def V : SV := cc.2.2.2.2.2.1
@[irreducible] noncomputable def n : Int → Int := cc.2.2.2.2.2.2.1
@[irreducible] noncomputable def t : Int := cc.2.2.2.2.2.2.2.1
@[irreducible] noncomputable def a : Int := c1.1
@[irreducible] noncomputable def tt : Tok := c1.2.1
@[irreducible] noncomputable def ta : Tok := c1.2.2.1
@[irreducible] noncomputable def su : Int → List Int := c1.2.2.2.1
@[irreducible] noncomputable def gdₛ : Option (List Code) := c1.2.2.2.2.1
@[irreducible] noncomputable def cnₛ : Str := c1.2.2.2.2.2.1
@[irreducible] noncomputable def csₛ : Scope := c1.2.2.2.2.2.2.1
@[irreducible] noncomputable def Lₛ : Addr := c1.2.2.2.2.2.2.2.1
@[irreducible] noncomputable def aₛ : Addr := c2.1
@[irreducible] noncomputable def ccdₛ : Value := c2.2.1
@[irreducible] noncomputable def clₛ : List (Str × Addr) := c2.2.2.1
@[irreducible] noncomputable def outerₛ : List Env := c2.2.2.2.1
@[irreducible] noncomputable def A₀ₛ : Around := c2.2.2.2.2.1
@[irreducible] noncomputable def baseₛ : Heap := c2.2.2.2.2.2.1
@[irreducible] noncomputable def h₀ₛ : Heap := c2.2.2.2.2.2.2.1
@[irreducible] noncomputable def mₛ : Str → Option Value := c2.2.2.2.2.2.2.2.1
@[irreducible] noncomputable def sₛ : Shared := c3.1
@[irreducible] noncomputable def RRₛ : Result → Shared → Prop := c3.2
theorem core : stm w mean mg mb A V n t a tt ta su gdₛ cnₛ csₛ Lₛ aₛ ccdₛ clₛ outerₛ A₀ₛ baseₛ h₀ₛ mₛ sₛ RRₛ := by
  intro hA hD0 ht ha hs hz hn
  have hN : ND (A.P :: A.dP :: A.D :: A.x t :: A.d t :: A.l t :: (othL A V n t).map (·.1)) := SA.pickND [] ⟨hA⟩ ht
  walk_at "c_startR"
  w_strict (walk_at "k_toR")
  rename News _ _ _ _ => N1
  rename ND (_ :: List.map _ _) => hT
  refine nam1 N1 ?_
  intro T eT
  subst eT
  refine use_same (ninfo_con w mean mg mb A V hD0 .none t tt ht) (by assumption) (by assumption) (by assumption) N1 (by assumption) rfl (by first | assumption | rfl) rfl (Nat.le_of_ble_eq_true rfl) (Nat.le_of_ble_eq_true rfl) (fun p hp => .tail _ (sub3 p hp)) ?_
  intro h2 tk2 F2 N2
  clear N1
  walk_at "k_toR"
  rename Fr _ _ _ _ => F3
  rename News _ _ _ _ => N3
  replace N3 : News _ _ _ ((T, ({ cls := .type "tuple", data := .seq #[.int a ta] } : Obj)) :: sorM w A (V.setT (updT V.t t _)) (upd n t (n t + 1))) := news_sub N3 (cons_mem (nodes_num3 ht))
  refine genM N3 ?_
  clear N3
  intro V1 n1 N3 hV1 hn1
  have e1 : V1.s = V.s := by rw [hV1]; rfl
  have e2 : V1.po = V.po := by rw [hV1]; rfl
  have e3 : V1.fi = V.fi := by rw [hV1]; rfl
  clear hV1
  replace hT : ND (T :: adrN A) := SA.unpickND [T] hT ht
  refine for_tupS (AdI w A V1 n1 su t a tt ta T) [("self", _), ("node", _)] (vs := [.int a ta]) rfl F3 N3 (.head _) rfl rfl (by exact ⟨rfl, rfl, trivial⟩) (by exact .one) (by rintro r ps n ⟨⟩ <;> exact List.Mem.head _) ?_ ?_ (by passes_own) ?_
  · rintro I v r ps₁ u news₁ it h tk Pp hI hit ⟨⟩ F1 N1 hN2 - hB -
    clear F3 N3
    dsimp only [kstB] at F1
    have hI2 : ND (I :: T :: adrN A) := ND.push (news := ((T : Addr), ({ cls := .type "tuple", data := .seq #[.int a ta] } : Obj)) :: sorM w A V1 n1) hT hI
    have hP : ND (I :: T :: A.P :: A.dP :: A.D :: A.x a :: A.d a :: A.l a :: (othL A V1 n1 a).map (·.1)) := SA.pickND [I, T] hI2 ha
    have off := fun V2 => ND.off (news' := ((T : Addr), ({ cls := .type "tuple", data := .seq #[.int a ta] } : Obj)) :: sorM w A V2 n1) hI rfl
    replace N1 : News _ _ _ ((I, it) :: (T, ({ cls := .type "tuple", data := .seq #[.int a ta] } : Obj)) :: (A.P, instObj 151 A.dP) :: (A.dP, ownD w A V1 .none) :: (A.D, A.oD) :: pickL A V1 n1 a) := news_sub N1 (cons_mem (cons_mem (pick3 ha)))
    have hls : IntsAre (V1.s a) (su a) := e1 ▸ hs a ha
    clear hI hN
    walk_at "k_callR"
    rename Fr _ _ _ _ => F5
    rename News _ _ _ _ => N5
    refine use_same (ninfo_con w mean mg mb A V1 hD0 .none a ta ha) (by assumption) F5 (by assumption) N5 (by assumption) rfl (by first | assumption | rfl) rfl (Nat.le_of_ble_eq_true rfl) (Nat.le_of_ble_eq_true rfl) (fun p hp => mt2 (sub3 p hp)) ?_
    intro h6 tk6 F6 N6
    clear F5 N5
    walk_at "k_run"
    refine hN2 _ ?_
    (try dsimp only)
    rename Fr _ _ _ _ => F9
    rename News _ _ _ _ => N9
    refine AtI.intro F9 N9 [("self", _), ("node", _)] (((T : Addr), ({ cls := .type "tuple", data := .seq #[.int a ta] } : Obj)) :: sorM w A (V1.setS a _ _) n1) (by exact ⟨rfl, rfl, trivial⟩) (List.Mem.head _) (fun p hp => .tail _ (cons_mem (nodes_suc3 ha) p hp)) (off _) ?_
    exact .nil (by assumption)
  · rintro ps₁ u news₁ h tk ⟨⟩ F1 N1
    rename_i ls k hls
    clear F3 N3
    dsimp only [kstB] at F1
    walk_at "k_run"
    walk_at "c_doneT"
    refine ⟨V1.setS a ls k, rfl, by rw [hn1], e2, e3, fun i hi => ?_⟩
    show IntsAre (updS V1.s a ls i) (addS su t a i)
    unfold updS addS
    by_cases e : i = a
    · rw [if_pos e, if_pos e, e]; exact hls
    · rw [if_neg e, if_neg e, e1]; exact hs i hi
  · walk_at "k_run"
    assumption
theorem all (p : Dat) : ok p := drink _ ok (by with_unfolding_all exact core) p
end S_add_con0
theorem add_con0 (w : World) (mean) (mg mb) (A : SA) (hA : (adrN A).Nodup) (hD0 : A.Dict w) (V : SV) (n : Int → Int) (t a : Int) (tt ta : Tok) (ht : 0 ≤ t ∧ t ≤ 3) (ha : 0 ≤ a ∧ a ≤ 3) (su : Int → List Int) (hs : ∀ i, 0 ≤ i ∧ i ≤ 3 → IntsAre (V.s i) (su i)) (hz : (su a).length ≤ 100) (hn : 0 ≤ n t ∧ n t ≤ 1000) : Con w mean mg mb 420 1700 101 [.ref A.P, .int t tt, .int a ta] ((A.P, instObj 151 A.dP) :: (A.dP, ownD w A V .none) :: (A.D, A.oD) :: pickL A V n t)
      (fun r news' => ∃ V' : SV, r = .none ∧ news' = sorM w A V' (upd n t (n t + 1)) ∧ V'.po = V.po ∧ V'.fi = V.fi ∧ ∀ i, 0 ≤ i ∧ i ≤ 3 → IntsAre (V'.s i) (addS su t a i)) :=
  fun gdₛ cnₛ csₛ Lₛ aₛ ccdₛ clₛ outerₛ A₀ₛ baseₛ h₀ₛ mₛ sₛ RRₛ => S_add_con0.all (w, mean, mg, mb, A, V, n, t, a, tt, ta, su, gdₛ, cnₛ, csₛ, Lₛ, aₛ, ccdₛ, clₛ, outerₛ, A₀ₛ, baseₛ, h₀ₛ, mₛ, sₛ, RRₛ) hA hD0 ht ha hs hz hn
theorem add_con (w : World) (mean) (mg mb) (A : SA) (hA : (adrN A).Nodup) (hD0 : A.Dict w) (V : SV) (n : Int → Int) (t a : Int) (tt ta : Tok) (ht : 0 ≤ t ∧ t ≤ 3) (ha : 0 ≤ a ∧ a ≤ 3) (su : Int → List Int) (hs : ∀ i, 0 ≤ i ∧ i ≤ 3 → IntsAre (V.s i) (su i)) (hz : (su a).length ≤ 100) (hn : 0 ≤ n t ∧ n t ≤ 1000) :
    Con w mean mg mb 420 1700 101 [.ref A.P, .int t tt, .int a ta] (sorM w A V n)
      (fun r news' => ∃ V' : SV, r = .none ∧ news' = sorM w A V' (upd n t (n t + 1)) ∧ V'.po = V.po ∧ V'.fi = V.fi ∧ ∀ i, 0 ≤ i ∧ i ≤ 3 → IntsAre (V'.s i) (addS su t a i)) :=
  Con.frame (add_con0 w mean mg mb A hA hD0 V n t a tt ta ht ha su hs hz hn) (pick3 ht) (fun r n h => ⟨n, h, fun p hp => .inl hp⟩)
theorem at_CycBase : True := by
  w_top off
  k_with "callWith ref" => (k_dflt (refine' callWith_mw ?Nₖ₃₈ ?mₖ₃₈ ?_; (case Nₖ₃₈ => k_asm); (case mₖ₃₈ => k_mem)))
  exact trivial
structure Fm where
  (x : Int) (b it l : Nat) (i : Nat) (tx tk : Tok)
noncomputable def ilF : List Fm → List (Addr × Obj)
  | [] => []
  | f :: r => (f.b, mwO f.it) :: (f.it, liO f.l f.i) :: ilF r
noncomputable def svF : List Fm → List Value
  | [] => []
  | f :: r => svF r ++ [.int f.x f.tx]
noncomputable def tvF : List Fm → List Value
  | [] => []
  | f :: r => tvF r ++ [.ref f.b]
noncomputable def kvF : List Fm → List (Int × Value)
  | [] => []
  | f :: r => kvF r ++ [(f.x, .int ((svF r).length : Int) f.tk)]
noncomputable def stkF (fr : List Fm) : List Int := fr.map (·.x)
theorem svF_len : ∀ fr : List Fm, (svF fr).length = fr.length
  | [] => rfl
  | f :: r => by rw [svF, List.length_append, svF_len r]; rfl
theorem tvF_len : ∀ fr : List Fm, (tvF fr).length = fr.length
  | [] => rfl
  | f :: r => by rw [tvF, List.length_append, tvF_len r]; rfl
theorem kvF_len : ∀ fr : List Fm, (kvF fr).length = fr.length
  | [] => rfl
  | f :: r => by rw [kvF, List.length_append, kvF_len r]; rfl
theorem kvF_keys : ∀ fr : List Fm, (kvF fr).map (·.1) = (stkF fr).reverse
  | [] => rfl
  | f :: r => by rw [kvF, List.map_append, kvF_keys r]; simp [stkF]
theorem svF_ints : ∀ fr : List Fm, IntsAre (svF fr) (stkF fr).reverse
  | [] => IntsAre.nil
  | f :: r => by
    have : (stkF (f :: r)).reverse = (stkF r).reverse ++ [f.x] := by simp [stkF]
    rw [svF, this]
    exact intsAre_append (svF_ints r) (IntsAre.cons _ _ IntsAre.nil)
theorem kvF_no {fr : List Fm} {x : Int} (h : x ∉ stkF fr) : PySem.valueAt (kvF fr) x = none := by
  unfold PySem.valueAt
  rw [Option.map_eq_none_iff, List.find?_eq_none]
  intro p hp q
  apply h
  have : p.1 ∈ (kvF fr).map (·.1) := List.mem_map_of_mem hp
  rw [kvF_keys, List.mem_reverse] at this
  have e : p.1 = x := by simpa using q
  rw [← e]; exact this
theorem kvF_yes {fr : List Fm} {x : Int} (h : x ∈ stkF fr) : ∃ (k : Nat) (t : Tok), PySem.valueAt (kvF fr) x = some (.int (k : Int) t) := by
  induction fr with
  | nil => cases h
  | cons f r ih =>
    by_cases e : x ∈ stkF r
    · obtain ⟨k, t, hk⟩ := ih e
      refine ⟨k, t, ?_⟩
      unfold PySem.valueAt at hk ⊢
      rw [kvF, List.find?_append]
      cases q : (kvF r).find? (fun kv => decide (kv.1 = x)) with
      | none => rw [q] at hk; cases hk
      | some p => rw [q] at hk; simpa using hk
    · have e2 : x = f.x := (List.mem_cons.mp h).resolve_right e
      subst e2
      refine ⟨(svF r).length, f.tk, ?_⟩
      have := kvF_no e
      unfold PySem.valueAt at this ⊢
      rw [Option.map_eq_none_iff] at this
      rw [kvF, List.find?_append, this]
      simp
theorem kvF_store {fr : List Fm} {x : Int} {v : Value} (h : x ∉ stkF fr) : PySem.stored (kvF fr) x v = kvF fr ++ [(x, v)] := by
  unfold PySem.stored
  rw [if_neg]
  intro q
  obtain ⟨p, hp, e⟩ := List.any_eq_true.mp q
  apply h
  have : p.1 ∈ (kvF fr).map (·.1) := List.mem_map_of_mem hp
  rw [kvF_keys, List.mem_reverse] at this
  have e : p.1 = x := by simpa using e
  rw [← e]; exact this
theorem kvF_drop {f : Fm} {r : List Fm} (h : f.x ∉ stkF r) : PySem.without (kvF (f :: r)) f.x = kvF r := by
  unfold PySem.without
  rw [kvF, List.filter_append]
  have e1 : (kvF r).filter (fun kv => decide (kv.1 ≠ f.x)) = kvF r := by
    rw [List.filter_eq_self]
    intro p hp
    rw [decide_eq_true_eq]
    rintro q
    apply h
    have : p.1 ∈ (kvF r).map (·.1) := List.mem_map_of_mem hp
    rw [kvF_keys, List.mem_reverse] at this
    rw [← q]; exact this
  rw [e1]
  simp
noncomputable def Topo (su : Int → List Int) : List Int → Prop
  | [] => True
  | x :: r => (∀ s ∈ su x, s ∈ r) ∧ Topo su r
noncomputable def Cyc (su : Int → List Int) : Prop := ∃ C : List Int, C ≠ [] ∧ (∀ y ∈ C, 0 ≤ y ∧ y ≤ 3) ∧ ∀ y ∈ C, ∃ z ∈ C, y ∈ su z
noncomputable def FrOk (su : Int → List Int) (dn : List Int) : List Fm → Option Int → Prop
  | [], _ => True
  | f :: r, nx => (∀ s ∈ su f.x, s ∈ dn ∨ s ∈ (su f.x).drop f.i ∨ nx = some s) ∧ (∀ y, nx = some y → y ∈ su f.x) ∧ FrOk su dn r (some f.x)
structure Dfs (su : Int → List Int) (fr : List Fm) (S : Int → Bool) (dn : List Int) (nx : Option Int) : Prop where
  topo : Topo su dn
  seen : ∀ y, S y = true ↔ y ∈ dn ∨ y ∈ stkF fr
  nodup : (stkF fr).Nodup
  apart : ∀ y ∈ stkF fr, y ∉ dn
  rng : ∀ y ∈ stkF fr, 0 ≤ y ∧ y ≤ 3
  fine : FrOk su dn fr nx
theorem FrOk.grow {su : Int → List Int} {dn : List Int} {z : Int} : ∀ {fr : List Fm} {nx : Option Int}, FrOk su dn fr nx → FrOk su (z :: dn) fr nx
  | [], _, _ => trivial
  | _ :: _, _, h => ⟨fun s hs => (h.1 s hs).imp (List.mem_cons_of_mem _) id, h.2.1, h.2.2.grow⟩
theorem Dfs.init (su : Int → List Int) : Dfs su [] (fun _ => false) [] none := ⟨trivial, fun y => by simp [stkF], List.nodup_nil, (fun _ h => nomatch h), (fun _ h => nomatch h), trivial⟩
theorem Dfs.start {su : Int → List Int} {S : Int → Bool} {dn : List Int} (x : Int) (h : Dfs su [] S dn none) : Dfs su [] S dn (some x) := ⟨h.topo, h.seen, h.nodup, h.apart, h.rng, trivial⟩
theorem Dfs.push {su : Int → List Int} {fr : List Fm} {S : Int → Bool} {dn : List Int} {x : Int} {f : Fm} (h : Dfs su fr S dn (some x)) (hs : ¬ S x = true) (hx : 0 ≤ x ∧ x ≤ 3) (e : f.x = x) (ei : f.i = 0) : Dfs su (f :: fr) (fun k' => S k' || decide (k' = x)) dn none := by
  subst e
  have nd : f.x ∉ dn := fun q => hs ((h.seen _).mpr (.inl q))
  have ns : f.x ∉ stkF fr := fun q => hs ((h.seen _).mpr (.inr q))
  refine ⟨h.topo, fun y => ?_, List.nodup_cons.mpr ⟨ns, h.nodup⟩, fun y hy => ?_, fun y hy => ?_, ⟨fun s hs => .inr (.inl (by rw [ei]; exact hs)), (fun y q => nomatch q), h.fine⟩⟩
  · rw [Bool.or_eq_true, decide_eq_true_eq, h.seen]
    simp only [stkF, List.map_cons, List.mem_cons]
    constructor
    · rintro ((a | a) | a)
      · exact .inl a
      · exact .inr (.inr a)
      · exact .inr (.inl a)
    · rintro (a | a | a)
      · exact .inl (.inl a)
      · exact .inr a
      · exact .inl (.inr a)
  · rcases List.mem_cons.mp hy with rfl | hy
    · exact nd
    · exact h.apart y hy
  · rcases List.mem_cons.mp hy with rfl | hy
    · exact hx
    · exact h.rng y hy
theorem Dfs.skip {su : Int → List Int} {fr : List Fm} {S : Int → Bool} {dn : List Int} {x : Int} (h : Dfs su fr S dn (some x)) (hs : S x = true) (hx : x ∉ stkF fr) : Dfs su fr S dn none := by
  have hd : x ∈ dn := ((h.seen x).mp hs).resolve_right hx
  refine ⟨h.topo, h.seen, h.nodup, h.apart, h.rng, ?_⟩
  cases fr with
  | nil => trivial
  | cons f r =>
    have := h.fine
    refine ⟨fun s hs => ?_, (fun y q => nomatch q), this.2.2⟩
    rcases this.1 s hs with a | a | a
    · exact .inl a
    · exact .inr (.inl a)
    · injection a with a
      exact .inl (a ▸ hd)
theorem Dfs.next {su : Int → List Int} {f f' : Fm} {r : List Fm} {S : Int → Bool} {dn : List Int} {y : Int} (h : Dfs su (f :: r) S dn none) (hy : (su f.x)[f.i]? = some y) (ex : f'.x = f.x) (ei : f'.i = f.i + 1) : Dfs su (f' :: r) S dn (some y) := by
  have e : stkF (f' :: r) = stkF (f :: r) := by simp [stkF, ex]
  refine ⟨h.topo, by rw [e]; exact h.seen, by rw [e]; exact h.nodup, by rw [e]; exact h.apart, by rw [e]; exact h.rng, ?_⟩
  have hf := h.fine
  refine ⟨fun s hs => ?_, fun z q => ?_, by rw [ex]; exact hf.2.2⟩
  · rw [ex] at hs
    rcases hf.1 s hs with a | a | a
    · exact .inl a
    · have hi : f.i < (su f.x).length := by
        obtain ⟨q, _⟩ := List.getElem?_eq_some_iff.mp hy; exact q
      rw [List.drop_eq_getElem_cons hi] at a
      rcases List.mem_cons.mp a with a | a
      · refine .inr (.inr ?_)
        rw [a]
        have := List.getElem?_eq_getElem hi
        rw [hy] at this
        exact this
      · refine .inr (.inl ?_)
        rw [ex, ei]; exact a
    · cases a
  · injection q with q
    rw [ex, ← q]
    exact List.mem_of_getElem? hy
theorem Dfs.pop {su : Int → List Int} {f : Fm} {r : List Fm} {S : Int → Bool} {dn : List Int} (h : Dfs su (f :: r) S dn none) (hy : (su f.x)[f.i]? = none) : Dfs su r S (f.x :: dn) none := by
  have hf := h.fine
  have hn := List.nodup_cons.mp h.nodup
  have all : ∀ s ∈ su f.x, s ∈ dn := fun s hs => by
    rcases hf.1 s hs with a | a | a
    · exact a
    · rw [List.drop_eq_nil_of_le (List.getElem?_eq_none_iff.mp hy)] at a; cases a
    · cases a
  refine ⟨⟨all, h.topo⟩, fun y => ?_, hn.2, fun y hy => ?_, fun y hy => h.rng y (.tail _ hy), ?_⟩
  · rw [h.seen]
    simp only [stkF, List.map_cons, List.mem_cons]
    constructor
    · rintro (a | a | a)
      · exact .inl (.inr a)
      · exact .inl (.inl a)
      · exact .inr a
    · rintro ((a | a) | a)
      · exact .inr (.inl a)
      · exact .inl a
      · exact .inr (.inr a)
  · intro q
    rcases List.mem_cons.mp q with rfl | q
    · exact hn.1 hy
    · exact h.apart y (.tail _ hy) q
  · cases r with
    | nil => trivial
    | cons g r =>
      have hg := hf.2.2
      refine ⟨fun s hs => ?_, (fun y q => nomatch q), hg.2.2.grow⟩
      rcases hg.1 s hs with a | a | a
      · exact .inl (.tail _ a)
      · exact .inr (.inl a)
      · injection a with a
        exact .inl (a ▸ List.mem_cons_self ..)
theorem FrOk.cyc {su : Int → List Int} {dn : List Int} {x : Int} : ∀ {fr : List Fm} {y : Int}, FrOk su dn fr (some y) → x ∈ stkF fr → ∃ C : List Int, x ∈ C ∧ (∀ z ∈ C, z ∈ stkF fr) ∧ (∃ z ∈ C, y ∈ su z) ∧ ∀ z ∈ C, z = x ∨ ∃ u ∈ C, z ∈ su u
  | [], _, _, h => nomatch h
  | f :: r, y, hf, h => by
    by_cases e : x = f.x
    · subst e
      exact ⟨[f.x], List.mem_singleton.mpr rfl, fun z hz => by rw [List.mem_singleton.mp hz]; exact List.mem_cons_self .., ⟨f.x, List.mem_singleton.mpr rfl, hf.2.1 y rfl⟩, fun z hz => .inl (List.mem_singleton.mp hz)⟩
    · obtain ⟨C, h1, h2, ⟨u, hu, hu2⟩, h4⟩ := hf.2.2.cyc ((List.mem_cons.mp h).resolve_left e)
      refine ⟨f.x :: C, .tail _ h1, fun z hz => ?_, ⟨f.x, .head _, hf.2.1 y rfl⟩, fun z hz => ?_⟩
      · rcases List.mem_cons.mp hz with rfl | hz
        · exact .head _
        · exact .tail _ (h2 z hz)
      · rcases List.mem_cons.mp hz with rfl | hz
        · exact .inr ⟨u, .tail _ hu, hu2⟩
        · rcases h4 z hz with a | ⟨v, hv, hv2⟩
          · exact .inl a
          · exact .inr ⟨v, .tail _ hv, hv2⟩
theorem Dfs.cyc {su : Int → List Int} {fr : List Fm} {S : Int → Bool} {dn : List Int} {x : Int} (h : Dfs su fr S dn (some x)) (hx : x ∈ stkF fr) : Cyc su := by
  obtain ⟨C, h1, h2, ⟨u, hu, hu2⟩, h4⟩ := h.fine.cyc hx
  refine ⟨C, (fun q => by rw [q] at h1; cases h1), fun y hy => h.rng y (h2 y hy), fun y hy => ?_⟩
  rcases h4 y hy with rfl | a
  · exact ⟨u, hu, hu2⟩
  · exact a
noncomputable def restW (su : Int → List Int) (S : Int → Bool) (x : Int) : Nat := if S x = true then 0 else (su x).length + 1
noncomputable def leftW (su : Int → List Int) (S : Int → Bool) : Nat := restW su S 0 + restW su S 1 + restW su S 2 + restW su S 3
noncomputable def openW (su : Int → List Int) : List Fm → Nat
  | [] => 0
  | f :: r => ((su f.x).length - f.i) + openW su r
theorem restW_or {su : Int → List Int} {S : Int → Bool} {x : Int} (y : Int) (h : y ≠ x) : restW su (fun k' => S k' || decide (k' = x)) y = restW su S y := by
  unfold restW
  simp [h]
theorem restW_at {su : Int → List Int} {S : Int → Bool} {x : Int} : restW su (fun k' => S k' || decide (k' = x)) x = 0 := by
  unfold restW
  simp
theorem restW_un {su : Int → List Int} {S : Int → Bool} {x : Int} (h : ¬ S x = true) : restW su S x = (su x).length + 1 := if_neg h
theorem leftW_push {su : Int → List Int} {S : Int → Bool} {x : Int} (h : ¬ S x = true) (hx : 0 ≤ x ∧ x ≤ 3) : leftW su (fun k' => S k' || decide (k' = x)) + ((su x).length + 1) = leftW su S := by
  unfold leftW
  rcases int_zero_to_three hx with rfl | rfl | rfl | rfl
  · rw [restW_at, restW_un h, restW_or 1 (by decide), restW_or 2 (by decide), restW_or 3 (by decide)]; omega
  · rw [restW_at, restW_un h, restW_or 0 (by decide), restW_or 2 (by decide), restW_or 3 (by decide)]; omega
  · rw [restW_at, restW_un h, restW_or 0 (by decide), restW_or 1 (by decide), restW_or 3 (by decide)]; omega
  · rw [restW_at, restW_un h, restW_or 0 (by decide), restW_or 1 (by decide), restW_or 2 (by decide)]; omega
theorem at_CycLines : True := by
  w_top off
  exact trivial
structure Above (B : Nat) (l : List (Addr × Obj)) : Prop where
  lt : ∀ p ∈ l, @LT.lt Nat _ B p.1
theorem ne_above {B X : Nat} {l : List (Addr × Obj)} (h : Above B l) (hx : X ≤ B) : ∀ p ∈ l, @Ne Nat p.1 X := fun p hp q => absurd (h.lt p hp) (by rw [q]; exact Nat.not_lt.mpr hx)
structure Under (B : Nat) (l : List (Addr × Obj)) : Prop where
  lt : ∀ p ∈ l, @LT.lt Nat _ p.1 B
theorem ne_under {B X : Nat} {l : List (Addr × Obj)} (h : Under B l) (hx : B ≤ X) : ∀ p ∈ l, @Ne Nat p.1 X := fun p hp q => absurd (h.lt p hp) (by rw [q]; exact Nat.not_lt.mpr hx)
theorem under_of {B : Nat} : ∀ {l : List (Addr × Obj)}, AllLt B l → Under B l
  | [], _ => ⟨fun _ h => nomatch h⟩
  | p :: r, h => ⟨fun q hq => by
    rcases List.mem_cons.mp hq with rfl | hq
    · exact h.1
    · exact (under_of h.2).lt q hq⟩
theorem lines_CycLines_730 : True := by
  k_with "k_all" => first | exact List.forall_mem_nil _ | (refine' List.forall_mem_cons.mpr ⟨?aₖ₄₉, ?bₖ₄₉⟩; (case aₖ₄₉ => k_ne); (case bₖ₄₉ => k_all)) | exact ne_above (by with_reducible assumption) (by omega) | exact ne_under (by with_reducible assumption) (by omega) | fail "k_all: not by order"
  exact trivial
section
variable {prog : Program} {w : World} {A : Around} {E : Value → Shared → Prop} {s : Shared} {h₀ : Heap} {L D l : Addr} {m : Str → Option Value} {news news' : List (Addr × Obj)} {vs : List Value} {n : Nat}
theorem app_val {x : Value} {Q : Value → Shared → Prop} (F : Fr h₀ L s.heap m) (N : News h₀ L s.heap news) (U : Upd D (W.listOf (List.toArray vs) n) (W.listOf (List.toArray (vs ++ [x])) (n + 1)) news news') (hz : vs.length ≤ 1000)
    (h : ∀ h', Fr h₀ L h' m → News h₀ L h' news' → Q .none { s with heap := h' }) : wpAny (model prog w) A (call (.builtin "list.append") [.ref D, x]) Q E s := by
  have e : List.toArray (vs ++ [x]) = (List.toArray vs).push x := by simp
  rw [e] at U
  have hsz : sizeLine = 16777216 := rfl
  exact append_K F N U h (by rw [List.size_toArray]; omega)
theorem len_listV {Q : Value → Shared → Prop} (N : News h₀ L s.heap news) (hm : (l, W.listOf (List.toArray vs) n) ∈ news) (hz : vs.length ≤ 1000) (h : Q (.int (vs.length : Int) (s.toks + 1)) { s with toks := s.toks + 1 + 1 }) :
    wpAny (model prog w) A (call (.builtin "len") [.ref l]) Q E s := by
  refine PyProof.Rows.len_list (PySem.IsL.isList (n := n) (N _ hm).1) (by rw [List.size_toArray]; omega) ?_
  rw [List.size_toArray]
  exact h
theorem item_lastV {value slice : PySem.Expr} {u : Tok} {x : Value} {Q : Value → Shared → Prop} (N : News h₀ L s.heap news) (hm : (l, W.listOf (List.toArray (vs ++ [x])) n) ∈ news) (h : Q x s)
    (hs : subscripted slice false (.ref l) (.int (-1) u) = operate [.ref l, .int (-1) u] (getItem (.ref l) (.int (-1) u))) (hg : ∀ r, letTemporaryGo value (.ref l) r = pure ()) :
    wpAny (model prog w) A (subscriptTail value slice (.ref l) (.int (-1) u)) Q E s :=
  kim_back (l := vs ++ [x]) (n := n) N hm rfl rfl (by decide) (by rw [List.length_append]; simp; omega) (by decide) (by
    have : ((-1 : Int) + ((vs ++ [x]).length : Int)).toNat = vs.length := by rw [List.length_append]; simp; omega
    rw [this]; simp) h hs hg
theorem pop_lastV {x : Value} {Q : Value → Shared → Prop} (F : Fr h₀ L s.heap m) (N : News h₀ L s.heap news) (U : Upd D (W.listOf (List.toArray (vs ++ [x])) n) (W.listOf (List.toArray vs) (n + 1)) news news') (hz : vs.length ≤ 1000)
    (h : ∀ h', Fr h₀ L h' m → News h₀ L h' news' → Q x { s with heap := h' }) : wpAny (model prog w) A (call (.builtin "list.pop") [.ref D]) Q E s :=
  kl_pop F N (kpa_last x vs) U (by have hsz : sizeLine = 16777216 := rfl
                                   show (vs ++ [x]).length ≤ _
                                   rw [List.length_append]; simp; omega) h
theorem truthy_listV {Q : Bool → Shared → Prop} (N : News h₀ L s.heap news) (hm : (l, W.listOf (List.toArray vs) n) ∈ news) (hz : vs.length ≤ 1000) (h : Q (!vs.isEmpty) { s with toks := s.toks + 1 + 1 }) : wpAny (model prog w) A (truthy (.ref l)) Q E s :=
  kgr_truthy (n := n) N hm rfl rfl (by omega) h
end
theorem lines_CycLines_739 : True := by
  k_with "call builtin:iter" => ((with_reducible show wpAny _ _ (call (Value.builtin "iter") [Value.ref _]) _ _ _); k_dflt (refine' iter_listK ?Fₖ₅₀ ?Nₖ₅₀ ?mₖ₅₀ ?_; (case Fₖ₅₀ => k_asm); (case Nₖ₅₀ => k_asm); (case mₖ₅₀ => k_mem)); intro D'ₖ h'ₖ F'ₖ N'ₖ l1ₖ; (try k_lt l1ₖ); (try k_sweep))
  k_with "getAttr ref" => ((with_reducible show wpAny _ _ (getAttr (Value.ref _) (Str.ofString "__next__") true) _ _ _); k_dflt (refine' get_nextK ?Fₖ₅₁ ?Nₖ₅₁ ?mₖ₅₁ ?_; (case Fₖ₅₁ => k_asm); (case Nₖ₅₁ => k_asm); (case mₖ₅₁ => k_mem)); intro D'ₖ h'ₖ F'ₖ N'ₖ l1ₖ; (try k_lt l1ₖ); (try k_sweep))
  k_with "call builtin:list.append" => ((with_reducible show wpAny _ _ (call (Value.builtin _) [Value.ref _, Value.ref _]) _ _ _); k_dflt (refine' app_val ?Fₖ₅₂ ?Nₖ₅₂ ?Uₖ₅₂ ?zₖ₅₂ ?_; (case Fₖ₅₂ => k_asm); (case Nₖ₅₂ => k_asm); (case Uₖ₅₂ => k_upd); (case zₖ₅₂ => omega)); intro h'ₖ F'ₖ N'ₖ; (try dsimp only at N'ₖ); (try k_sweep))
  k_with "call builtin:len" => ((with_reducible show wpAny _ _ (call (Value.builtin "len") [Value.ref _]) _ _ _); k_dflt (refine' len_listV ?Nₖ₅₃ ?mₖ₅₃ ?zₖ₅₃ ?_; (case Nₖ₅₃ => k_asm); (case mₖ₅₃ => k_mem); (case zₖ₅₃ => omega)))
  k_with "setItem ref int" => ((with_reducible show wpAny _ _ (setItem (Value.ref _) (Value.int _ _) (Value.int _ _)) _ _ _); k_dflt (refine' kda_set (knd := PySem.intKind _ _) ?Fₖ₅₄ ?Nₖ₅₄ ?Uₖ₅₄ ?dₖ₅₄ (intKind_is _ _ _ _) ?zₖ₅₄ ?_; (case Fₖ₅₄ => k_asm); (case Nₖ₅₄ => k_asm); (case Uₖ₅₄ => k_updF); (case dₖ₅₄ => k_asm); (case zₖ₅₄ => (rw [sizeLine_eq]; omega))); intro h'ₖ o'ₖ F'ₖ N'ₖ hd'ₖ; (try dsimp only at N'ₖ))
  k_with "delItem ref int" => (k_dflt (refine' kob_del (knd := PySem.intKind _ _) ?Fₖ₅₅ ?Nₖ₅₅ ?Uₖ₅₅ ?dₖ₅₅ (intKind_is _ _ _ _) ?lₖ₅₅ ?zₖ₅₅ ?_; (case Fₖ₅₅ => k_asm); (case Nₖ₅₅ => k_asm); (case Uₖ₅₅ => k_updF); (case dₖ₅₅ => k_asm); (case lₖ₅₅ => with_reducible assumption); (case zₖ₅₅ => (rw [sizeLine_eq]; omega))); intro h'ₖ o'ₖ F'ₖ N'ₖ hd'ₖ; (try dsimp only at N'ₖ))
  k_with "subscriptTail" => ((with_reducible show wpAny _ _ (subscriptTail _ _ (Value.ref _) (Value.int (-1) _)) _ _ _); k_dflt (refine' item_lastV ?Nₖ₅₆ ?mₖ₅₆ ?_ ?sₖ₅₆ ?gₖ₅₆; (case Nₖ₅₆ => k_asm); (case mₖ₅₆ => k_mem); (case sₖ₅₆ => with_unfolding_all rfl); (case gₖ₅₆ => intro _; with_unfolding_all rfl)))
  k_with "call builtin:list.pop" => ((with_reducible show wpAny _ _ (call (Value.builtin _) [Value.ref _]) _ _ _); k_dflt (refine' pop_lastV ?Fₖ₅₇ ?Nₖ₅₇ ?Uₖ₅₇ ?zₖ₅₇ ?_; (case Fₖ₅₇ => k_asm); (case Nₖ₅₇ => k_asm); (case Uₖ₅₇ => k_upd); (case zₖ₅₇ => omega)); intro h'ₖ F'ₖ N'ₖ; (try dsimp only at N'ₖ); (try k_sweep))
  k_with "truthy ref" => (k_dflt (refine' truthy_listV ?Nₖ₅₈ ?mₖ₅₈ ?zₖ₅₈ ?_; (case Nₖ₅₈ => k_asm); (case mₖ₅₈ => k_mem); (case zₖ₅₈ => omega)))
  exact trivial
section
variable {w : World} {mean : ExcName → Option Value} {mg mb : Str → Option Value} {A A₀ : Around} {base g₀ : Heap} {outer : List Env} {E : Value → Shared → Prop} {s : Shared} {env : Env} {L : Addr} {Q : Flow → Shared → Prop} {m₀ : Str → Option Value} {news : List (Addr × Obj)}
theorem w_cutE {test : PySem.Expr} {body orelse : List Stmt} {pos : Pos} {σ : Type} {gi : Heap} (I : σ → List (Str × Value) → List (Addr × Obj) → Prop) (X : List (Str × Value) → List (Addr × Obj) → Prop) (μ : σ → Nat) (c₀ : σ) (ps₀ : List (Str × Value))
    (G : Gr w mean mg mb A₀ base outer g₀ gi) (F : Fr gi L s.heap m₀) (N : News gi L s.heap news) (hps : AllAt m₀ ps₀) (h0 : I c₀ ps₀ news)
    (turn : ∀ g c ps₁ (u : Str → Option Value) news₁ h tk (P C : Flow → Shared → Prop), I c ps₁ news₁ → Gr w mean mg mb A₀ base outer g₀ g → Below A₀ base outer g → (hd.heap_1 w.params).In g → Top VW LS mean mg mb g → KtsDicts (frs outer) g → Fr g L h (kstB u ps₁) → News g L h news₁ →
      (∀ s', AtS w mean mg mb A₀ base outer g₀ L s (fun ps n => ∃ c', I c' ps n ∧ μ c' < μ c) s' → P .next s') → (∀ s', P .next s' → P .cont s') → (∀ s', AtS w mean mg mb A₀ base outer g₀ L s X s' → C .next s') → (∀ s', C .next s' → P .brk s') → (∀ v s', Q (.ret v) s' → P (.ret v) s') → (∀ s', Q .brk s' → C .brk s') →
      wpAny (model Challenge.rw_om0134_01.row.prog w) A (isTrue test env (eval test env)) (fun b s₂ => if b = true then wpAny (model Challenge.rw_om0134_01.row.prog w) A (execs body env) P E s₂ else wpAny (model Challenge.rw_om0134_01.row.prog w) A (execs orelse env) C E s₂) E { s with heap := h, toks := tk })
    (after : ∀ g ps₁ (u : Str → Option Value) news₁ h tk, X ps₁ news₁ → Gr w mean mg mb A₀ base outer g₀ g → Below A₀ base outer g → (hd.heap_1 w.params).In g → Top VW LS mean mg mb g → KtsDicts (frs outer) g → Fr g L h (kstB u ps₁) → News g L h news₁ → Q .next { s with heap := h, toks := tk })
    (hE : PassesOwn (model Challenge.rw_om0134_01.row.prog w) A env E) :
    wpAny (model Challenge.rw_om0134_01.row.prog w) A (exec (.While test body orelse pos) env) Q E s := by
  refine w_start ?_
  let C : Flow → Shared → Prop := fun f s' => match f with | .next => AtS w mean mg mb A₀ base outer g₀ L s X s' | f => Q f s'
  have fin : ∀ f s', C f s' → Q f s' := by
    intro f s' x
    cases f with
    | next => obtain ⟨g, h, tk, m, ps, news, rfl, G, F, N, M, hX⟩ := x; exact after g ps m news h tk hX G G.below G.inn G.top G.dicts (M.fr F) N
    | brk => exact x
    | cont => exact x
    | ret v => exact x
  have key : ∀ k c, μ c < k → ∀ g ps₁ m₁ news₁ h tk, AllAt m₁ ps₁ → I c ps₁ news₁ → Gr w mean mg mb A₀ base outer g₀ g → Fr g L h m₁ → News g L h news₁ → WRest Challenge.rw_om0134_01.row.prog w A E env test body orelse Q { s with heap := h, toks := tk } := by
    intro k
    induction k with
    | zero => intro c hc; exact absurd hc (Nat.not_lt_zero _)
    | succ k ih =>
      intro c hc g ps₁ m₁ news₁ h tk hM hI G₁ F₁ N₁
      let P : Flow → Shared → Prop := fun f s' => match f with | .next => AtS w mean mg mb A₀ base outer g₀ L s (fun ps n => ∃ c', I c' ps n ∧ μ c' < μ c) s' | .cont => AtS w mean mg mb A₀ base outer g₀ L s (fun ps n => ∃ c', I c' ps n ∧ μ c' < μ c) s' | .brk => C .next s' | .ret v => Q (.ret v) s'
      refine w_turn (wpAny_mono (turn g c ps₁ m₁ news₁ h tk P C hI G₁ G₁.below G₁.inn G₁.top G₁.dicts (hM.fr F₁) N₁ (fun _ x => x) (fun _ x => x) (fun _ x => x) (fun _ x => x) (fun _ _ x => x) (fun _ x => x)) (fun b s₂ x => ?_) fun _ _ e => e) hE
      cases b with
      | false =>
        rw [if_neg Bool.false_ne_true] at x ⊢
        exact wpAny_mono x fin fun _ _ e => e
      | true =>
        rw [if_pos rfl] at x ⊢
        refine wpAny_mono x (fun f s₃ y => ?_) fun _ _ e => e
        cases f with
        | ret v => exact y
        | brk => exact fin _ _ y
        | next => obtain ⟨g', h', tk', m', ps', n', rfl, G', F', N', hM', c', hI', hlt⟩ := y; exact ih c' (by omega) g' ps' m' n' h' tk' hM' hI' G' F' N'
        | cont => obtain ⟨g', h', tk', m', ps', n', rfl, G', F', N', hM', c', hI', hlt⟩ := y; exact ih c' (by omega) g' ps' m' n' h' tk' hM' hI' G' F' N'
  exact key _ c₀ (Nat.lt_succ_self _) gi ps₀ m₀ news s.heap s.toks hps h0 G F N
end
theorem isExc_Stop : isSubtype (.type "StopIteration") (.type "BaseException") = pure true := by rw [isSubtype_type]; kernel_rfl
theorem notTuple_Stop : isSubtype (.type ((Manifest.find? "StopIteration").elim "type" fun x => x.metatype)) (.type "tuple") = pure false := by
  rw [show ((Manifest.find? "StopIteration").elim "type" fun x => x.metatype) = "type" by decide +kernel, isSubtype_type]; kernel_rfl
theorem boot_Stop : bootBuiltins (Str.ofString "StopIteration") = some (.type "StopIteration") := by kernel_rfl
section
variable {w : World} {mean : ExcName → Option Value} {mg mb : Str → Option Value} {A A₀ : Around} {base g₀ : Heap} {outer : List Env} {E : Value → Shared → Prop} {L : Addr} {Q : Flow → Shared → Prop}
theorem cut_atS {M : Model} {t : Sem Flow} (s : Shared) {s₀ : Shared} (X : List (Str × Value) → List (Addr × Obj) → Prop)
    (h : ∀ C : Flow → Shared → Prop, (∀ s', AtS w mean mg mb A₀ base outer g₀ L s X s' → C .next s') → (∀ f s', f ≠ .next → Q f s' → C f s') → wpAny M A t C E s₀)
    (k : ∀ g ps (u : Str → Option Value) news h tk, X ps news → Gr w mean mg mb A₀ base outer g₀ g → Below A₀ base outer g → (hd.heap_1 w.params).In g → Top VW LS mean mg mb g → KtsDicts (frs outer) g → Fr g L h (kstB u ps) → News g L h news → Q .next { s with heap := h, toks := tk }) : wpAny M A t Q E s₀ :=
  wpAny_mono (h (fun f s' => match f with | .next => AtS w mean mg mb A₀ base outer g₀ L s X s' | f => Q f s') (fun _ x => x) (fun f s' hf q => by cases f <;> first | exact absurd rfl hf | exact q)) (fun f s' x => by
    cases f with
    | next => obtain ⟨g, h, tk, m, ps, news, rfl, G, F, N, M, hX⟩ := x; exact k g ps m news h tk hX G G.below G.inn G.top G.dicts (M.fr F) N
    | brk => exact x
    | cont => exact x
    | ret v => exact x) fun _ _ e => e
end
theorem name4 {P : Prop} {g h : Heap} {L a b c d : Addr} {oa ob oc od : Obj} {r : List (Addr × Obj)} (_N : News g L h ((a, oa) :: (b, ob) :: (c, oc) :: (d, od) :: r)) (k : ∀ a' b' c' d' : Nat, a' = a → b' = b → c' = c → d' = d → P) : P := k a b c d rfl rfl rfl rfl
section
variable {w : World} {mean : ExcName → Option Value} {mg mb : Str → Option Value} {A A₀ : Around} {base g₀ gi : Heap} {outer : List Env} {E : Value → Shared → Prop} {L : Addr} {Q : Flow → Shared → Prop} {m : Str → Option Value}
theorem cut_hereS {M : Model} {t : Sem Flow} {s : Shared} (_G : Gr w mean mg mb A₀ base outer g₀ gi) (_F : Fr gi L s.heap m) (X : List (Str × Value) → List (Addr × Obj) → Prop)
    (h : ∀ C : Flow → Shared → Prop, (∀ s', AtS w mean mg mb A₀ base outer g₀ L s X s' → C .next s') → (∀ f s', f ≠ .next → Q f s' → C f s') → wpAny M A t C E s)
    (k : ∀ g ps (u : Str → Option Value) news h tk, X ps news → Gr w mean mg mb A₀ base outer g₀ g → Below A₀ base outer g → (hd.heap_1 w.params).In g → Top VW LS mean mg mb g → KtsDicts (frs outer) g → Fr g L h (kstB u ps) → News g L h news → Q .next { s with heap := h, toks := tk }) : wpAny M A t Q E s :=
  cut_atS s X h k
end
section
variable {prog : Program} {w : World} {A : Around} {E : Value → Shared → Prop} {s : Shared} {h₀ : Heap} {L a b : Addr} {m : Str → Option Value} {news : List (Addr × Obj)} {vs ws : List Value} {n k : Nat}
theorem add_listsV {Q : Value → Shared → Prop} (F : Fr h₀ L s.heap m) (N : News h₀ L s.heap news) (ha : (a, W.listOf (List.toArray vs) n) ∈ news) (hb : (b, W.listOf (List.toArray ws) k) ∈ news) (hz : vs.length + ws.length ≤ 1000)
    (h : ∀ D h', Fr h₀ L h' m → News h₀ L h' ((D, W.listOf (List.toArray (vs ++ ws)) 0) :: news) → (∀ p ∈ news, p.1 < D) → Q (.ref D) { s with heap := h' }) : wpAny (model prog w) A (binaryOp .Add (.ref a) (.ref b)) Q E s :=
  add_lists (vs := vs) (ws := ws) (hsz := by rw [sizeLine_eq]; omega) F N (PySem.IsL.isList (n := n) (N _ ha).1) (PySem.IsL.isList (n := k) (N _ hb).1) fun h' F' N' => h _ h' F' N' fun p hp => Heap.lt_size (N p hp).1
end
theorem name1 {P : Prop} {g h : Heap} {L a : Addr} {oa : Obj} {r : List (Addr × Obj)} (_N : News g L h ((a, oa) :: r)) (k : ∀ a' : Nat, a' = a → P) : P := k a rfl
theorem lines_CycLines_761 : True := by
  k_with "binaryOp Add ref ref" => (k_dflt (refine' add_listsV ?Fₖ₅₉ ?Nₖ₅₉ ?aₖ₅₉ ?bₖ₅₉ ?zₖ₅₉ ?_; (case Fₖ₅₉ => k_asm); (case Nₖ₅₉ => k_asm); (case aₖ₅₉ => k_mem); (case bₖ₅₉ => k_mem); (case zₖ₅₉ => first | omega | ((with_reducible rename IntsAre _ _ => h9ₖ); (have hl9ₖ := IntsAre.length h9ₖ); simp only [List.length_cons, List.length_nil]; omega))); intro D'ₖ h'ₖ F'ₖ N'ₖ l1ₖ; (try k_lt l1ₖ); (try k_sweep))
  exact trivial
theorem stk_len (fr : List Fm) : ((stkF fr).reverse).length = fr.length := by simp [stkF]
theorem name2 {P : Prop} {g h : Heap} {L a b : Addr} {oa ob : Obj} {r : List (Addr × Obj)} (_N : News g L h ((a, oa) :: (b, ob) :: r)) (k : ∀ a' b' : Nat, a' = a → b' = b → P) : P := k a b rfl rfl
theorem ints_get {vs : List Value} {ns : List Int} (h : IntsAre vs ns) {i : Nat} {y : Int} (hy : ns[i]? = some y) : ∃ t, vs[i]? = some (.int y t) := by
  induction h generalizing i with
  | nil => cases hy
  | cons a t _ ih =>
    cases i with
    | zero => exact ⟨t, by simp at hy ⊢; exact hy⟩
    | succ i => simp at hy ⊢; exact ih hy
theorem ints_none {vs : List Value} {ns : List Int} (h : IntsAre vs ns) {i : Nat} (hy : ns[i]? = none) : vs[i]? = none := by
  rw [List.getElem?_eq_none_iff] at hy ⊢
  rw [h.length]; exact hy
theorem truthy_snoc {prog : Program} {w : World} {A : Around} {E : Value → Shared → Prop} {s : Shared} {h₀ : Heap} {L l : Addr} {news : List (Addr × Obj)} {vs : List Value} {x : Value} {n : Nat} {Q : Bool → Shared → Prop} (N : News h₀ L s.heap news) (hm : (l, W.listOf (List.toArray (vs ++ [x])) n) ∈ news) (hz : vs.length ≤ 1000) (h : Q true { s with toks := s.toks + 1 + 1 }) : wpAny (model prog w) A (truthy (.ref l)) Q E s := by
  refine kgr_truthy (n := n) N hm rfl rfl (by rw [List.length_append]; simp; omega) ?_
  have : (!(vs ++ [x]).isEmpty) = true := by simp
  rw [this]
  exact h
theorem lines_CycLines_767 : True := by
  k_with "truthy ref" => (k_dflt (refine' truthy_snoc ?Nₖ₆₀ ?mₖ₆₀ ?zₖ₆₀ ?_; (case Nₖ₆₀ => k_asm); (case mₖ₆₀ => k_mem); (case zₖ₆₀ => omega)))
  k_with "k_next" => repeat' (first | ((fail_if_success (with_reducible show wpAny _ _ (call (Value.ref _) []) _ _ _)); first | (k_unfold; (try dsimp only)) | walk1) | (dsimp only; ((fail_if_success (with_reducible show wpAny _ _ (call (Value.ref _) []) _ _ _)); walk1)) | fail "no step")
  exact trivial
theorem at_Word : True := by
  w_top off
  exact trivial
theorem strsAre_snoc {vs : List Value} {ss : List Str} (h : StrsAre vs ss) (x : Str) (t : Tok) : StrsAre (vs ++ [.str x t]) (ss ++ [x]) := by
  induction h with
  | nil => exact .cons _ _ .nil
  | cons y u _ ih => exact .cons _ _ ih
section
open LCg
variable {prog : Program} {w : World} {A : Around} {s : Shared} {h₀ : Heap} {L : Addr} {m : Str → Option Value} {env : Env}
theorem str_rest {elt : PySem.Expr} {x : Str} {scope : Scope} {cl : List (Str × Addr)} {S : List (Addr × Obj) → Prop} {P : Nat → Value → Prop} {Fin : List Value → List (Addr × Obj) → Prop} {news : List (Addr × Obj)} {n : Nat} (f : Nat → Str)
    (turn : ∀ i v I oI C oC D m₂ ys h tk (E' : Value → Shared → Prop), i < n → P i v → NsObj oC m₂ → m₂ x = some v → Fr h₀ L h m → News h₀ L h ((I, oI) :: (C, oC) :: (D, lst ys) :: news) → Off3 I C D news → ((@Ne Nat I C) ∧ (@Ne Nat I D) ∧ (@Ne Nat C D)) →
      wpAny (model prog w) A (eval elt (compEnvC scope cl C env)) (CompEnd h₀ L m { s with heap := h, toks := tk } I oI C oC D (lst ys) S (fun y news' => news' = news ∧ ∃ t, y = .str (f i) t)) E' { s with heap := h, toks := tk })
    (fin : ∀ ys, StrsAre ys ((List.range n).map f) → Fin ys news) : CompRest prog w A h₀ L m env elt x scope cl s S P Fin n 0 [] news := by
  have key : ∀ (j i : Nat) (ys : List Value), i + j = n → StrsAre ys ((List.range i).map f) → CompRest prog w A h₀ L m env elt x scope cl s S P Fin j i ys news := by
    intro j
    induction j with
    | zero =>
      intro i ys hi hy
      have : i = n := by omega
      subst this
      exact CompRest.zero (fin ys hy)
    | succ j ih =>
      intro i ys hi hy
      refine CompRest.succ ?_
      intro v I oI C oC D m₂ h tk E' hv hC hx F N off ne
      refine wpAny_mono (turn i v I oI C oC D m₂ ys h tk E' (by omega) hv hC hx F N off ne) (fun y s₃ hr => ?_) fun _ _ e => e
      obtain ⟨h', tk', nw, e1, F', N', off', hS, hn, t, hy'⟩ := hr
      subst hn hy'
      refine ⟨h', tk', _, e1, F', N', off', hS, ih (i + 1) _ (by omega) ?_⟩
      rw [List.range_succ, List.map_append]
      exact strsAre_snoc hy _ _
  exact key n 0 [] (by omega) .nil
end
noncomputable def letF (ns : List Int) (i : Nat) : Str := if (ns.any fun x => x == (0 + (i : Int))) = true then Txt.item "ABCD" (0 + (i : Int)) else Txt.item "abcd" (0 + (i : Int))
noncomputable def wordF (ns : List Int) : Str := Txt.join "" ((List.range 4).map (letF ns))
theorem letF_len (ns : List Int) (i : Nat) (h : i < 4) : (letF ns i).length = 1 := by
  unfold letF
  match i, h with
  | 0, _ => split <;> rfl
  | 1, _ => split <;> rfl
  | 2, _ => split <;> rfl
  | 3, _ => split <;> rfl
theorem lines_Word_779 : True := by
  k_with "c_doneTT" => ((rename (∀ _ _ _ _, Left _ _ _ _ → _) => hret9ₖ); (rename (∀ _ _, _ → ¬ _ ∈ List.map _ _ → _) => hg9ₖ); k_dflt (refine' hret9ₖ _ _ _ _ (left_of ?F9ₖ₆₂ (news_tl (news_tl ?N9ₖ₆₂)) hg9ₖ) ?_; (case F9ₖ₆₂ => assumption); (case N9ₖ₆₂ => assumption)))
  exact trivial
theorem word_con (w : World) (mean) (mg mb) (e : Addr) (es : List Value) (ns : List Int) (ke : Nat) (hi : IntsAre es ns) (hl : ns.length ≤ 4) :
    Con w mean mg mb 420 1700 179 [.ref e] [(e, W.listOf (List.toArray es) ke)]
      (fun r news' => news' = [(e, W.listOf (List.toArray es) ke)] ∧ ∃ t, r = .str (wordF ns) t) := by
  walk_at "c_startC"
  w_strict (repeat' (first | ((fail_if_success (with_reducible show wpAny _ _ (eval (Expr.ListComp _ _ _ _) _) _ _ _)); first | (k_unfold; (try dsimp only)) | walk1) | (dsimp only; (fail_if_success (with_reducible show wpAny _ _ (eval (Expr.ListComp _ _ _ _) _) _ _ _)); walk1) | fail "no step"))
  rename Fr _ _ _ _ => F0
  rename News _ _ _ _ => N0
  refine LCg.ListComp_U F0 (by with_unfolding_all rfl) (by decide) (by rfl) (by decide) (by rfl) ?_
  repeat' (first | ((fail_if_success (with_reducible show LCg.CompSrc _ _ _ _ _ _ _ _ _ _ _ _ _ _)); first | (k_unfold; (try dsimp only)) | walk1) | fail "no step")
  refine LCg.CompSrc.range rfl (by assumption) (by assumption) (by assumption) (by decide) (by rfl) (by exact Nat.le_of_ble_eq_true rfl) ?_
  intro g9
  refine str_rest (letF ns) ?_ ?_
  · intro i v I' oI' C' oC' D' m' ys' h' tk' E' hi9 hv hC' hx' F' N' off' ne'
    obtain ⟨t9, hv⟩ := hv
    subst hv
    have off0 := off'
    simp only [LCg.Off3, and_true] at off'
    walk_at "k_comp"
    · exact LCg.CompEnd.intro (by assumption) (by assumption) _ (fun p hp => hp) off0 trivial ⟨rfl, _, by rw [letF, if_pos (by assumption)]⟩
    · exact LCg.CompEnd.intro (by assumption) (by assumption) _ (fun p hp => hp) off0 trivial ⟨rfl, _, by rw [letF, if_neg (ne_true_of_eq_false (by assumption))]⟩
  · intro ys hys
    unfold LCg.FinE
    intro D9 h9 tk9 F9 N9 off9
    repeat' (first | ((fail_if_success (with_reducible show wpAny _ _ (call (Value.builtin "str.join") _) _ _ _)); first | (k_unfold; (try dsimp only)) | walk1) | (dsimp only; (fail_if_success (with_reducible show wpAny _ _ (call (Value.builtin "str.join") _) _ _ _)); walk1) | fail "no step")
    (try dsimp only [List.cons_append, List.nil_append])
    refine PyProof.Rows.join_listW (ys := (List.range 4).map (letF ns)) (PySem.IsL.isList (n := ys.length) (N9 _ (List.Mem.head _)).1) hys (by decide) (by
      have h0 := letF_len ns 0 (by decide)
      have h1 := letF_len ns 1 (by decide)
      have h2 := letF_len ns 2 (by decide)
      have h3 := letF_len ns 3 (by decide)
      show (letF ns 0).length + ((letF ns 1).length + ((letF ns 2).length + ((letF ns 3).length + 0))) + 4 ≤ _
      omega) ?_
    intro t8 k8
    walk_at "k_run"
    walk_at "c_doneTT"
    exact ⟨rfl, t8, rfl⟩
theorem at_AddNew : True := by
  w_top off
  k_with "setItem ref int" => ((with_reducible show wpAny _ _ (setItem (Value.ref _) (Value.int _ _) (Value.ref _)) _ _ _); k_dflt (refine' kda_set (knd := PySem.intKind _ _) ?Fₖ₆₃ ?Nₖ₆₃ ?Uₖ₆₃ ?dₖ₆₃ (intKind_is _ _ _ _) ?zₖ₆₃ ?_; (case Fₖ₆₃ => k_asm); (case Nₖ₆₃ => k_asm); (case Uₖ₆₃ => k_updF); (case dₖ₆₃ => k_asm); (case zₖ₆₃ => (rw [sizeLine_eq]; omega))); intro h'ₖ o'ₖ F'ₖ N'ₖ hd'ₖ; (try dsimp only at N'ₖ))
  exact trivial
theorem ND.push2 {d x : Nat} {news : List (Addr × Obj)} (l2 : @LT.lt Nat _ d x) (l1 : ∀ p ∈ news, @LT.lt Nat _ p.1 d) (h : ND (d :: news.map (·.1))) : ND (x :: d :: news.map (·.1)) := ⟨List.nodup_cons.mpr ⟨fun q => by
  rcases List.mem_cons.mp q with q | q
  · exact absurd q (Nat.ne_of_gt l2)
  · obtain ⟨p, hp, e⟩ := List.mem_map.mp q
    have h1 : @LT.lt Nat _ p.1 d := l1 p hp
    have e' : @Eq Nat p.1 x := e
    omega, h.nd⟩⟩
theorem new_order {a b c x d l T : Addr × Obj} {r : List (Addr × Obj)} : ∀ p ∈ a :: b :: c :: ([x, d, l] ++ r), p ∈ l :: x :: d :: T :: a :: b :: c :: r := fun p hp => by
  simp only [List.mem_cons, List.cons_append, List.nil_append] at hp ⊢
  rcases hp with q | q | q | q | q | q | q
  · exact .inr (.inr (.inr (.inr (.inl q))))
  · exact .inr (.inr (.inr (.inr (.inr (.inl q)))))
  · exact .inr (.inr (.inr (.inr (.inr (.inr (.inl q))))))
  · exact .inr (.inl q)
  · exact .inr (.inr (.inl q))
  · exact .inl q
  · exact .inr (.inr (.inr (.inr (.inr (.inr (.inr q))))))
theorem new_nd {a b c x d l T : Nat} {as : List Nat} (h : ND (l :: x :: d :: T :: a :: b :: c :: as)) : ND (a :: b :: c :: x :: d :: l :: as) := by
  have h1 : (l :: x :: d :: a :: b :: c :: as).Nodup := h.nd.sublist (.cons_cons _ (.cons_cons _ (.cons_cons _ (.cons _ (List.Sublist.refl _)))))
  have e : (l :: x :: d :: a :: b :: c :: as).Perm (a :: b :: c :: x :: d :: l :: as) := by
    have e1 : ([l, x, d] ++ [a, b, c]).Perm ([a, b, c] ++ [x, d, l]) := List.perm_append_comm.trans (List.Perm.append_left _ (List.perm_append_comm (l₁ := [l]) (l₂ := [x, d])))
    exact e1.append_right as
  exact ⟨e.nodup_iff.mp h1⟩
noncomputable abbrev ownE (w : World) (D : Addr) (h1 h2 h3 h4 tpo tfi : Tok) : Obj := dictOf [⟨PyData.keyHash w.params "_node2info", .str "_node2info" h1, .ref D⟩, ⟨PyData.keyHash w.params "_ready_nodes", .str "_ready_nodes" h2, .none⟩, ⟨PyData.keyHash w.params "_npassedout", .str "_npassedout" h3, .int 0 tpo⟩, ⟨PyData.keyHash w.params "_nfinished", .str "_nfinished" h4, .int 0 tfi⟩] 4
namespace S_addnew_con
noncomputable def stm (w : World) (mean : ExcName → Option Value) (mg mb : Str → Option Value) (P dP D : Nat) (oD : Obj) (h1 h2 h3 h4 tpo tfi : Tok) (t : Int) (tt : Tok) (kvs : List (Int × Value)) (fl : List (Addr × Obj)) (gdₛ : Option (List Code)) (cnₛ : Str) (csₛ : Scope) (Lₛ aₛ : Addr) (ccdₛ : Value) (clₛ : List (Str × Addr)) (outerₛ : List Env) (A₀ₛ : Around) (baseₛ h₀ₛ : Heap) (mₛ : Str → Option Value) (sₛ : Shared) (RRₛ : Result → Shared → Prop) : Prop := ∀ (hD : Obj.IsDictOf (intKind Challenge.rw_om0134_01.row.prog w) oD kvs) (lo : ((D : Addr) == sysModules) = false) (hx : PySem.valueAt kvs t = none) (hk : kvs.length ≤ 4) (hfl : ND (P :: dP :: D :: fl.map (·.1))), ConB w mean mg mb 420 1700 101 [.ref P, .int t tt] (((P : Addr), instObj 151 dP) :: ((dP : Addr), ownE w D h1 h2 h3 h4 tpo tfi) :: ((D : Addr), oD) :: fl)
     (fun r news' => ∃ x d l : Nat, ∃ tn oD', news' = ((P : Addr), instObj 151 dP) :: ((dP : Addr), ownE w D h1 h2 h3 h4 tpo tfi) :: ((D : Addr), oD') :: (niL x d l (.int t tt) (.int 0 tn) [] 0 ++ fl) ∧ r = .none ∧ Obj.IsDictOf (intKind Challenge.rw_om0134_01.row.prog w) oD' (PySem.stored kvs t (.ref x)) ∧ ND (P :: dP :: D :: x :: d :: l :: fl.map (·.1))) gdₛ cnₛ csₛ Lₛ aₛ ccdₛ clₛ outerₛ A₀ₛ baseₛ h₀ₛ mₛ sₛ RRₛ
noncomputable abbrev Dat := World × (ExcName → Option Value) × (Str → Option Value) × (Str → Option Value) × Nat × Nat × Nat × Obj × Tok × Tok × Tok × Tok × Tok × Tok × Int × Tok × (List (Int × Value)) × (List (Addr × Obj)) × Option (List Code) × Str × Scope × Addr × Addr × Value × (List (Str × Addr)) × List Env × Around × Heap × Heap × (Str → Option Value) × Shared × (Result → Shared → Prop)
noncomputable def ok (p : Dat) : Prop := let q1 := p.2.2.2.2.2.2.2.2; let q2 := q1.2.2.2.2.2.2.2.2; let q3 := q2.2.2.2.2.2.2.2.2; stm p.1 p.2.1 p.2.2.1 p.2.2.2.1 p.2.2.2.2.1 p.2.2.2.2.2.1 p.2.2.2.2.2.2.1 p.2.2.2.2.2.2.2.1 q1.1 q1.2.1 q1.2.2.1 q1.2.2.2.1 q1.2.2.2.2.1 q1.2.2.2.2.2.1 q1.2.2.2.2.2.2.1 q1.2.2.2.2.2.2.2.1 q2.1 q2.2.1 q2.2.2.1 q2.2.2.2.1 q2.2.2.2.2.1 q2.2.2.2.2.2.1 q2.2.2.2.2.2.2.1 q2.2.2.2.2.2.2.2.1 q3.1 q3.2.1 q3.2.2.1 q3.2.2.2.1 q3.2.2.2.2.1 q3.2.2.2.2.2.1 q3.2.2.2.2.2.2.1 q3.2.2.2.2.2.2.2
@[irreducible] noncomputable def cc : Dat := @Classical.epsilon Dat ⟨(world0, fun _ => none, fun _ => none, fun _ => none, 0, 0, 0, default, (0 : Nat), (0 : Nat), (0 : Nat), (0 : Nat), (0 : Nat), (0 : Nat), 0, (0 : Nat), [], [], none, default, default, (0 : Nat), (0 : Nat), .none, [], [], {}, {}, {}, fun _ => none, {}, fun _ _ => True)⟩ fun p => ¬ ok p
noncomputable def c1 := cc.2.2.2.2.2.2.2.2
noncomputable def c2 := c1.2.2.2.2.2.2.2.2
noncomputable def c3 := c2.2.2.2.2.2.2.2.2
@[irreducible] noncomputable def w : World := cc.1
@[irreducible] noncomputable def mean : ExcName → Option Value := cc.2.1
@[irreducible] noncomputable def mg : Str → Option Value := cc.2.2.1
@[irreducible] noncomputable def mb : Str → Option Value := cc.2.2.2.1
@[irreducible] noncomputable def P : Nat := cc.2.2.2.2.1
@[irreducible] noncomputable def dP : Nat := cc.2.2.2.2.2.1
@[irreducible] noncomputable def D : Nat := cc.2.2.2.2.2.2.1
@[irreducible] noncomputable def oD : Obj := cc.2.2.2.2.2.2.2.1
@[irreducible] noncomputable def h1 : Tok := c1.1
@[irreducible] noncomputable def h2 : Tok := c1.2.1
@[irreducible] noncomputable def h3 : Tok := c1.2.2.1
@[irreducible] noncomputable def h4 : Tok := c1.2.2.2.1
@[irreducible] noncomputable def tpo : Tok := c1.2.2.2.2.1
@[irreducible] noncomputable def tfi : Tok := c1.2.2.2.2.2.1
@[irreducible] noncomputable def t : Int := c1.2.2.2.2.2.2.1
@[irreducible] noncomputable def tt : Tok := c1.2.2.2.2.2.2.2.1
@[irreducible] noncomputable def kvs : List (Int × Value) := c2.1
@[irreducible] noncomputable def fl : List (Addr × Obj) := c2.2.1
@[irreducible] noncomputable def gdₛ : Option (List Code) := c2.2.2.1
@[irreducible] noncomputable def cnₛ : Str := c2.2.2.2.1
@[irreducible] noncomputable def csₛ : Scope := c2.2.2.2.2.1
@[irreducible] noncomputable def Lₛ : Addr := c2.2.2.2.2.2.1
@[irreducible] noncomputable def aₛ : Addr := c2.2.2.2.2.2.2.1
@[irreducible] noncomputable def ccdₛ : Value := c2.2.2.2.2.2.2.2.1
@[irreducible] noncomputable def clₛ : List (Str × Addr) := c3.1
@[irreducible] noncomputable def outerₛ : List Env := c3.2.1
@[irreducible] noncomputable def A₀ₛ : Around := c3.2.2.1
@[irreducible] noncomputable def baseₛ : Heap := c3.2.2.2.1
@[irreducible] noncomputable def h₀ₛ : Heap := c3.2.2.2.2.1
@[irreducible] noncomputable def mₛ : Str → Option Value := c3.2.2.2.2.2.1
@[irreducible] noncomputable def sₛ : Shared := c3.2.2.2.2.2.2.1
@[irreducible] noncomputable def RRₛ : Result → Shared → Prop := c3.2.2.2.2.2.2.2
theorem core : stm w mean mg mb P dP D oD h1 h2 h3 h4 tpo tfi t tt kvs fl gdₛ cnₛ csₛ Lₛ aₛ ccdₛ clₛ outerₛ A₀ₛ baseₛ h₀ₛ mₛ sₛ RRₛ := by
  intro hD lo hx hk hfl
  walk_at "c_startR"
  w_strict (walk_at "k_run")
  rename (@LT.lt Nat _ _ _) => l2
  have hX := ND.push2 l2 (by assumption) (by assumption)
  walk_at "k_run"
  rename Fr _ _ _ _ => F5
  rename News _ _ _ _ => N5
  rename ND (_ :: List.map _ _) => hL
  revert F5 N5
  (repeat (rename Fr _ _ _ _ => Fz; clear Fz))
  (repeat (rename News _ _ _ _ => Nz; clear Nz))
  intro F5 N5
  refine name4 N5 ?_
  intro l x d T e1 e2 e3 e4
  subst e1 e2 e3 e4
  refine for_tupS (fun r ps n => r = [] ∧ n = _) [] rfl F5 N5 (List.Mem.tail _ (List.Mem.tail _ (List.Mem.tail _ (List.Mem.head _)))) rfl rfl trivial ⟨rfl, rfl⟩ (by rintro r ps n ⟨_, rfl⟩; exact (List.Mem.tail _ (List.Mem.tail _ (List.Mem.tail _ (List.Mem.head _))))) ?_ ?_ (by passes_own) ?_
  · rintro I v r ps₁ u news₁ it h tk Pp hI hit ⟨q, _⟩
    cases q
  rotate_left
  · walk_at "k_run"
    assumption
  rintro ps₁ u news₁ h tk ⟨_, rfl⟩ F6 N6
  clear F5 N5
  (try dsimp only [kstB] at F6)
  walk_at "k_run"
  (rename (∀ _ _ _ _, Left _ _ _ _ → _) => hret9)
  (rename (∀ _ _, _ → ¬ _ ∈ List.map _ _ → _) => hg9)
  k_dflt (refine' hret9 _ _ _ _ (left_of ?F9 (news_sub ?N9 new_order) hg9) ?_; (case F9 => assumption); (case N9 => assumption))
  exact ⟨x, d, l, _, _, rfl, rfl, by assumption, new_nd hL⟩
theorem all (p : Dat) : ok p := drink _ ok (by with_unfolding_all exact core) p
end S_addnew_con
theorem addnew_con (w : World) (mean) (mg mb) (P dP D : Nat) (oD : Obj) (h1 h2 h3 h4 : Tok) (tpo tfi : Tok) (t : Int) (tt : Tok) (kvs : List (Int × Value)) (hD : Obj.IsDictOf (intKind Challenge.rw_om0134_01.row.prog w) oD kvs) (lo : ((D : Addr) == sysModules) = false)
    (hx : PySem.valueAt kvs t = none) (hk : kvs.length ≤ 4) (fl : List (Addr × Obj)) (hfl : ND (P :: dP :: D :: fl.map (·.1))) : Con w mean mg mb 420 1700 101 [.ref P, .int t tt] (((P : Addr), instObj 151 dP) :: ((dP : Addr), ownE w D h1 h2 h3 h4 tpo tfi) :: ((D : Addr), oD) :: fl)
     (fun r news' => ∃ x d l : Nat, ∃ tn oD', news' = ((P : Addr), instObj 151 dP) :: ((dP : Addr), ownE w D h1 h2 h3 h4 tpo tfi) :: ((D : Addr), oD') :: (niL x d l (.int t tt) (.int 0 tn) [] 0 ++ fl) ∧ r = .none ∧ Obj.IsDictOf (intKind Challenge.rw_om0134_01.row.prog w) oD' (PySem.stored kvs t (.ref x)) ∧ ND (P :: dP :: D :: x :: d :: l :: fl.map (·.1))) :=
  fun gdₛ cnₛ csₛ Lₛ aₛ ccdₛ clₛ outerₛ A₀ₛ baseₛ h₀ₛ mₛ sₛ RRₛ => S_addnew_con.all (w, mean, mg, mb, P, dP, D, oD, h1, h2, h3, h4, tpo, tfi, t, tt, kvs, fl, gdₛ, cnₛ, csₛ, Lₛ, aₛ, ccdₛ, clₛ, outerₛ, A₀ₛ, baseₛ, h₀ₛ, mₛ, sₛ, RRₛ) hD lo hx hk hfl
theorem at_Either : True := by
  w_top off
  k_with "subscriptTail" => ((with_reducible show wpAny _ _ (subscriptTail _ _ (Value.ref _) (Value.int _ _)) _ _ _); k_dflt (refine' item_out ?hₖ₂₂ ?Nₖ₂₂ ?mₖ₂₂ ?iₖ₂₂ ?oₖ₂₂ ?zₖ₂₂ ?_ ?sₖ₂₂; (case hₖ₂₂ => exact rfl); (case Nₖ₂₂ => k_asm); (case mₖ₂₂ => k_mem); (case iₖ₂₂ => with_reducible assumption); (case oₖ₂₂ => omega); (case zₖ₂₂ => omega); (case sₖ₂₂ => with_unfolding_all rfl)); intro h'ₖ tk'ₖ e'ₖ hx'ₖ; (try (with_reducible refine pass_on (by passes_own) ?_)); (try dsimp only))
  k_with "noteFrame ref" => ((with_reducible show wpAny _ _ (noteFrame _ _) (fun _ s₂ => wpAny _ _ (setFlight _ none) (fun _ s₃ => wpAny _ _ (handleBy _ _ (ExceptHandler.ExceptHandler (some (Expr.Name ("IndexError" : Str) _)) none _ _ :: _)) _ _ s₃) _ s₂) _ _); (with_reducible rename Heap.NewExc _ _ _ _ => hx9ₖ); (with_reducible rename BaseOk _ _ _ _ _ => hB9ₖ); (with_reducible rename Gr _ _ _ _ _ _ _ _ _ => G9ₖ); (with_reducible rename Fr _ _ _ _ => F9ₖ); (with_reducible rename News _ _ _ _ => N9ₖ); (with_reducible rename KtsDicts _ _ => D9ₖ); (with_reducible rename Below _ _ _ _ => B9ₖ); (with_reducible rename Frag.In _ _ => X9ₖ); (with_reducible rename Top _ _ _ _ _ _ => T9ₖ); k_dflt (refine' caught_here (X := "IndexError") (T' := "IndexError") B9ₖ (toC hx9ₖ) F9ₖ N9ₖ hB9ₖ.inn hB9ₖ.top D9ₖ ?exₖ₂₃ PyProof.Rows.Boot.«IndexError» ?hnₖ₂₃ PySem.F.isExc_IndexError PySem.F.notTuple_IndexError ?hsₖ₂₃ ?_; (case hsₖ₂₃ => kts_sub); (case exₖ₂₃ => k_is); (case hnₖ₂₃ => decide); k_whole); intro h'ₖ g'ₖ T'ₖ F'ₖ N'ₖ B'ₖ X'ₖ P'ₖ D'ₖ; have G'ₖ := G9ₖ.trans (Gr.mk T'ₖ B'ₖ X'ₖ P'ₖ D'ₖ); clear G9ₖ B9ₖ X9ₖ T9ₖ D9ₖ F9ₖ N9ₖ hx9ₖ T'ₖ)
  exact trivial
theorem either_con (w : World) (mean) (mg mb) (e a : Addr) (es as : List Value) (ne na : List Int) (ke ka : Nat) (he : IntsAre es ne) (ha : IntsAre as na) (re : Ris ne) (ra : Ris na) (EA : e ≠ a) (hlu : (sldF ne na).2.length ≤ 20) :
    ConS w mean mg mb 430 1800 193 [.ref e, .ref a] [(e, W.listOf (List.toArray es) ke), (a, W.listOf (List.toArray as) ka)]
      (fun r news' => ∃ M : Addr, ∃ ms ns km, r = .ref M ∧ news' = [(M, W.listOf (List.toArray ms) km), (e, W.listOf (List.toArray es) ke), (a, W.listOf (List.toArray as) ka)] ∧ @LT.lt Nat _ e M ∧ @LT.lt Nat _ a M ∧ IntsAre ms ns ∧ ns.Perm (ne ++ (sldF ne na).2) ∧ ns.Pairwise (fun x y => x ≤ y)) := by
  have hsh := re.short
  walk_at "c_startS"
  w_strict (walk_at "k_call2")
  rename Fr _ _ _ _ => F3
  rename News _ _ _ _ => N3
  rename BaseOk _ _ _ _ _ => hB9
  rename Below _ _ _ _ => B3
  rename Frag.In _ _ => X3
  rename KtsDicts _ _ => D3
  rename Top _ _ _ _ _ _ => T3
  refine use_sld (rest := []) B3 F3 X3 N3 T3 hB9 D3 rfl (by first | assumption | rfl) rfl (Nat.le_of_ble_eq_true rfl) (Nat.le_of_ble_eq_true rfl) (by k_mem) (by k_mem) he ha re ra (fun _ q => nomatch q) (fun _ q => nomatch q) ?_
  intro t M U ms us km ku h' tk' g' G' F' N' hord _ im iu
  clear F3 N3 B3 X3 D3 T3
  have B3 := G'.below
  have X3 := G'.inn
  have T3 := G'.top
  have D3 := G'.dicts
  have hul := iu.length
  have hel := he.length
  walk_at "k_run"
  (try k_unfold)
  (try dsimp only)
  rename Fr _ _ _ _ => F6
  rename News _ _ _ _ => N6
  refine name1 N6 ?_
  intro Z eZ
  subst eZ
  replace N6 := news_sub N6 (news := [(Z, _), (e, W.listOf (List.toArray es) ke), (a, W.listOf (List.toArray as) ka)]) (fun p hp => by
    rcases List.mem_cons.mp hp with rfl | hp
    · exact List.Mem.head _
    · rcases List.mem_cons.mp hp with rfl | hp
      · k_mem
      · rw [List.mem_singleton.mp hp]; k_mem)
  rename Gr _ _ _ _ _ _ _ _ _ => G9
  walk_at "c_doneS"
  exact ⟨Z, _, _, _, rfl, rfl, by omega, by omega, by assumption, by assumption, by assumption⟩
theorem at_FcBase : True := by
  w_top off
  exact trivial
noncomputable abbrev fcL (nd so T S : Nat) (od2 os : Obj) (fr : List Fm) (kT kS : Nat) (bs : List (Addr × Obj)) : List (Addr × Obj) := ((nd : Addr), od2) :: ((so : Addr), os) :: ((T : Addr), W.listOf (List.toArray (tvF fr)) kT) :: ((S : Addr), W.listOf (List.toArray (svF fr)) kS) :: bs
noncomputable def restC (w : World) (A : SA) (V : SV) (n : Int → Int) (i : Int) : List (Addr × Obj) := (A.R, W.listOf (List.toArray V.rd) V.kr) :: (A.P, instObj 151 A.dP) :: (A.dP, ownD w A V (.ref A.R)) :: othL A V n i
noncomputable abbrev pickC (w : World) (A : SA) (V : SV) (n : Int → Int) (i : Int) (tl : List (Addr × Obj)) : List (Addr × Obj) := ((A.D : Nat), A.oD) :: ((A.x i : Nat), ({ cls := .ref 54, dict := some (A.d i), data := .plain, slots := #[some (.int i (A.v i)), some (.int (n i) (V.t i)), some (.ref (A.l i))] } : Obj)) :: ((A.d i : Nat), dictOf [] 0) :: ((A.l i : Nat), W.listOf (List.toArray (V.s i)) (V.k i)) :: (restC w A V n i ++ tl)
theorem sorC_perm {w : World} {A : SA} {V : SV} {n : Int → Int} {i : Int} (hi : 0 ≤ i ∧ i ≤ 3) (tl : List (Addr × Obj)) : (sorN w A V n ++ tl).Perm (pickC w A V n i tl) := by
  have h1 : (sorN w A V n).Perm ((A.R, W.listOf (List.toArray V.rd) V.kr) :: (A.P, instObj 151 A.dP) :: (A.dP, ownD w A V (.ref A.R)) :: (A.D, A.oD) :: pickL A V n i) := ((((nodes_perm hi).cons _).cons _).cons _).cons _
  refine (h1.append_right tl).trans ?_
  have h2 : ([(A.R, W.listOf (List.toArray V.rd) V.kr), (A.P, instObj 151 A.dP), (A.dP, ownD w A V (.ref A.R))] ++ [(A.D, A.oD), ((A.x i : Nat), ({ cls := .ref 54, dict := some (A.d i), data := .plain, slots := #[some (.int i (A.v i)), some (.int (n i) (V.t i)), some (.ref (A.l i))] } : Obj)), ((A.d i : Nat), dictOf [] 0), ((A.l i : Nat), W.listOf (List.toArray (V.s i)) (V.k i))]).Perm
    ([(A.D, A.oD), ((A.x i : Nat), ({ cls := .ref 54, dict := some (A.d i), data := .plain, slots := #[some (.int i (A.v i)), some (.int (n i) (V.t i)), some (.ref (A.l i))] } : Obj)), ((A.d i : Nat), dictOf [] 0), ((A.l i : Nat), W.listOf (List.toArray (V.s i)) (V.k i))] ++ [(A.R, W.listOf (List.toArray V.rd) V.kr), (A.P, instObj 151 A.dP), (A.dP, ownD w A V (.ref A.R))]) := List.perm_append_comm
  exact h2.append_right (othL A V n i ++ tl)
theorem pickC_nd {w : World} {A : SA} {V : SV} {n : Int → Int} {i : Int} {pre : List Nat} {tl : List (Addr × Obj)} (h : ND (pre ++ ((A.R :: adrN A) ++ tl.map (·.1)))) (hi : 0 ≤ i ∧ i ≤ 3) : ND (pre ++ (pickC w A V n i tl).map (·.1)) := by
  have e := ((sorC_perm (w := w) (A := A) (V := V) (n := n) hi tl).map (·.1)).append_left pre
  rw [List.map_append, sorN_adr] at e
  exact ⟨e.nodup_iff.mp h.nd⟩
theorem unpickC_nd {w : World} {A : SA} {V : SV} {n : Int → Int} {i : Int} {pre : List Nat} {tl : List (Addr × Obj)} (h : ND (pre ++ (pickC w A V n i tl).map (·.1))) (hi : 0 ≤ i ∧ i ≤ 3) : ND (pre ++ ((A.R :: adrN A) ++ tl.map (·.1))) := by
  have e := ((sorC_perm (w := w) (A := A) (V := V) (n := n) hi tl).map (·.1)).append_left pre
  rw [List.map_append, sorN_adr] at e
  exact ⟨e.nodup_iff.mpr h.nd⟩
theorem cyc_back {w : World} {A : SA} {V : SV} {n : Int → Int} {i : Int} (hi : 0 ≤ i ∧ i ≤ 3) {b c a1 a2 a3 a4 a5 : Addr × Obj} {tl : List (Addr × Obj)} : ∀ p ∈ a1 :: a2 :: a3 :: a4 :: a5 :: (sorN w A V n ++ (b :: c :: tl)), p ∈ b :: c :: a1 :: a2 :: a3 :: a4 :: a5 :: pickC w A V n i tl := fun p hp => by
  have h : p ∈ b :: c :: a1 :: a2 :: a3 :: a4 :: a5 :: (sorN w A V n ++ tl) := by
    simp only [List.mem_cons, List.mem_append] at hp ⊢
    rcases hp with q | q | q | q | q | q | q | q | q
    · exact .inr (.inr (.inl q))
    · exact .inr (.inr (.inr (.inl q)))
    · exact .inr (.inr (.inr (.inr (.inl q))))
    · exact .inr (.inr (.inr (.inr (.inr (.inl q)))))
    · exact .inr (.inr (.inr (.inr (.inr (.inr (.inl q))))))
    · exact .inr (.inr (.inr (.inr (.inr (.inr (.inr (.inl q)))))))
    · exact .inl q
    · exact .inr (.inl q)
    · exact .inr (.inr (.inr (.inr (.inr (.inr (.inr (.inr q)))))))
  exact cons_mem (cons_mem (cons_mem (cons_mem (cons_mem (cons_mem (cons_mem fun p hp => (sorC_perm hi _).mem_iff.mp hp)))))) p h
theorem cyc_fwd {w : World} {A : SA} {V : SV} {n : Int → Int} {i : Int} (hi : 0 ≤ i ∧ i ≤ 3) {b c a1 a2 a3 a4 a5 : Addr × Obj} {tl : List (Addr × Obj)} : ∀ p ∈ b :: c :: a1 :: a2 :: a3 :: a4 :: a5 :: pickC w A V n i tl, p ∈ a1 :: a2 :: a3 :: a4 :: a5 :: (sorN w A V n ++ (b :: c :: tl)) := fun p hp => by
  have h : p ∈ b :: c :: a1 :: a2 :: a3 :: a4 :: a5 :: (sorN w A V n ++ tl) := cons_mem (cons_mem (cons_mem (cons_mem (cons_mem (cons_mem (cons_mem fun p hp => (sorC_perm hi _).mem_iff.mpr hp)))))) p hp
  simp only [List.mem_cons, List.mem_append] at h ⊢
  rcases h with q | q | q | q | q | q | q | q | q
  · exact .inr (.inr (.inr (.inr (.inr (.inr (.inl q))))))
  · exact .inr (.inr (.inr (.inr (.inr (.inr (.inr (.inl q)))))))
  · exact .inl q
  · exact .inr (.inl q)
  · exact .inr (.inr (.inl q))
  · exact .inr (.inr (.inr (.inl q)))
  · exact .inr (.inr (.inr (.inr (.inl q))))
  · exact .inr (.inr (.inr (.inr (.inr (.inl q)))))
  · exact .inr (.inr (.inr (.inr (.inr (.inr (.inr (.inr q)))))))
theorem cyc_five {w : World} {A : SA} {V : SV} {n : Int → Int} {i : Int} (hi : 0 ≤ i ∧ i ≤ 3) {a1 a2 a3 a4 a5 : Addr × Obj} {tl : List (Addr × Obj)} : ∀ p ∈ a1 :: a2 :: a3 :: a4 :: a5 :: (sorN w A V n ++ tl), p ∈ a1 :: a2 :: a3 :: a4 :: a5 :: pickC w A V n i tl :=
  cons_mem (cons_mem (cons_mem (cons_mem (cons_mem fun p hp => (sorC_perm hi _).mem_iff.mp hp))))
theorem ND.off2 {a d : Nat} {rest : List (Addr × Obj)} (h : ND (a :: d :: rest.map (·.1))) : ∀ p ∈ rest, p.1 ≠ d := fun p hp e => (List.nodup_cons.mp (List.nodup_cons.mp h.nd).2).1 (e ▸ List.mem_map_of_mem (f := (·.1)) hp)
theorem ND.tl2 {a d : Nat} {as : List Nat} (h : ND (a :: d :: as)) : ND as := ⟨(List.nodup_cons.mp (List.nodup_cons.mp h.nd).2).2⟩
theorem nd_front {pre mid suf : List Nat} {a b : Nat} (h : ND (pre ++ (mid ++ (a :: b :: suf)))) : ND (a :: b :: (pre ++ (mid ++ suf))) := by
  have e1 : (pre ++ (mid ++ (a :: b :: suf))).Perm (a :: b :: (pre ++ (mid ++ suf))) := by
    show (pre ++ (mid ++ ([a, b] ++ suf))).Perm ([a, b] ++ (pre ++ (mid ++ suf)))
    rw [← List.append_assoc, ← List.append_assoc, ← List.append_assoc pre, ← List.append_assoc [a, b]]
    refine List.Perm.append_right _ ?_
    exact List.perm_append_comm
  exact ⟨e1.nodup_iff.mp h.nd⟩
structure FcS (su : Int → List Int) (A : SA) (pre : List Nat) (fr : List Fm) (Sn : Int → Bool) (cnt : Nat) (dn : List Int) (nx : Option Int) (r : List Int) (c : Nat) : Prop where
  dfs : Dfs su fr Sn dn nx
  cnt : cnt + leftW su Sn ≤ 40
  few : fr.length + leftW su Sn ≤ 40
  lok : ∀ f ∈ fr, f.l = A.l f.x
  nd : ND (pre ++ ((A.R :: adrN A) ++ (ilF fr).map (·.1)))
  cov : ∀ y, 0 ≤ y ∧ y ≤ 3 → y ∈ r ∨ Sn y = true ∨ nx = some y
  nxr : ∀ y, nx = some y → 0 ≤ y ∧ y ≤ 3
  meas : leftW su Sn + openW su fr ≤ c
section
variable {su : Int → List Int} {A : SA} {pre pre' : List Nat} {fr rr : List Fm} {f : Fm} {Sn : Int → Bool} {cnt : Nat} {dn r : List Int} {x : Int} {c c' : Nat}
theorem FcS.skip (h : FcS su A pre fr Sn cnt dn (some x) r c) (hs : Sn x = true) (hx : x ∉ stkF fr) : FcS su A pre fr Sn cnt dn none r c :=
  ⟨h.dfs.skip hs hx, h.cnt, h.few, h.lok, h.nd, fun y hy => by
    rcases h.cov y hy with a | a | a
    · exact .inl a
    · exact .inr (.inl a)
    · injection a with a; subst a; exact .inr (.inl hs), (fun y q => nomatch q), h.meas⟩
theorem FcS.push (h : FcS su A pre fr Sn cnt dn (some x) r c) (hs : ¬ Sn x = true) (e : f.x = x) (ei : f.i = 0) (hl : f.l = A.l x) (ha : ND (f.b :: f.it :: (pre ++ ((A.R :: adrN A) ++ (ilF fr).map (·.1))))) :
    FcS su A pre (f :: fr) (fun k' => Sn k' || decide (k' = x)) (if Sn x then cnt else cnt + 1) dn none r c := by
  have hx := h.nxr x rfl
  have hw := leftW_push (su := su) hs hx
  subst e
  refine ⟨h.dfs.push hs hx rfl ei, ?_, ?_, fun g hg => ?_, ?_, fun y hy => ?_, (fun y q => nomatch q), ?_⟩
  · have := h.cnt
    rw [if_neg hs]
    omega
  · have := h.few
    rw [List.length_cons]; omega
  · rcases List.mem_cons.mp hg with rfl | hg
    · exact hl
    · exact h.lok g hg
  · refine ⟨?_⟩
    have e1 : (f.b :: f.it :: (pre ++ ((A.R :: adrN A) ++ (ilF fr).map (·.1)))).Perm (pre ++ ((A.R :: adrN A) ++ (ilF (f :: fr)).map (·.1))) := by
      show ([f.b, f.it] ++ (pre ++ ((A.R :: adrN A) ++ (ilF fr).map (·.1)))).Perm (pre ++ ((A.R :: adrN A) ++ ([f.b, f.it] ++ (ilF fr).map (·.1))))
      rw [← List.append_assoc, ← List.append_assoc, ← List.append_assoc pre, ← List.append_assoc (pre ++ _)]
      refine List.Perm.append_right _ ?_
      rw [List.append_assoc]
      exact List.perm_append_comm
    exact e1.nodup_iff.mp ha.nd
  · rcases h.cov y hy with a | a | a
    · exact .inl a
    · exact .inr (.inl (by simp [a]))
    · injection a with a; subst a; exact .inr (.inl (by simp))
  · have := h.meas
    rw [openW, ei]; omega
theorem FcS.next {f' : Fm} {y : Int} (h : FcS su A pre (f :: rr) Sn cnt dn none r c) (hy : (su f.x)[f.i]? = some y) (hsu : ∀ s ∈ su f.x, 0 ≤ s ∧ s ≤ 3) (ef : f' = { f with i := f.i + 1 }) :
    FcS su A pre (f' :: rr) Sn cnt dn (some y) r (c - 1) ∧ 0 < c := by
  subst ef
  have hlt : f.i < (su f.x).length := by obtain ⟨q, _⟩ := List.getElem?_eq_some_iff.mp hy; exact q
  have hm := h.meas
  simp only [openW] at hm
  refine ⟨⟨h.dfs.next hy rfl rfl, h.cnt, h.few, fun g hg => ?_, h.nd, fun y hy => ?_, fun z q => ?_, ?_⟩, by omega⟩
  · rcases List.mem_cons.mp hg with rfl | hg
    · exact h.lok f (.head _)
    · exact h.lok g (.tail _ hg)
  · rcases h.cov y hy with a | a | a
    · exact .inl a
    · exact .inr (.inl a)
    · cases a
  · injection q with q; subst q; exact hsu _ (List.mem_of_getElem? hy)
  · simp only [openW]; omega
theorem FcS.pop (h : FcS su A pre (f :: rr) Sn cnt dn none r c) (hy : (su f.x)[f.i]? = none) : FcS su A pre rr Sn cnt (f.x :: dn) none r c := by
  have hm := h.meas
  have hf := h.few
  simp only [openW] at hm
  rw [List.length_cons] at hf
  refine ⟨h.dfs.pop hy, h.cnt, by omega, fun g hg => h.lok g (.tail _ hg), ⟨h.nd.nd.sublist ?_⟩, fun y hy => ?_, (fun y q => nomatch q), by omega⟩
  · refine List.Sublist.append_left (List.Sublist.append_left ?_ _) _
    exact .cons _ (.cons _ (List.Sublist.refl _))
  rcases h.cov y hy with a | a | a
  · exact .inl a
  · exact .inr (.inl a)
  · cases a
theorem FcS.begin (h : FcS su A pre [] Sn cnt dn none (x :: r) c) (hx : 0 ≤ x ∧ x ≤ 3) (hn : ND (pre' ++ ((A.R :: adrN A) ++ []))) : FcS su A pre' [] Sn cnt dn (some x) r c := by
  refine ⟨h.dfs.start x, h.cnt, h.few, (fun _ h => nomatch h), hn, fun y hy => ?_, fun y q => ?_, h.meas⟩
  · rcases h.cov y hy with a | a | a
    · rcases List.mem_cons.mp a with a | a
      · exact .inr (.inr (by rw [a]))
      · exact .inl a
    · exact .inr (.inl a)
    · cases a
  · injection q with q
    exact q ▸ hx
theorem FcS.over (h : FcS su A pre fr Sn cnt dn none (x :: r) c) (hx : Sn x = true) : FcS su A pre fr Sn cnt dn none r c := by
  refine ⟨h.dfs, h.cnt, h.few, h.lok, h.nd, fun y hy => ?_, h.nxr, h.meas⟩
  rcases h.cov y hy with a | a | a
  · rcases List.mem_cons.mp a with a | a
    · subst a; exact .inr (.inl hx)
    · exact .inl a
  · exact .inr (.inl a)
  · exact .inr (.inr a)
theorem FcS.done (h : FcS su A pre [] Sn cnt dn none r c) (hc : c ≤ c') (hn : ND (pre' ++ ((A.R :: adrN A) ++ []))) : FcS su A pre' [] Sn cnt dn none r c' :=
  ⟨h.dfs, h.cnt, h.few, h.lok, hn, h.cov, h.nxr, Nat.le_trans h.meas hc⟩
theorem FcS.le {nx : Option Int} (h : FcS su A pre fr Sn cnt dn nx r c) (hc : c ≤ c') : FcS su A pre fr Sn cnt dn nx r c' :=
  ⟨h.dfs, h.cnt, h.few, h.lok, h.nd, h.cov, h.nxr, Nat.le_trans h.meas hc⟩
end
theorem at_FindCyc : True := by
  w_top off
  exact trivial
section
variable (w : World) (A : SA) (V : SV) (n : Int → Int) (su : Int → List Int) (nd so T S : Nat)
noncomputable abbrev cyP : List (Str × Value) := [(("n2i" : Str), .ref A.D), (("stack" : Str), .ref S), (("itstack" : Str), .ref T), (("seen" : Str), .ref so), (("node2stacki" : Str), .ref nd)]
noncomputable abbrev cyQ (node : Int) (tn : Tok) : List (Str × Value) := [(("n2i" : Str), .ref A.D), (("stack" : Str), .ref S), (("itstack" : Str), .ref T), (("seen" : Str), .ref so), (("node2stacki" : Str), .ref nd), (("node" : Str), .int node tn)]
inductive CyO : List Int → List (Str × Value) → List (Addr × Obj) → Prop
  | mk {r : List Int} {od2 os : Obj} {kT kS : Nat} {Sn : Int → Bool} {cnt : Nat} {dn : List Int} (hset : Obj.SetObjOf (intKind Challenge.rw_om0134_01.row.prog w) os Sn cnt) (hdic : Obj.IsDictOf (intKind Challenge.rw_om0134_01.row.prog w) od2 [])
      (hF : FcS su A [nd, so, T, S] [] Sn cnt dn none r 100) (hk : ∀ y ∈ r, 0 ≤ y ∧ y ≤ 3) : CyO r (cyP A nd so T S) (fcL nd so T S od2 os [] kT kS (sorN w A V n))
inductive CyW (ie : Addr × Obj) (I0 : Nat) (r : List Int) : Nat → List (Str × Value) → List (Addr × Obj) → Prop
  | mk {c : Nat} {fr : List Fm} {Sn : Int → Bool} {cnt : Nat} {dn : List Int} {node : Int} {tn : Tok} {os od2 : Obj} {kS kT : Nat} (hset : Obj.SetObjOf (intKind Challenge.rw_om0134_01.row.prog w) os Sn cnt) (hdic : Obj.IsDictOf (intKind Challenge.rw_om0134_01.row.prog w) od2 (kvF fr))
      (hF : FcS su A [I0, nd, so, T, S] fr Sn cnt dn (some node) r c) (hc : c ≤ 100) : CyW ie I0 r c (cyQ A nd so T S node tn) (ie :: fcL nd so T S od2 os fr kT kS (sorN w A V n ++ ilF fr))
inductive CyE (ie : Addr × Obj) (r : List Int) : List (Str × Value) → List (Addr × Obj) → Prop
  | mk {Sn : Int → Bool} {cnt : Nat} {dn : List Int} {os od2 : Obj} {kS kT : Nat} (hset : Obj.SetObjOf (intKind Challenge.rw_om0134_01.row.prog w) os Sn cnt) (hdic : Obj.IsDictOf (intKind Challenge.rw_om0134_01.row.prog w) od2 [])
      (hF : FcS su A [nd, so, T, S] [] Sn cnt dn none r 100) : CyE ie r (cyP A nd so T S) (ie :: fcL nd so T S od2 os [] kT kS (sorN w A V n))
inductive CyC (ie : Addr × Obj) (I0 : Nat) (r : List Int) (c : Nat) : List (Str × Value) → List (Addr × Obj) → Prop
  | mk {fr : List Fm} {Sn : Int → Bool} {cnt : Nat} {dn : List Int} {os od2 : Obj} {kS kT : Nat} (hset : Obj.SetObjOf (intKind Challenge.rw_om0134_01.row.prog w) os Sn cnt) (hdic : Obj.IsDictOf (intKind Challenge.rw_om0134_01.row.prog w) od2 (kvF fr))
      (hF : FcS su A [I0, nd, so, T, S] fr Sn cnt dn none r c) : CyC ie I0 r c (cyP A nd so T S) (ie :: fcL nd so T S od2 os fr kT kS (sorN w A V n ++ ilF fr))
inductive CyI (ie : Addr × Obj) (I0 : Nat) (r : List Int) (c : Nat) : Nat → List (Str × Value) → List (Addr × Obj) → Prop
  | mk {fr : List Fm} {Sn : Int → Bool} {cnt : Nat} {dn : List Int} {os od2 : Obj} {kS kT : Nat} (hset : Obj.SetObjOf (intKind Challenge.rw_om0134_01.row.prog w) os Sn cnt) (hdic : Obj.IsDictOf (intKind Challenge.rw_om0134_01.row.prog w) od2 (kvF fr))
      (hF : FcS su A [I0, nd, so, T, S] fr Sn cnt dn none r c) : CyI ie I0 r c fr.length (cyP A nd so T S) (ie :: fcL nd so T S od2 os fr kT kS (sorN w A V n ++ ilF fr))
inductive CyJ (ie : Addr × Obj) (I0 : Nat) (r : List Int) (c : Nat) : List (Str × Value) → List (Addr × Obj) → Prop
  | mk {fr : List Fm} {Sn : Int → Bool} {cnt : Nat} {dn : List Int} {node : Int} {tn : Tok} {os od2 : Obj} {kS kT : Nat} (hset : Obj.SetObjOf (intKind Challenge.rw_om0134_01.row.prog w) os Sn cnt) (hdic : Obj.IsDictOf (intKind Challenge.rw_om0134_01.row.prog w) od2 (kvF fr))
      (hF : FcS su A [I0, nd, so, T, S] fr Sn cnt dn (some node) r (c - 1)) (hc : 0 < c) : CyJ ie I0 r c (cyQ A nd so T S node tn) (ie :: fcL nd so T S od2 os fr kT kS (sorN w A V n ++ ilF fr))
end
namespace S_cyc_con
noncomputable def stm (w : World) (mean : ExcName → Option Value) (mg mb : Str → Option Value) (A : SA) (V : SV) (n : Int → Int) (su : Int → List Int) (gdₛ : Option (List Code)) (cnₛ : Str) (csₛ : Scope) (Lₛ aₛ : Addr) (ccdₛ : Value) (clₛ : List (Str × Addr)) (outerₛ : List Env) (A₀ₛ : Around) (baseₛ h₀ₛ : Heap) (mₛ : Str → Option Value) (sₛ : Shared) (RRₛ : Result → Shared → Prop) : Prop := ∀ (hA : A.Ok) (hd9 : A.Dict w) (hs9 : ∀ i, 0 ≤ i ∧ i ≤ 3 → IntsAre (V.s i) (su i)) (hl : leftW su (fun _ => false) ≤ 40) (hsu : ∀ x, ∀ s ∈ su x, 0 ≤ s ∧ s ≤ 3), ConSB w mean mg mb 400 1500 141 [.ref A.P] (sorN w A V n)
      (fun r news' => (r = .none ∧ news' = sorN w A V n ∧ ∃ dn, Topo su dn ∧ ∀ y, 0 ≤ y ∧ y ≤ 3 → y ∈ dn) ∨
        (∃ (Z : Nat) (zs : List Value) (z : Value) (k : Nat), r = .ref Z ∧ news' = ((Z : Addr), W.listOf (List.toArray (zs ++ [z])) k) :: sorN w A V n ∧ ND (Z :: A.R :: adrN A) ∧ zs.length ≤ 100 ∧ Cyc su)) gdₛ cnₛ csₛ Lₛ aₛ ccdₛ clₛ outerₛ A₀ₛ baseₛ h₀ₛ mₛ sₛ RRₛ
noncomputable abbrev Dat := World × (ExcName → Option Value) × (Str → Option Value) × (Str → Option Value) × SA × SV × (Int → Int) × (Int → List Int) × Option (List Code) × Str × Scope × Addr × Addr × Value × (List (Str × Addr)) × List Env × Around × Heap × Heap × (Str → Option Value) × Shared × (Result → Shared → Prop)
noncomputable def ok (p : Dat) : Prop := let q1 := p.2.2.2.2.2.2.2.2; let q2 := q1.2.2.2.2.2.2.2.2; stm p.1 p.2.1 p.2.2.1 p.2.2.2.1 p.2.2.2.2.1 p.2.2.2.2.2.1 p.2.2.2.2.2.2.1 p.2.2.2.2.2.2.2.1 q1.1 q1.2.1 q1.2.2.1 q1.2.2.2.1 q1.2.2.2.2.1 q1.2.2.2.2.2.1 q1.2.2.2.2.2.2.1 q1.2.2.2.2.2.2.2.1 q2.1 q2.2.1 q2.2.2.1 q2.2.2.2.1 q2.2.2.2.2.1 q2.2.2.2.2.2
@[irreducible] noncomputable def cc : Dat := @Classical.epsilon Dat ⟨(world0, fun _ => none, fun _ => none, fun _ => none, ⟨0,0,0,0,fun _=>0,fun _=>0,fun _=>0,0,0,0,0,fun _=>0,default⟩, ⟨0,0,0,0,fun _=>0,fun _=>[],fun _=>0,0,[]⟩, default, default, none, default, default, (0 : Nat), (0 : Nat), .none, [], [], {}, {}, {}, fun _ => none, {}, fun _ _ => True)⟩ fun p => ¬ ok p
noncomputable def c1 := cc.2.2.2.2.2.2.2.2
noncomputable def c2 := c1.2.2.2.2.2.2.2.2
@[irreducible] noncomputable def w : World := cc.1
@[irreducible] noncomputable def mean : ExcName → Option Value := cc.2.1
@[irreducible] noncomputable def mg : Str → Option Value := cc.2.2.1
@[irreducible] noncomputable def mb : Str → Option Value := cc.2.2.2.1
@[irreducible] noncomputable def A : SA := cc.2.2.2.2.1
@[irreducible] noncomputable def V : SV := cc.2.2.2.2.2.1
@[irreducible] noncomputable def n : Int → Int := cc.2.2.2.2.2.2.1
@[irreducible] noncomputable def su : Int → List Int := cc.2.2.2.2.2.2.2.1
@[irreducible] noncomputable def gdₛ : Option (List Code) := c1.1
@[irreducible] noncomputable def cnₛ : Str := c1.2.1
@[irreducible] noncomputable def csₛ : Scope := c1.2.2.1
@[irreducible] noncomputable def Lₛ : Addr := c1.2.2.2.1
@[irreducible] noncomputable def aₛ : Addr := c1.2.2.2.2.1
@[irreducible] noncomputable def ccdₛ : Value := c1.2.2.2.2.2.1
@[irreducible] noncomputable def clₛ : List (Str × Addr) := c1.2.2.2.2.2.2.1
@[irreducible] noncomputable def outerₛ : List Env := c1.2.2.2.2.2.2.2.1
@[irreducible] noncomputable def A₀ₛ : Around := c2.1
@[irreducible] noncomputable def baseₛ : Heap := c2.2.1
@[irreducible] noncomputable def h₀ₛ : Heap := c2.2.2.1
@[irreducible] noncomputable def mₛ : Str → Option Value := c2.2.2.2.1
@[irreducible] noncomputable def sₛ : Shared := c2.2.2.2.2.1
@[irreducible] noncomputable def RRₛ : Result → Shared → Prop := c2.2.2.2.2.2
theorem core : stm w mean mg mb A V n su gdₛ cnₛ csₛ Lₛ aₛ ccdₛ clₛ outerₛ A₀ₛ baseₛ h₀ₛ mₛ sₛ RRₛ := by
  intro hA hd9 hs9 hl hsu
  have hD := hd9.d
  have lo := hd9.lo
  have hN : ND (A.R :: A.P :: A.dP :: A.D :: (nodesL A V n).map (·.1)) := hA.own
  clear hd9
  show ConSB w mean mg mb 400 1500 141 [.ref A.P] ((A.R, W.listOf (List.toArray V.rd) V.kr) :: (A.P, instObj 151 A.dP) :: (A.dP, ownD w A V (.ref A.R)) :: (A.D, A.oD) :: nodesL A V n) _ gdₛ cnₛ csₛ Lₛ aₛ ccdₛ clₛ outerₛ A₀ₛ baseₛ h₀ₛ mₛ sₛ RRₛ
  walk_at "c_startS"
  w_strict (walk_at "k_to")
  rename Fr _ _ _ _ => F0
  rename News _ _ _ _ => N0
  rename Below _ _ _ _ => B0
  rename Frag.In _ _ => X0
  rename KtsDicts _ _ => D0
  rename Top _ _ _ _ _ _ => T0
  rename ND (_ :: List.map _ _) => hT
  refine name4 N0 ?_
  intro nd so T S e1 e2 e3 e4
  subst e1 e2 e3 e4
  replace hT : ND (nd :: so :: T :: S :: A.R :: adrN A) := hT
  have hndm : ((nd : Addr) == sysModules) = false := by assumption
  refine for_keysS (CyO w A V n su nd so T S) [("n2i", _), ("stack", _), ("itstack", _), ("seen", _), ("node2stacki", _)] (kvs := kv4 A.x) rfl (Gr.mk KtsTurn.refl B0 X0 T0 D0) F0 N0 (by k_mem) hD lo (by exact ⟨rfl, rfl, rfl, rfl, rfl, trivial⟩)
      (by exact .mk (os := { cls := Value.type "set", data := Data.set #[] 0 (SetTable.fresh 0 0 _) }) (kT := 0) (kS := 0) (dn := []) (by assumption) (by assumption) ⟨Dfs.init _, by omega, by simp only [List.length_nil]; omega, (fun _ h => nomatch h), hT, (fun y hy => .inl (by rcases int_zero_to_three hy with rfl | rfl | rfl | rfl <;> simp [kv4])), (fun y q => nomatch q), by simp only [openW]; omega⟩ fun y hy => by simp [kv4] at hy; omega)
      (by rintro r ps n ⟨⟩; exact mt4 (mt2 (.tail _ (.head _)))) ?_ ?_ (by passes_own) ?_
  · rintro g I0 x tx r ps₁ u news₁ it0 h tk Pf hI ⟨hset, hdic, hF, hkeys⟩ G1 B1 X1 T1 D1 F1 N1 hNf hCf hBf hRf
    clear F0 N0 B0 X0 T0 D0
    rename_i od2 os kT kS Sn cnt dn
    dsimp only [kstB] at F1
    have hI2 : ND (I0 :: nd :: so :: T :: S :: A.R :: adrN A) := ND.push (news := fcL nd so T S od2 os [] kT kS (sorN w A V n)) hT (ND.lt (news' := fcL nd so T S od2 os [] kT kS (sorN w A V n)) hI rfl)
    have off := fun od2 os kT kS => ND.off (news' := fcL nd so T S od2 os [] kT kS (sorN w A V n)) hI rfl
    clear hI
    have hcnt := hF.cnt
    by_cases hs : Sn x = true
    · walk_at "k_to"
      refine hCf _ (hNf _ ?_)
      (try dsimp only)
      refine AtIS.intro (by assumption) (by assumption) (by assumption) [("n2i", _), ("stack", _), ("itstack", _), ("seen", _), ("node2stacki", _)] _ (by exact ⟨rfl, rfl, rfl, rfl, rfl, trivial⟩) (List.Mem.head _) (fun p hp => List.mem_cons_of_mem _ hp) (off _ _ _ _) ?_
      exact .mk hset hdic (hF.over hs) (fun y hy => hkeys y (List.mem_cons_of_mem _ hy))
    walk_at "k_to"
    rename Fr _ _ _ _ => F2
    rename News _ _ _ _ => N2
    refine w_cutE (σ := Nat) (CyW w A V n su nd so T S (I0, it0) I0 r) (CyE w A V n su nd so T S (I0, it0) r)
      id 100 [("n2i", _), ("stack", _), ("itstack", _), ("seen", _), ("node2stacki", _), ("node", _)] G1 F2 N2 (by exact ⟨rfl, rfl, rfl, rfl, rfl, rfl, trivial⟩)
      (by exact .mk (fr := []) hset hdic (hF.begin (hkeys _ (List.mem_cons_self ..)) hI2) (Nat.le_refl _)) ?_ ?_ (by passes_own)
    · clear F1 N1 F2 N2 G1 B1 X1 T1 D1 hF hset hdic
      rintro g c ps₁ u news₁ h tk Pw Cw ⟨hset, hdic, hF, hc100⟩ G1 B1 X1 T1 D1 F1 N1 hN - hC hB hR -
      rename_i fr Sn cnt dn node tn os od2 kS kT
      dsimp only [kstB] at F1
      have hkl := kvF_len fr
      have hsl := svF_len fr
      have htl := tvF_len fr
      have hrl := stk_len fr
      have hsi := svF_ints fr
      have hfew := hF.few
      have hcnt := hF.cnt
      have hnd : ND (I0 :: nd :: so :: T :: S :: (sorN w A V n ++ ilF fr).map (·.1)) := hF.nd
      repeat' (first | (walk_at "no_loop"; (fail_if_success (with_reducible show wpAny _ _ (exec (Stmt.If _ _ _ _) _) _ _ _)); first | (k_unfold; (try dsimp only)) | walk1) | (dsimp only; walk_at "no_loop"; (fail_if_success (with_reducible show wpAny _ _ (exec (Stmt.If _ _ _ _) _) _ _ _)); walk1) | fail "no step")
      rename Fr _ _ _ _ => F2
      rename News _ _ _ _ => N2
      refine cut_hereS G1 F2 (CyC w A V n su nd so T S (I0, it0) I0 r c) ?_ ?_
      · intro Cc hCn hCr
        by_cases hs : Sn node = true
        · by_cases hin : node ∈ stkF fr
          · obtain ⟨kk, tt, hk⟩ := kvF_yes hin
            have hk1 : (PySem.valueAt (kvF fr) node).isSome = true := by rw [hk]; rfl
            walk_at "k_run"
            refine hCr _ _ (fun q => nomatch q) ?_
            (try dsimp only)
            refine hR _ _ ?_
            (try dsimp only)
            refine hRf _ _ ?_
            (try dsimp only)
            rename Fr _ _ _ _ => F5
            rename News _ _ _ _ => N5
            rename ND (_ :: List.map _ _) => hZ
            refine name1 N5 ?_
            intro Z eZ
            subst eZ
            have hZ2 : ND (Z :: _ :: _ :: I0 :: nd :: so :: T :: S :: ((A.R :: adrN A) ++ (ilF fr).map (·.1))) := hZ
            replace N5 := news_sub N5 (news := (Z, _) :: sorN w A V n) (cons_mem fun p hp => mt4 (mt2 (.tail _ (List.mem_append.mpr (.inl hp)))))
            walk_at "c_doneS"
            refine .inr ⟨Z, _, _, _, rfl, rfl, ⟨hZ2.nd.sublist (.cons_cons _ (.cons _ (.cons _ (.cons _ (.cons _ (.cons _ (.cons _ (.cons _ (List.sublist_append_left _ _)))))))))⟩, ?_, hF.dfs.cyc hin⟩
            (with_reducible rename IntsAre _ _ => h9)
            have hl9 := IntsAre.length h9
            omega
          · have hk1 : (PySem.valueAt (kvF fr) node).isSome = false := by rw [kvF_no hin]; rfl
            walk_at "k_run"
            refine hCn _ ?_
            (try dsimp only)
            refine AtS.intro' (by assumption) (by assumption) (by assumption) [("n2i", _), ("stack", _), ("itstack", _), ("seen", _), ("node2stacki", _)] (by exact ⟨rfl, rfl, rfl, rfl, rfl, trivial⟩) ?_
            exact .mk hset hdic (hF.skip hs hin)
        · have nin : node ∉ stkF fr := fun q => hs ((hF.dfs.seen _).mpr (.inr q))
          have hst := kvF_store (v := .int ((svF fr).length : Int) 0) nin
          have hi := hF.nxr _ rfl
          have hx2 := kv4_at (x := A.x) hi
          have hP : ND (I0 :: nd :: so :: T :: S :: (pickC w A V n node (ilF fr)).map (·.1)) := pickC_nd (pre := [I0, nd, so, T, S]) hF.nd hi
          replace N2 : News _ _ _ ((I0, it0) :: fcL nd so T S od2 os fr kT kS (pickC w A V n node (ilF fr))) := news_sub N2 (cons_mem (cons_mem (cons_mem (cons_mem (cons_mem fun p hp => (sorC_perm hi _).mem_iff.mpr hp)))))
          clear hnd
          walk_at "k_run"
          rename Fr _ _ _ _ => F5
          rename News _ _ _ _ => N5
          rename ND (_ :: List.map _ _) => hZ
          refine name2 N5 ?_
          intro b it e1 e2
          subst e1 e2
          have hZ2 : ND (b :: it :: ([I0, nd, so, T, S] ++ ((A.R :: adrN A) ++ (ilF fr).map (·.1)))) := unpickC_nd (pre := [b, it, I0, nd, so, T, S]) hZ hi
          rename Obj.IsDictOf _ _ (PySem.stored _ _ _) => hdn
          rw [kvF_store nin] at hdn
          obtain ⟨tkq, hdn⟩ : ∃ tkq, Obj.IsDictOf (intKind Challenge.rw_om0134_01.row.prog w) _ (kvF fr ++ [(node, Value.int ((svF fr).length : Int) tkq)]) := ⟨_, hdn⟩
          have N7 := news_sub N5 (cyc_back hi)
          refine hCn _ ?_
          (try dsimp only)
          refine AtS.intro' (by assumption) F5 N7 [("n2i", _), ("stack", _), ("itstack", _), ("seen", _), ("node2stacki", _)] (by exact ⟨rfl, rfl, rfl, rfl, rfl, trivial⟩) ?_
          exact .mk (fr := ⟨node, b, it, A.l node, 0, _, tkq⟩ :: fr) (by assumption) hdn (hF.push hs rfl rfl rfl hZ2)
      · clear F2 N2 G1 B1 X1 T1 D1 hF hset hdic hkl hsl htl hrl hsi hfew hcnt hnd
        rintro g ps₁ u news₁ h tk ⟨hset, hdic, hF⟩ G1 B1 X1 T1 D1 F1 N1
        rename_i fr Sn cnt dn os od2 kS kT
        dsimp only [kstB] at F1
        walk_at "k_to"
        rename Fr _ _ _ _ => F2
        rename News _ _ _ _ => N2
        refine w_cutE (σ := Nat) (CyI w A V n su nd so T S (I0, it0) I0 r c) (CyJ w A V n su nd so T S (I0, it0) I0 r c)
          id fr.length [("n2i", _), ("stack", _), ("itstack", _), ("seen", _), ("node2stacki", _)] G1 F2 N2 (by exact ⟨rfl, rfl, rfl, rfl, rfl, trivial⟩) (by exact .mk hset hdic hF) ?_ ?_ (by passes_own)
        · clear F2 N2 G1 B1 X1 T1 D1 hF hset hdic
          rintro g mm ps₁ u news₁ h tk Pi Ci ⟨hset, hdic, hF⟩ G1 B1 X1 T1 D1 F1 N1 hNi - hCi hBi - hBri
          rename_i fr Sn cnt dn os od2 kS kT
          dsimp only [kstB] at F1
          cases fr with
          | nil =>
            simp only [fcL, tvF, svF, ilF, List.append_nil] at N1
            walk_at "k_run"
            refine hBri _ ?_
            (try dsimp only)
            refine hB _ (hC _ ?_)
            (try dsimp only)
            refine AtS.intro' (by assumption) (by assumption) (by assumption) [("n2i", _), ("stack", _), ("itstack", _), ("seen", _), ("node2stacki", _)] (by exact ⟨rfl, rfl, rfl, rfl, rfl, trivial⟩) ?_
            exact .mk hset hdic (hF.done hc100 hT)
          | cons f fr =>
            have hkl2 := kvF_len (f :: fr)
            rw [List.length_cons] at hkl2
            have hkl := kvF_len fr
            have hsl := svF_len fr
            have htl := tvF_len fr
            have hfew := hF.few
            rw [List.length_cons] at hfew
            have hi := hF.dfs.rng f.x (List.mem_cons_self ..)
            have hints := hs9 _ hi
            have hP : ND (f.b :: f.it :: I0 :: nd :: so :: T :: S :: (pickC w A V n f.x (ilF fr)).map (·.1)) := pickC_nd (pre := [f.b, f.it, I0, nd, so, T, S]) (nd_front hF.nd) hi
            replace N1 : News _ _ _ ((f.b, mwO f.it) :: (f.it, liO f.l f.i) :: (I0, it0) :: (nd, od2) :: (so, os) :: (T, W.listOf (List.toArray (tvF fr ++ [.ref f.b])) kT) :: (S, W.listOf (List.toArray (svF fr ++ [.int f.x f.tx])) kS) :: pickC w A V n f.x (ilF fr)) := news_sub N1 (cyc_fwd hi)
            have hml : ((f.l : Addr), W.listOf (List.toArray (V.s f.x)) (V.k f.x)) ∈ (pickC w A V n f.x (ilF fr)) := by rw [hF.lok f (.head _)]; exact mt2 (.tail _ (.head _))
            cases hy : (su f.x)[f.i]? with
            | some y =>
              obtain ⟨ty, hv⟩ := ints_get hints hy
              walk_at "k_next"
              rename Fr _ _ _ _ => F5
              rename News _ _ _ _ => N5
              refine next_itemK (it := f.it) (l := f.l) (i := f.i) (n := V.k f.x) (vs := V.s f.x) F5 N5 (by k_mem) (by k_upd) (mt4 (mt2 (.tail _ hml))) hv ?_
              intro h6 F6 N6
              clear F5 N5
              (try dsimp only)
              walk_at "k_run"
              refine hBi _ (hCi _ ?_)
              (try dsimp only)
              rename News _ _ _ _ => N9
              have N7 := news_sub N9 (cyc_back hi)
              refine AtS.intro' (by assumption) (by assumption) N7 [("n2i", _), ("stack", _), ("itstack", _), ("seen", _), ("node2stacki", _), ("node", _)] (by exact ⟨rfl, rfl, rfl, rfl, rfl, rfl, trivial⟩) ?_
              have hnx := hF.next (f' := { f with i := f.i + 1 }) hy (hsu _) rfl
              exact .mk (fr := { f with i := f.i + 1 } :: fr) hset hdic hnx.1 hnx.2
            | none =>
              walk_at "k_next"
              rename Fr _ _ _ _ => F5
              rename News _ _ _ _ => N5
              refine next_endK (it := f.it) (l := f.l) (i := f.i) (n := V.k f.x) (vs := V.s f.x) (rest := (I0, it0) :: (nd, od2) :: (so, os) :: (T, W.listOf (List.toArray (tvF fr ++ [.ref f.b])) kT) :: (S, W.listOf (List.toArray (svF fr ++ [.int f.x f.tx])) kS) :: pickC w A V n f.x (ilF fr)) rfl F5 N5 (.head _) (.tail _ (.head _)) (mt4 (mt2 (.tail _ hml))) (ints_none hints hy)
                (fun p hp => mt2 hp) (ND.off2 hP) ?_
              intro h1 h' e F6 N6 hx
              (try dsimp only)
              (with_reducible rename BaseOk _ _ _ _ _ => hB9)
              refine caught_here (X := "StopIteration") (T' := "StopIteration") B1 (toC hx) F6 N6 hB9.inn hB9.top D1 (by k_is) boot_Stop (by decide) isExc_Stop notTuple_Stop (by kts_sub) ?_
              intro h7 g7 T7 F7 N7 B7 X7 P7 D7
              have G7 := G1.trans (Gr.mk T7 B7 X7 P7 D7)
              clear G1 B1 X1 T1 D1 F6 N6 hx T7 F5 N5 hml
              have hP2 : ND (I0 :: nd :: so :: T :: S :: (pickC w A V n f.x (ilF fr)).map (·.1)) := hP.tl2
              have hyes : (PySem.valueAt (kvF (f :: fr)) f.x).isSome = true := by
                obtain ⟨kk, tt, hk⟩ := kvF_yes (fr := f :: fr) (x := f.x) (List.mem_cons_self ..)
                rw [hk]; rfl
              walk_at "k_run"
              refine hNi _ ?_
              (try dsimp only)
              rename Obj.IsDictOf _ _ (PySem.without _ _) => hdn
              rw [kvF_drop (List.nodup_cons.mp hF.dfs.nodup).1] at hdn
              rename News _ _ _ _ => N9
              have N8 := news_sub N9 (cyc_five hi)
              refine AtS.intro' (by assumption) (by assumption) N8 [("n2i", _), ("stack", _), ("itstack", _), ("seen", _), ("node2stacki", _)] (by exact ⟨rfl, rfl, rfl, rfl, rfl, trivial⟩) ?_
              exact ⟨fr.length, .mk hset hdn (hF.pop hy), Nat.lt_succ_self _⟩
        · clear F2 N2 G1 B1 X1 T1 D1 hF hset hdic
          rintro g ps₁ u news₁ h tk ⟨hset, hdic, hF, hpos⟩ G1 B1 X1 T1 D1 F1 N1
          dsimp only [kstB] at F1
          walk_at "k_run"
          refine hN _ ?_
          (try dsimp only)
          refine AtS.intro' (by assumption) (by assumption) (by assumption) [("n2i", _), ("stack", _), ("itstack", _), ("seen", _), ("node2stacki", _), ("node", _)] (by exact ⟨rfl, rfl, rfl, rfl, rfl, rfl, trivial⟩) ?_
          exact ⟨c - 1, .mk hset hdic hF (Nat.le_trans (Nat.sub_le _ _) hc100), Nat.sub_lt hpos Nat.one_pos⟩
    · clear F2 N2 G1 B1 X1 T1 D1 hF hset hdic
      rintro g ps₁ u news₁ h tk ⟨hset, hdic, hF⟩ G1 B1 X1 T1 D1 F1 N1
      dsimp only [kstB] at F1
      walk_at "k_run"
      refine hNf _ ?_
      (try dsimp only)
      refine AtIS.intro (by assumption) (by assumption) (by assumption) [("n2i", _), ("stack", _), ("itstack", _), ("seen", _), ("node2stacki", _)] _ (by exact ⟨rfl, rfl, rfl, rfl, rfl, trivial⟩) (List.Mem.head _) (fun p hp => List.mem_cons_of_mem _ hp) (off _ _ _ _) ?_
      exact .mk hset hdic hF (fun y hy => hkeys y (List.mem_cons_of_mem _ hy))
  · rintro g ps₁ u news₁ h tk ⟨hset, hdic, hF, hkeys⟩ G1 B1 X1 T1 D1 F1 N1
    clear F0 N0 B0 X0 T0 D0
    dsimp only [kstB] at F1
    replace N1 := news_tl (news_tl (news_tl (news_tl N1)))
    walk_at "k_to"
    walk_at "c_doneS"
    refine .inl ⟨rfl, rfl, _, hF.dfs.topo, fun y hy => ?_⟩
    rcases hF.cov y hy with a | a | a
    · cases a
    · rcases (hF.dfs.seen y).mp a with b | b
      · exact b
      · cases b
    · cases a
  · walk_at "k_run"
    assumption
theorem all (p : Dat) : ok p := drink _ ok (by with_unfolding_all exact core) p
end S_cyc_con
theorem cyc_con (w : World) (mean) (mg mb) (A : SA) (hA : A.Ok) (hd9 : A.Dict w) (V : SV) (n : Int → Int) (su : Int → List Int) (hs9 : ∀ i, 0 ≤ i ∧ i ≤ 3 → IntsAre (V.s i) (su i)) (hl : leftW su (fun _ => false) ≤ 40) (hsu : ∀ x, ∀ s ∈ su x, 0 ≤ s ∧ s ≤ 3) : ConS w mean mg mb 400 1500 141 [.ref A.P] (sorN w A V n)
      (fun r news' => (r = .none ∧ news' = sorN w A V n ∧ ∃ dn, Topo su dn ∧ ∀ y, 0 ≤ y ∧ y ≤ 3 → y ∈ dn) ∨
        (∃ (Z : Nat) (zs : List Value) (z : Value) (k : Nat), r = .ref Z ∧ news' = ((Z : Addr), W.listOf (List.toArray (zs ++ [z])) k) :: sorN w A V n ∧ ND (Z :: A.R :: adrN A) ∧ zs.length ≤ 100 ∧ Cyc su)) :=
  fun gdₛ cnₛ csₛ Lₛ aₛ ccdₛ clₛ outerₛ A₀ₛ baseₛ h₀ₛ mₛ sₛ RRₛ => S_cyc_con.all (w, mean, mg, mb, A, V, n, su, gdₛ, cnₛ, csₛ, Lₛ, aₛ, ccdₛ, clₛ, outerₛ, A₀ₛ, baseₛ, h₀ₛ, mₛ, sₛ, RRₛ) hA hd9 hs9 hl hsu
theorem at_Prep : True := by
  w_top off
  k_with "c_startE" => ((first | (unfold ConE; intro gdₖ cnₖ csₖ Lₖ aₖ ccdₖ clₖ outerₖ A₀ₖ baseₖ h₀ₖ mₖ sₖ RRₖ Bₖ Fₖ Xₖ Nₖ Tₖ hkₖ XBₖ TBₖ Dₖ hretₖ hraiseₖ) | (unfold ConEB; intro Bₖ Fₖ Xₖ Nₖ Tₖ hkₖ XBₖ TBₖ Dₖ hretₖ hraiseₖ)); have hoffₖ := off_frames Bₖ Nₖ; have hBaseₖ := BaseOk.mk XBₖ TBₖ; clear XBₖ TBₖ; revert Xₖ; k_fill; intro Xₖ; k_dflt walk_at "c_enterS")
  exact trivial
theorem news_drop2 {g h : Heap} {L : Addr} {a b : Addr × Obj} {news : List (Addr × Obj)} (N : News g L h (a :: b :: news)) : News g L h (a :: news) := fun p hp => N p ((List.mem_cons.mp hp).elim (fun e => e ▸ List.Mem.head _) fun q => mt2 q)
noncomputable def rdF (n0 n1 n2 n3 : Int) : List Int := ((List.range 4).filter (fun (i : Nat) => decide (q4 n0 n1 n2 n3 (i : Int) = 0))).map (fun (i : Nat) => (i : Int))
noncomputable def SA.setR (A : SA) (Rn : Nat) : SA := { A with R := Rn }
theorem kv4_get {x : Int → Nat} {i : Nat} {k : Int} {v : Value} (hi : i < 4) (h : (kv4 x)[i]? = some (k, v)) : k = (i : Int) ∧ v = .ref (x (i : Int)) := by
  match i, hi with
  | 0, _ => simp [kv4] at h; exact ⟨h.1.symm, h.2.symm⟩
  | 1, _ => simp [kv4] at h; exact ⟨h.1.symm, h.2.symm⟩
  | 2, _ => simp [kv4] at h; exact ⟨h.1.symm, h.2.symm⟩
  | 3, _ => simp [kv4] at h; exact ⟨h.1.symm, h.2.symm⟩
theorem q4_nat {n : Int → Int} {i : Nat} (hi : i < 4) : q4 (n 0) (n 1) (n 2) (n 3) (i : Int) = n i := by
  match i, hi with
  | 0, _ => rfl
  | 1, _ => rfl
  | 2, _ => rfl
  | 3, _ => rfl
theorem off1_mem9 {D : Nat} {l : List (Addr × Obj)} (h : LCg.Off1 D l) : ∀ p ∈ l, p.1 ≠ D := by
  induction l with
  | nil => intro p hp; cases hp
  | cons a l ih =>
    intro p hp
    rcases List.mem_cons.mp hp with rfl | hp
    · first | exact h.1 | exact fun e => h.1 e.symm
    · exact ih h.2 p hp
theorem off1_nd {D : Nat} : ∀ {l : List (Addr × Obj)}, LCg.Off1 D l → ND (l.map (·.1)) → ND (D :: l.map (·.1)) := fun {l} h k => ⟨List.nodup_cons.mpr ⟨fun q => by
  obtain ⟨p, hp, e⟩ := List.mem_map.mp q
  exact off1_mem9 h p hp e, k.nd⟩⟩
theorem back7 {A : SA} {V : SV} {n : Int → Int} {i : Int} (hi : 0 ≤ i ∧ i ≤ 3) {a b c d e f g : Addr × Obj} : ∀ p ∈ a :: b :: c :: d :: e :: f :: g :: nodesL A V n, p ∈ a :: b :: c :: d :: e :: f :: g :: pickL A V n i :=
  cons_mem (cons_mem (cons_mem (cons_mem (cons_mem (cons_mem (cons_mem fun p hp => (pick_mem hi p).mp hp))))))
namespace S_prep_con
noncomputable def stm (w : World) (mean : ExcName → Option Value) (mg mb : Str → Option Value) (A : SA) (V : SV) (n : Int → Int) (su : Int → List Int) (gdₛ : Option (List Code)) (cnₛ : Str) (csₛ : Scope) (Lₛ aₛ : Addr) (ccdₛ : Value) (clₛ : List (Str × Addr)) (outerₛ : List Env) (A₀ₛ : Around) (baseₛ h₀ₛ : Heap) (mₛ : Str → Option Value) (sₛ : Shared) (RRₛ : Result → Shared → Prop) : Prop := ∀ (hA : (adrN A).Nodup) (hd9 : A.Dict w) (hs9 : ∀ i, 0 ≤ i ∧ i ≤ 3 → IntsAre (V.s i) (su i)) (hl : leftW su (fun _ => false) ≤ 40) (hsu : ∀ x, ∀ s ∈ su x, 0 ≤ s ∧ s ≤ 3), ConEB w mean mg mb 390 1400 106 [.ref A.P] (sorM w A V n)
      (fun r news' => ∃ (Rn : Nat) (ys : List Value) (kr : Nat), r = .none ∧ news' = sorN w (A.setR Rn) (V.setR ys kr) n ∧ (A.setR Rn).Ok ∧ IntsAre ys (rdF (n 0) (n 1) (n 2) (n 3)) ∧ ∃ dn, Topo su dn ∧ ∀ y, 0 ≤ y ∧ y ≤ 3 → y ∈ dn) 69
      (fun newsE => ∃ (Rn : Nat) (ys : List Value) (kr : Nat), newsE = sorN w (A.setR Rn) (V.setR ys kr) n ∧ (A.setR Rn).Ok ∧ IntsAre ys (rdF (n 0) (n 1) (n 2) (n 3)) ∧ Cyc su) gdₛ cnₛ csₛ Lₛ aₛ ccdₛ clₛ outerₛ A₀ₛ baseₛ h₀ₛ mₛ sₛ RRₛ
noncomputable abbrev Dat := World × (ExcName → Option Value) × (Str → Option Value) × (Str → Option Value) × SA × SV × (Int → Int) × (Int → List Int) × Option (List Code) × Str × Scope × Addr × Addr × Value × (List (Str × Addr)) × List Env × Around × Heap × Heap × (Str → Option Value) × Shared × (Result → Shared → Prop)
noncomputable def ok (p : Dat) : Prop := let q1 := p.2.2.2.2.2.2.2.2; let q2 := q1.2.2.2.2.2.2.2.2; stm p.1 p.2.1 p.2.2.1 p.2.2.2.1 p.2.2.2.2.1 p.2.2.2.2.2.1 p.2.2.2.2.2.2.1 p.2.2.2.2.2.2.2.1 q1.1 q1.2.1 q1.2.2.1 q1.2.2.2.1 q1.2.2.2.2.1 q1.2.2.2.2.2.1 q1.2.2.2.2.2.2.1 q1.2.2.2.2.2.2.2.1 q2.1 q2.2.1 q2.2.2.1 q2.2.2.2.1 q2.2.2.2.2.1 q2.2.2.2.2.2
@[irreducible] noncomputable def cc : Dat := @Classical.epsilon Dat ⟨(world0, fun _ => none, fun _ => none, fun _ => none, ⟨0,0,0,0,fun _=>0,fun _=>0,fun _=>0,0,0,0,0,fun _=>0,default⟩, ⟨0,0,0,0,fun _=>0,fun _=>[],fun _=>0,0,[]⟩, default, default, none, default, default, (0 : Nat), (0 : Nat), .none, [], [], {}, {}, {}, fun _ => none, {}, fun _ _ => True)⟩ fun p => ¬ ok p
noncomputable def c1 := cc.2.2.2.2.2.2.2.2
noncomputable def c2 := c1.2.2.2.2.2.2.2.2
@[irreducible] noncomputable def w : World := cc.1
@[irreducible] noncomputable def mean : ExcName → Option Value := cc.2.1
@[irreducible] noncomputable def mg : Str → Option Value := cc.2.2.1
@[irreducible] noncomputable def mb : Str → Option Value := cc.2.2.2.1
@[irreducible] noncomputable def A : SA := cc.2.2.2.2.1
@[irreducible] noncomputable def V : SV := cc.2.2.2.2.2.1
@[irreducible] noncomputable def n : Int → Int := cc.2.2.2.2.2.2.1
@[irreducible] noncomputable def su : Int → List Int := cc.2.2.2.2.2.2.2.1
@[irreducible] noncomputable def gdₛ : Option (List Code) := c1.1
@[irreducible] noncomputable def cnₛ : Str := c1.2.1
@[irreducible] noncomputable def csₛ : Scope := c1.2.2.1
@[irreducible] noncomputable def Lₛ : Addr := c1.2.2.2.1
@[irreducible] noncomputable def aₛ : Addr := c1.2.2.2.2.1
@[irreducible] noncomputable def ccdₛ : Value := c1.2.2.2.2.2.1
@[irreducible] noncomputable def clₛ : List (Str × Addr) := c1.2.2.2.2.2.2.1
@[irreducible] noncomputable def outerₛ : List Env := c1.2.2.2.2.2.2.2.1
@[irreducible] noncomputable def A₀ₛ : Around := c2.1
@[irreducible] noncomputable def baseₛ : Heap := c2.2.1
@[irreducible] noncomputable def h₀ₛ : Heap := c2.2.2.1
@[irreducible] noncomputable def mₛ : Str → Option Value := c2.2.2.2.1
@[irreducible] noncomputable def sₛ : Shared := c2.2.2.2.2.1
@[irreducible] noncomputable def RRₛ : Result → Shared → Prop := c2.2.2.2.2.2
theorem core : stm w mean mg mb A V n su gdₛ cnₛ csₛ Lₛ aₛ ccdₛ clₛ outerₛ A₀ₛ baseₛ h₀ₛ mₛ sₛ RRₛ := by
  intro hA hd9 hs9 hl hsu
  have hD := hd9.d
  have lo := hd9.lo
  have hN : ND (A.P :: A.dP :: A.D :: (nodesL A V n).map (·.1)) := ⟨hA⟩
  show ConEB w mean mg mb 390 1400 106 [.ref A.P] ((A.P, instObj 151 A.dP) :: (A.dP, ownD w A V .none) :: (A.D, A.oD) :: nodesL A V n) _ _ _ gdₛ cnₛ csₛ Lₛ aₛ ccdₛ clₛ outerₛ A₀ₛ baseₛ h₀ₛ mₛ sₛ RRₛ
  walk_at "c_startE"
  w_strict (repeat' (first | (walk_at "no_loop"; (fail_if_success (with_reducible show wpAny _ _ (eval (Expr.ListComp _ _ _ _) _) _ _ _)); first | (k_unfold; (try dsimp only)) | walk1) | (dsimp only; walk_at "no_loop"; (fail_if_success (with_reducible show wpAny _ _ (eval (Expr.ListComp _ _ _ _) _) _ _ _)); walk1) | fail "no step"))
  rename Fr _ _ _ _ => F1
  refine ListComp_TV (d := A.D) (od := A.oD) (kvs := kv4 A.x) F1 hD (Nat.le_of_ble_eq_true rfl) (by with_unfolding_all rfl) (by decide) (by rfl) (by decide) (by rfl) ?_
  walk_at "k_srcV"
  rename Fr _ _ _ _ => F2
  rename News _ _ _ _ => N2
  refine SrcV.intro rfl F2 N2 ⟨_, (N2 _ (List.Mem.head _)).1, rfl, rfl⟩ (by k_mem) ?_
  intro hh2
  refine filt_rest (fun i => decide (q4 (n 0) (n 1) (n 2) (n 3) (i : Int) = 0)) (fun i => (i : Int)) ?_ ?_
  · intro i v I' oI' C' oC' D' m' ys' h' tk' E' hi hv hC' hx' F' N' off' ne'
    clear F1 F2 N2
    obtain ⟨k, hv⟩ := hv
    obtain ⟨rfl, rfl⟩ := kv4_get hi hv
    have hi4 : 0 ≤ (i : Int) ∧ (i : Int) ≤ 3 := by have : i < 4 := hi; omega
    have hq := q4_nat (n := n) (show i < 4 from hi)
    rename News _ _ _ _ => N8
    have N9 := news_sub N8 (cons_mem (cons_mem (cons_mem (cons_mem (pick3 (V := V) (n := n) hi4)))))
    clear N8
    walk_at "k_comp"
    · exact LCg.CompEnd.intro (by assumption) (by assumption) _ (back7 hi4) off' (by k_mem) ⟨rfl, by rw [hq]; exact decide_eq_true (by assumption), _, rfl⟩
    · exact LCg.CompEnd.intro (by assumption) (by assumption) _ (back7 hi4) off' (by k_mem) ⟨rfl, by rw [hq]; exact decide_eq_false (by assumption)⟩
  · clear F1 F2 N2
    intro ys hys hlen
    unfold LCg.FinE
    intro D9 h9 tk9 F9 N9 off9
    change News _ _ _ ((D9, W.listOf (List.toArray ys) ys.length) :: _) at N9
    replace N9 := news_drop2 N9
    have hyl := hys.length
    have hD9 : ND (D9 :: A.P :: A.dP :: A.D :: (nodesL A V n).map (·.1)) := off1_nd (l := (A.P, instObj 151 A.dP) :: (A.dP, ownD w A V .none) :: (A.D, A.oD) :: nodesL A V n) off9.2 hN
    have hok : (A.setR D9).Ok := ⟨hD9.nd⟩
    repeat' (first | ((fail_if_success (with_reducible show wpAny _ _ (call (Value.ref _) _) _ _ _)); first | (k_unfold; (try dsimp only)) | walk1) | (dsimp only; (fail_if_success (with_reducible show wpAny _ _ (call (Value.ref _) _) _ _ _)); walk1) | fail "no step")
    (try dsimp only [List.cons_append, List.nil_append])
    rename Fr _ _ _ _ => F3
    rename News _ _ _ _ => N3
    rename BaseOk _ _ _ _ _ => hB9
    rename Below _ _ _ _ => B3
    rename Frag.In _ _ => X3
    rename KtsDicts _ _ => D3
    rename Top _ _ _ _ _ _ => T3
    refine use_conS (rest := []) (cyc_con w _ _ _ (A.setR D9) hok ⟨hD, lo⟩ (V.setR ys ys.length) n su hs9 hl hsu) B3 F3 X3 N3 news_nil T3 hB9.inn hB9.top D3 rfl (by first | assumption | rfl) rfl (Nat.le_of_ble_eq_true rfl) (Nat.le_of_ble_eq_true rfl) (fun _ q => nomatch q) ?_
    rintro r m h5 tk5 g5 G5 F5 N5 - hres
    rw [List.append_nil] at N5
    clear F3 N3 B3 X3 D3 T3
    have B5 := G5.below
    have X5 := G5.inn
    have T5 := G5.top
    have D5 := G5.dicts
    rcases hres with ⟨rfl, rfl, dn, hdn1, hdn2⟩ | ⟨Z, zs, z, k, rfl, rfl, hZ, hzl, hcyc⟩
    · walk_at "k_run"
      rename Gr _ _ _ _ _ _ _ _ _ => G9
      walk_at "c_doneS"
      exact ⟨D9, ys, _, rfl, rfl, hok, hys, dn, hdn1, hdn2⟩
    · walk_at "k_run"
      rename Gr _ _ _ _ _ _ _ _ _ => G9
      rename RaisedS _ _ _ _ _ _ _ _ _ => S9
      rename Heap.UpToSlots _ _ => U9
      rename (∀ _ _, _ → ¬ _ ∈ List.map _ _ → _) => hg9
      rename (∀ _, _ ∈ _ → ¬ _ ∈ _ :: frs _) => hoff9
      rename (∀ _ _ _ _ _ _ _, LeftS _ _ _ _ _ → _) => hraise9
      have S8 := raised_sub S9 (fun p hp => List.mem_cons_of_mem _ hp)
      exact hraise9 _ _ _ _ _ _ _ (left_ground G9.turn hg9 hoff9) (fresh_raised G9.turn hg9 S8) S8 U9 ⟨D9, ys, _, rfl, hok, hys, hcyc⟩
theorem all (p : Dat) : ok p := drink _ ok (by with_unfolding_all exact core) p
end S_prep_con
theorem prep_con (w : World) (mean) (mg mb) (A : SA) (hA : (adrN A).Nodup) (hd9 : A.Dict w) (V : SV) (n : Int → Int) (su : Int → List Int) (hs9 : ∀ i, 0 ≤ i ∧ i ≤ 3 → IntsAre (V.s i) (su i)) (hl : leftW su (fun _ => false) ≤ 40) (hsu : ∀ x, ∀ s ∈ su x, 0 ≤ s ∧ s ≤ 3) : ConE w mean mg mb 390 1400 106 [.ref A.P] (sorM w A V n)
      (fun r news' => ∃ (Rn : Nat) (ys : List Value) (kr : Nat), r = .none ∧ news' = sorN w (A.setR Rn) (V.setR ys kr) n ∧ (A.setR Rn).Ok ∧ IntsAre ys (rdF (n 0) (n 1) (n 2) (n 3)) ∧ ∃ dn, Topo su dn ∧ ∀ y, 0 ≤ y ∧ y ≤ 3 → y ∈ dn) 69
      (fun newsE => ∃ (Rn : Nat) (ys : List Value) (kr : Nat), newsE = sorN w (A.setR Rn) (V.setR ys kr) n ∧ (A.setR Rn).Ok ∧ IntsAre ys (rdF (n 0) (n 1) (n 2) (n 3)) ∧ Cyc su) :=
  fun gdₛ cnₛ csₛ Lₛ aₛ ccdₛ clₛ outerₛ A₀ₛ baseₛ h₀ₛ mₛ sₛ RRₛ => S_prep_con.all (w, mean, mg, mb, A, V, n, su, gdₛ, cnₛ, csₛ, Lₛ, aₛ, ccdₛ, clₛ, outerₛ, A₀ₛ, baseₛ, h₀ₛ, mₛ, sₛ, RRₛ) hA hd9 hs9 hl hsu
theorem at_PlanB : True := by
  w_top off
  exact trivial
structure TE where
  (T : Nat) (a b : Int) (ta tb : Tok)
noncomputable abbrev tupO (x : TE) : Obj := { cls := .type "tuple", data := .seq #[.int x.a x.ta, .int x.b x.tb] }
noncomputable def tupL (tl : List TE) : List (Addr × Obj) := tl.map fun x => (x.T, tupO x)
noncomputable def tupV (tl : List TE) : List Value := tl.map fun x => .ref x.T
noncomputable def edgF (tl : List TE) : List (Int × Int) := tl.map fun x => (x.a, x.b)
noncomputable def cntF (E : List (Int × Int)) (t : Int) : Int := ((E.filter fun e => e.1 == t).length : Int)
noncomputable def sucF (E : List (Int × Int)) (a : Int) : List Int := (E.filter fun e => e.2 == a).map (·.1)
theorem cntF_snoc (E : List (Int × Int)) (e : Int × Int) (t : Int) : cntF (E ++ [e]) t = cntF E t + (if e.1 = t then 1 else 0) := by
  unfold cntF
  rw [List.filter_append, List.length_append]
  by_cases h : e.1 = t
  · simp [h]
  · simp [h]
theorem sucF_snoc (E : List (Int × Int)) (e : Int × Int) (a : Int) : sucF (E ++ [e]) a = if a = e.2 then sucF E a ++ [e.1] else sucF E a := by
  unfold sucF
  rw [List.filter_append, List.map_append]
  by_cases h : a = e.2
  · simp [h]
  · have h' : ¬ e.2 = a := fun q => h q.symm
    simp [h, h']
theorem cntF_le (E : List (Int × Int)) (t : Int) : 0 ≤ cntF E t ∧ cntF E t ≤ (E.length : Int) := by
  unfold cntF
  have := List.length_filter_le (fun e : Int × Int => e.1 == t) E
  omega
theorem sucF_le (E : List (Int × Int)) (a : Int) : (sucF E a).length ≤ E.length := by
  unfold sucF
  rw [List.length_map]
  exact List.length_filter_le _ E
theorem sucF_mem {E : List (Int × Int)} {a x : Int} : x ∈ sucF E a ↔ (x, a) ∈ E := by
  unfold sucF
  rw [List.mem_map]
  constructor
  · rintro ⟨⟨p, q⟩, h, rfl⟩
    rw [List.mem_filter] at h
    have : q = a := by simpa using h.2
    subst this
    exact h.1
  · intro h
    exact ⟨(x, a), List.mem_filter.mpr ⟨h, by simp⟩, rfl⟩
theorem sucF_all (E : List (Int × Int)) (h : ∀ e ∈ E, 0 ≤ e.2 ∧ e.2 ≤ 3) : (sucF E 0).length + (sucF E 1).length + (sucF E 2).length + (sucF E 3).length ≤ E.length := by
  induction E with
  | nil => simp [sucF]
  | cons e E ih =>
    have h1 := ih fun x hx => h x (.tail _ hx)
    have h2 := h e (.head _)
    have key : ∀ a, (sucF (e :: E) a).length = (sucF E a).length + (if e.2 = a then 1 else 0) := fun a => by
      unfold sucF
      by_cases q : e.2 = a
      · simp [q]
      · simp [q]
    rw [key, key, key, key, List.length_cons]
    rcases int_zero_to_three h2 with q | q | q | q <;> simp only [q] <;> simp <;> omega
structure NR where
  (x d l : Nat) (tv tn : Tok)
noncomputable def ndL : List NR → List (Addr × Obj)
  | [] => []
  | n :: r => niL n.x n.d n.l (.int (r.length : Int) n.tv) (.int 0 n.tn) [] 0 ++ ndL r
noncomputable def kvN : List NR → List (Int × Value)
  | [] => []
  | n :: r => kvN r ++ [((r.length : Int), .ref n.x)]
theorem ndL_cls : ∀ {r : List NR}, ∀ p ∈ ndL r, p.2.cls ≠ .type "range_iterator"
  | [], p, hp => nomatch hp
  | n :: r, p, hp => by
    rcases List.mem_append.mp hp with hp | hp
    · simp only [niL, niO, List.mem_cons, List.not_mem_nil, or_false] at hp
      rcases hp with rfl | rfl | rfl
      · intro q; cases q
      · intro q
        have : (Value.type "dict") = .type "range_iterator" := q
        injection this with this
        exact absurd this (by decide)
      · intro q
        have : (Value.type "list") = .type "range_iterator" := q
        injection this with this
        exact absurd this (by decide)
    · exact ndL_cls p hp
theorem kvN_len : ∀ r : List NR, (kvN r).length = r.length
  | [] => rfl
  | n :: r => by rw [kvN, List.length_append, kvN_len r]; rfl
theorem kvN_keys : ∀ {r : List NR}, ∀ p ∈ kvN r, p.1 < (r.length : Int)
  | [], p, hp => nomatch hp
  | n :: r, p, hp => by
    rw [List.length_cons]
    rcases List.mem_append.mp hp with hp | hp
    · have := kvN_keys p hp; omega
    · rw [List.mem_singleton.mp hp]; show (r.length : Int) < _; omega
theorem kvN_none (r : List NR) : PySem.valueAt (kvN r) (r.length : Int) = none := by
  unfold PySem.valueAt
  rw [Option.map_eq_none_iff, List.find?_eq_none]
  intro p hp q
  have h1 := kvN_keys p hp
  have : p.1 = (r.length : Int) := by simpa using q
  omega
theorem kvN_store (r : List NR) (n : NR) : PySem.stored (kvN r) (r.length : Int) (.ref n.x) = kvN (n :: r) := by
  unfold PySem.stored
  rw [if_neg]
  · rfl
  · intro q
    obtain ⟨p, hp, e⟩ := List.any_eq_true.mp q
    have h1 := kvN_keys p hp
    have : p.1 = (r.length : Int) := by simpa using e
    omega
structure SorOk (w : World) (A : SA) (V : SV) (E : List (Int × Int)) (nr : List Int) : Prop where
  ok : A.Ok
  dict : A.Dict w
  g : ∀ i, 0 ≤ i ∧ i ≤ 3 → IntsAre (V.s i) (sucF E i)
  rd : IntsAre V.rd nr
structure PlanR (w : World) (E : List (Int × Int)) (own : List (Addr × Obj)) (r : Value) (news' : List (Addr × Obj)) : Prop where
  ex : ∃ (T : Nat) (A : SA) (V : SV) (b : Bool), r = .ref T ∧ news' = (T, ({ cls := .type "tuple", data := .seq #[.ref A.P, .bool b] } : Obj)) :: (sorN w A V (cntF E) ++ own) ∧
    SorOk w A V E (rdF (cntF E 0) (cntF E 1) (cntF E 2) (cntF E 3)) ∧ Under T (sorN w A V (cntF E)) ∧ (∀ p ∈ sorN w A V (cntF E), ∀ q ∈ own, @Ne Nat p.1 q.1) ∧ Under T own ∧
    (b = false ∧ (∃ dn, Topo (s4 (sucF E 0) (sucF E 1) (sucF E 2) (sucF E 3)) dn ∧ ∀ y, 0 ≤ y ∧ y ≤ 3 → y ∈ dn) ∨ b = true ∧ Cyc (s4 (sucF E 0) (sucF E 1) (sucF E 2) (sucF E 3)))
theorem at_PlanN : True := by
  w_top off
  k_with "k_callI" => repeat' (first | ((fail_if_success (with_reducible show wpAny _ _ (call (Value.ref _) ([_] ++ _)) _ _ _)); (fail_if_success (with_reducible show wpAny _ _ (call (Value.ref _) (_ :: _)) _ _ _)); first | (k_unfold; (try dsimp only)) | walk1) | (dsimp only; (fail_if_success (with_reducible show wpAny _ _ (call (Value.ref _) ([_] ++ _)) _ _ _)); (fail_if_success (with_reducible show wpAny _ _ (call (Value.ref _) (_ :: _)) _ _ _)); walk1) | fail "no step")
  exact trivial
theorem mem_perm3 {α : Type _} {a r : List α} {x : α} : ∀ p ∈ a ++ (x :: r), p ∈ x :: (a ++ r) := by
  intro p
  simp only [List.mem_append, List.mem_cons]
  grind
theorem mem_perm4 {α : Type _} {a r : List α} {x : α} : ∀ p ∈ a ++ r, p ∈ a ++ (x :: r) := by
  intro p
  simp only [List.mem_append, List.mem_cons]
  grind
theorem cnt_add (pre : List TE) (x : TE) : upd (cntF (edgF pre)) x.a (cntF (edgF pre) x.a + 1) = cntF (edgF (pre ++ [x])) := by
  have e : edgF (pre ++ [x]) = edgF pre ++ [(x.a, x.b)] := by simp [edgF]
  funext j
  rw [e, cntF_snoc]
  unfold upd
  by_cases h : j = x.a
  · rw [if_pos h, if_pos h.symm, h]
  · rw [if_neg h, if_neg (fun q => h q.symm)]; omega
theorem suc_add (pre : List TE) (x : TE) (i : Int) : addS (sucF (edgF pre)) x.a x.b i = sucF (edgF (pre ++ [x])) i := by
  have e : edgF (pre ++ [x]) = edgF pre ++ [(x.a, x.b)] := by simp [edgF]
  rw [e, sucF_snoc]
  rfl
theorem edgF_len (tl : List TE) : (edgF tl).length = tl.length := by simp [edgF]
theorem suc_few (tl : List TE) (hle : tl.length ≤ 4) (hb : ∀ x ∈ tl, 0 ≤ x.b ∧ x.b ≤ 3) : leftW (s4 (sucF (edgF tl) 0) (sucF (edgF tl) 1) (sucF (edgF tl) 2) (sucF (edgF tl) 3)) (fun _ => false) ≤ 40 := by
  have h := sucF_all (edgF tl) (fun e he => by
    obtain ⟨x, hx, rfl⟩ := List.mem_map.mp he
    exact hb x hx)
  rw [edgF_len] at h
  have e0 : s4 (sucF (edgF tl) 0) (sucF (edgF tl) 1) (sucF (edgF tl) 2) (sucF (edgF tl) 3) 0 = sucF (edgF tl) 0 := rfl
  have e1 : s4 (sucF (edgF tl) 0) (sucF (edgF tl) 1) (sucF (edgF tl) 2) (sucF (edgF tl) 3) 1 = sucF (edgF tl) 1 := rfl
  have e2 : s4 (sucF (edgF tl) 0) (sucF (edgF tl) 1) (sucF (edgF tl) 2) (sucF (edgF tl) 3) 2 = sucF (edgF tl) 2 := rfl
  have e3 : s4 (sucF (edgF tl) 0) (sucF (edgF tl) 1) (sucF (edgF tl) 2) (sucF (edgF tl) 3) 3 = sucF (edgF tl) 3 := rfl
  unfold leftW
  rw [restW_un (by simp), restW_un (by simp), restW_un (by simp), restW_un (by simp), e0, e1, e2, e3]
  omega
theorem s4_in {a b c d : List Int} {Z : Int → Prop} (h0 : ∀ s ∈ a, Z s) (h1 : ∀ s ∈ b, Z s) (h2 : ∀ s ∈ c, Z s) (h3 : ∀ s ∈ d, Z s) : ∀ x, ∀ s ∈ s4 a b c d x, Z s := by
  intro x s hs
  unfold s4 at hs
  split at hs
  · exact h0 s hs
  · split at hs
    · exact h1 s hs
    · split at hs
      · exact h2 s hs
      · exact h3 s hs
theorem suc_rng (tl : List TE) (ha : ∀ x ∈ tl, 0 ≤ x.a ∧ x.a ≤ 3) : ∀ x, ∀ s ∈ s4 (sucF (edgF tl) 0) (sucF (edgF tl) 1) (sucF (edgF tl) 2) (sucF (edgF tl) 3) x, 0 ≤ s ∧ s ≤ 3 := by
  have key : ∀ a, ∀ s ∈ sucF (edgF tl) a, 0 ≤ s ∧ s ≤ 3 := fun a s hs => by
    have := sucF_mem.mp hs
    obtain ⟨x, hx, e⟩ := List.mem_map.mp this
    have e1 : x.a = s := congrArg Prod.fst e
    exact e1 ▸ ha x hx
  exact s4_in (key 0) (key 1) (key 2) (key 3)
theorem name3 {P : Prop} {g h : Heap} {L a b c : Addr} {oa ob oc : Obj} {r : List (Addr × Obj)} (_N : News g L h ((a, oa) :: (b, ob) :: (c, oc) :: r)) (k : ∀ a' b' c' : Nat, a' = a → b' = b → c' = c → P) : P := k a b c rfl rfl rfl
theorem suc4_at (E : List (Int × Int)) {V : SV} (h : ∀ i, 0 ≤ i ∧ i ≤ 3 → IntsAre (V.s i) (sucF E i)) : ∀ i, 0 ≤ i ∧ i ≤ 3 → IntsAre (V.s i) (s4 (sucF E 0) (sucF E 1) (sucF E 2) (sucF E 3) i) := fun i hi => by
  rcases int_zero_to_three hi with rfl | rfl | rfl | rfl
  · exact h 0 hi
  · exact h 1 hi
  · exact h 2 hi
  · exact h 3 hi
theorem plan_start {a b c : Addr × Obj} {own : List (Addr × Obj)} : ∀ p ∈ b :: c :: a :: ([] ++ own), p ∈ a :: b :: c :: own := fun p hp => by
  simp only [List.mem_cons, List.nil_append] at hp ⊢
  rcases hp with q | q | q | q
  · exact .inr (.inl q)
  · exact .inr (.inr (.inl q))
  · exact .inl q
  · exact .inr (.inr (.inr q))
theorem plan_in {a b c I : Addr × Obj} {nl own : List (Addr × Obj)} : ∀ p ∈ (a :: b :: c :: nl) ++ (I :: own), p ∈ I :: a :: b :: c :: (nl ++ own) := fun p hp => by
  simp only [List.mem_cons, List.mem_append, List.cons_append] at hp ⊢
  rcases hp with q | q | q | q | q | q
  · exact .inr (.inl q)
  · exact .inr (.inr (.inl q))
  · exact .inr (.inr (.inr (.inl q)))
  · exact .inr (.inr (.inr (.inr (.inl q))))
  · exact .inl q
  · exact .inr (.inr (.inr (.inr (.inr q))))
theorem plan_out {a b c I : Addr × Obj} {nl own : List (Addr × Obj)} : ∀ p ∈ a :: b :: c :: (nl ++ own), p ∈ (a :: b :: c :: nl) ++ (I :: own) := fun p hp => by
  simp only [List.mem_cons, List.mem_append, List.cons_append] at hp ⊢
  rcases hp with q | q | q | q | q
  · exact .inl q
  · exact .inr (.inl q)
  · exact .inr (.inr (.inl q))
  · exact .inr (.inr (.inr (.inl q)))
  · exact .inr (.inr (.inr (.inr (.inr q))))
theorem new_out {a b c x d l : Nat} {as : List Nat} (h : ND (a :: b :: c :: x :: d :: l :: as)) : ∀ y ∈ [x, d, l], y ∉ a :: b :: c :: as := by
  have h1 : ([a, b, c] ++ ([x, d, l] ++ as)).Nodup := h.nd
  have h2 : ([x, d, l] ++ ([a, b, c] ++ as)).Nodup := by
    refine List.Perm.nodup_iff ?_ |>.mp h1
    rw [← List.append_assoc, ← List.append_assoc]
    exact List.perm_append_comm.append_right as
  intro y hy hz
  exact (List.nodup_append.mp h2).2.2 y hy y hz rfl
theorem new_sep {a b c x d l : Nat} {tv tn : Tok} {nds : List NR} {own : List (Addr × Obj)} (h : ∀ y ∈ a :: b :: c :: (ndL nds).map (·.1), ∀ q ∈ own, @Ne Nat y q.1) (h2 : ∀ y ∈ [x, d, l], ∀ q ∈ own, @Ne Nat y q.1) : ∀ y ∈ a :: b :: c :: (ndL (⟨x, d, l, tv, tn⟩ :: nds)).map (·.1), ∀ q ∈ own, @Ne Nat y q.1 := fun y hy => by
  have hy2 : y ∈ a :: b :: c :: ([x, d, l] ++ (ndL nds).map (·.1)) := hy
  simp only [List.mem_cons, List.cons_append, List.nil_append] at hy2
  rcases hy2 with q | q | q | q | q | q | q
  · exact h y (by simp [q])
  · exact h y (by simp [q])
  · exact h y (by simp [q])
  · exact h2 y (by simp [q])
  · exact h2 y (by simp [q])
  · exact h2 y (by simp [q])
  · exact h y (mt2 (.tail _ q))
theorem new_off {a b c x d l I : Nat} {tv tn : Tok} {nds : List NR} (h : ∀ y ∈ a :: b :: c :: (ndL nds).map (·.1), @Ne Nat y I) (h2 : ∀ y ∈ [x, d, l], @Ne Nat y I) : ∀ y ∈ a :: b :: c :: (ndL (⟨x, d, l, tv, tn⟩ :: nds)).map (·.1), @Ne Nat y I := fun y hy =>
  new_sep (own := [((I : Addr), dictOf [] 0)]) (fun y hy q hq => by rw [List.mem_singleton.mp hq]; exact h y hy) (fun y hy q hq => by rw [List.mem_singleton.mp hq]; exact h2 y hy) y hy _ (.head _)
inductive PlI (w : World) (e P dP D : Nat) (own : List (Addr × Obj)) : Nat → List (Str × Value) → List (Addr × Obj) → Prop
  | mk {i : Nat} {oD : Obj} {h1 h2 h3 h4 tpo tfi : Tok} {nds : List NR} (hn : nds.length = i) (hd : Obj.IsDictOf (intKind Challenge.rw_om0134_01.row.prog w) oD (kvN nds)) (nd : ND (P :: dP :: D :: (ndL nds).map (·.1))) (sep : ∀ y ∈ P :: dP :: D :: (ndL nds).map (·.1), ∀ q ∈ own, @Ne Nat y q.1) :
    PlI w e P dP D own i [(("edges" : Str), .ref e), (("plan" : Str), .ref P)] (((P : Addr), instObj 151 dP) :: ((dP : Addr), ownE w D h1 h2 h3 h4 tpo tfi) :: ((D : Addr), oD) :: (ndL nds ++ own))
inductive PlJ (w : World) (e : Nat) (A : SA) (tl : List TE) (own : List (Addr × Obj)) : List Value → List (Str × Value) → List (Addr × Obj) → Prop
  | mk {pre post : List TE} {V : SV} (htl : tl = pre ++ post) (hs : ∀ i, 0 ≤ i ∧ i ≤ 3 → IntsAre (V.s i) (sucF (edgF pre) i)) :
    PlJ w e A tl own (tupV post) [(("edges" : Str), .ref e), (("plan" : Str), .ref A.P)] (sorM w A V (cntF (edgF pre)) ++ own)
theorem PlJ.cons {w : World} {e : Nat} {A : SA} {tl : List TE} {own : List (Addr × Obj)} {v : Value} {r : List Value} {ps : List (Str × Value)} {nw : List (Addr × Obj)} (h : PlJ w e A tl own (v :: r) ps nw) :
    ∃ (x : TE) (pre post : List TE) (V : SV), tl = pre ++ x :: post ∧ v = .ref x.T ∧ r = tupV post ∧ ps = [(("edges" : Str), .ref e), (("plan" : Str), .ref A.P)] ∧ nw = sorM w A V (cntF (edgF pre)) ++ own ∧ ∀ i, 0 ≤ i ∧ i ≤ 3 → IntsAre (V.s i) (sucF (edgF pre) i) := by
  generalize hv : v :: r = vr at h
  obtain ⟨htl, hs⟩ := h
  rename_i pre post V
  cases post with
  | nil => cases hv
  | cons x post =>
    have h1 : v = .ref x.T := by injection hv
    have h2 : r = tupV post := by injection hv
    exact ⟨x, pre, post, V, htl, h1, h2, rfl, rfl, hs⟩
theorem PlJ.nil {w : World} {e : Nat} {A : SA} {tl : List TE} {own : List (Addr × Obj)} {ps : List (Str × Value)} {nw : List (Addr × Obj)} (h : PlJ w e A tl own [] ps nw) :
    ∃ (V : SV), ps = [(("edges" : Str), .ref e), (("plan" : Str), .ref A.P)] ∧ nw = sorM w A V (cntF (edgF tl)) ++ own ∧ ∀ i, 0 ≤ i ∧ i ≤ 3 → IntsAre (V.s i) (sucF (edgF tl) i) := by
  generalize hv : ([] : List Value) = vr at h
  obtain ⟨htl, hs⟩ := h
  rename_i pre post V
  cases post with
  | nil =>
    rw [List.append_nil] at htl
    subst htl
    exact ⟨V, rfl, rfl, hs⟩
  | cons x post => cases hv
noncomputable def saOf (P dP D : Nat) (n0 n1 n2 n3 : NR) (h1 h2 h3 h4 : Tok) (oD : Obj) : SA := ⟨P, dP, D, 0, fun i => if i = 0 then n0.x else if i = 1 then n1.x else if i = 2 then n2.x else n3.x, fun i => if i = 0 then n0.d else if i = 1 then n1.d else if i = 2 then n2.d else n3.d, fun i => if i = 0 then n0.l else if i = 1 then n1.l else if i = 2 then n2.l else n3.l, h1, h2, h3, h4, fun i => if i = 0 then n0.tv else if i = 1 then n1.tv else if i = 2 then n2.tv else n3.tv, oD⟩
noncomputable def svOf (n0 n1 n2 n3 : NR) (tpo tfi : Tok) : SV := ⟨0, 0, tpo, tfi, fun i => if i = 0 then n0.tn else if i = 1 then n1.tn else if i = 2 then n2.tn else n3.tn, fun _ => [], fun _ => 0, 0, []⟩
theorem sa_perm {P dP D : Nat} {n0 n1 n2 n3 : NR} {h1 h2 h3 h4 : Tok} {oD : Obj} : (adrN (saOf P dP D n0 n1 n2 n3 h1 h2 h3 h4 oD)).Perm (P :: dP :: D :: (ndL [n3, n2, n1, n0]).map (·.1)) := by
  show ([P, dP, D] ++ ([n0.x, n0.d, n0.l] ++ ([n1.x, n1.d, n1.l] ++ ([n2.x, n2.d, n2.l] ++ [n3.x, n3.d, n3.l])))).Perm ([P, dP, D] ++ ([n3.x, n3.d, n3.l] ++ ([n2.x, n2.d, n2.l] ++ ([n1.x, n1.d, n1.l] ++ [n0.x, n0.d, n0.l]))))
  refine List.Perm.append_left _ ?_
  refine List.perm_append_comm.trans ?_
  refine (List.Perm.append_right _ (List.perm_append_comm.trans (List.Perm.append_right _ List.perm_append_comm))).trans ?_
  simp only [List.append_assoc]
  exact List.Perm.refl _
theorem sa_nodup {P dP D : Nat} {n0 n1 n2 n3 : NR} {h1 h2 h3 h4 : Tok} {oD : Obj} (h : ND (P :: dP :: D :: (ndL [n3, n2, n1, n0]).map (·.1))) : (adrN (saOf P dP D n0 n1 n2 n3 h1 h2 h3 h4 oD)).Nodup := sa_perm.nodup_iff.mpr h.nd
theorem sa_adr {P dP D : Nat} {n0 n1 n2 n3 : NR} {h1 h2 h3 h4 : Tok} {oD : Obj} : ∀ y ∈ adrN (saOf P dP D n0 n1 n2 n3 h1 h2 h3 h4 oD), y ∈ P :: dP :: D :: (ndL [n3, n2, n1, n0]).map (·.1) := fun y hy => sa_perm.mem_iff.mp hy
theorem sa_mem {w : World} {P dP D : Nat} {n0 n1 n2 n3 : NR} {h1 h2 h3 h4 tpo tfi : Tok} {oD : Obj} {own : List (Addr × Obj)} : ∀ p ∈ sorM w (saOf P dP D n0 n1 n2 n3 h1 h2 h3 h4 oD) (svOf n0 n1 n2 n3 tpo tfi) (cntF (edgF [])) ++ own,
    p ∈ ((P : Addr), instObj 151 dP) :: ((dP : Addr), ownE w D h1 h2 h3 h4 tpo tfi) :: ((D : Addr), oD) :: (ndL [n3, n2, n1, n0] ++ own) := by
  have e : (nodesL (saOf P dP D n0 n1 n2 n3 h1 h2 h3 h4 oD) (svOf n0 n1 n2 n3 tpo tfi) (cntF (edgF []))).Perm (ndL [n3, n2, n1, n0]) := by
    show ((niL n0.x n0.d n0.l (.int 0 n0.tv) (.int 0 n0.tn) [] 0) ++ ((niL n1.x n1.d n1.l (.int 1 n1.tv) (.int 0 n1.tn) [] 0) ++ ((niL n2.x n2.d n2.l (.int 2 n2.tv) (.int 0 n2.tn) [] 0) ++ (niL n3.x n3.d n3.l (.int 3 n3.tv) (.int 0 n3.tn) [] 0)))).Perm
      ((niL n3.x n3.d n3.l (.int 3 n3.tv) (.int 0 n3.tn) [] 0) ++ ((niL n2.x n2.d n2.l (.int 2 n2.tv) (.int 0 n2.tn) [] 0) ++ ((niL n1.x n1.d n1.l (.int 1 n1.tv) (.int 0 n1.tn) [] 0) ++ ((niL n0.x n0.d n0.l (.int 0 n0.tv) (.int 0 n0.tn) [] 0) ++ []))))
    rw [List.append_nil]
    generalize niL n0.x n0.d n0.l (.int 0 n0.tv) (.int 0 n0.tn) [] 0 = b0
    generalize niL n1.x n1.d n1.l (.int 1 n1.tv) (.int 0 n1.tn) [] 0 = b1
    generalize niL n2.x n2.d n2.l (.int 2 n2.tv) (.int 0 n2.tn) [] 0 = b2
    generalize niL n3.x n3.d n3.l (.int 3 n3.tv) (.int 0 n3.tn) [] 0 = b3
    refine List.perm_append_comm.trans ?_
    refine (List.Perm.append_right _ (List.perm_append_comm.trans (List.Perm.append_right _ List.perm_append_comm))).trans ?_
    simp only [List.append_assoc]
    exact List.Perm.refl _
  intro p hp
  exact ((((e.append_right own).cons _).cons _).cons _).mem_iff.mp hp
namespace S_plan_con
noncomputable def stm (w : World) (mean : ExcName → Option Value) (mg mb : Str → Option Value) (e : Addr) (tl : List TE) (ke : Nat) (gdₛ : Option (List Code)) (cnₛ : Str) (csₛ : Scope) (Lₛ aₛ : Addr) (ccdₛ : Value) (clₛ : List (Str × Addr)) (outerₛ : List Env) (A₀ₛ : Around) (baseₛ h₀ₛ : Heap) (mₛ : Str → Option Value) (sₛ : Shared) (RRₛ : Result → Shared → Prop) : Prop := ∀ (hle : tl.length ≤ 4) (hr : ∀ x ∈ tl, (0 ≤ x.a ∧ x.a ≤ 3) ∧ (0 ≤ x.b ∧ x.b ≤ 3) ∧ x.a ≠ x.b), ConSB w mean mg mb 380 1300 169 [.ref e] ((e, W.listOf (List.toArray (tupV tl)) ke) :: tupL tl)
      (PlanR w (edgF tl) ((e, W.listOf (List.toArray (tupV tl)) ke) :: tupL tl)) gdₛ cnₛ csₛ Lₛ aₛ ccdₛ clₛ outerₛ A₀ₛ baseₛ h₀ₛ mₛ sₛ RRₛ
noncomputable abbrev Dat := World × (ExcName → Option Value) × (Str → Option Value) × (Str → Option Value) × Addr × List TE × Nat × Option (List Code) × Str × Scope × Addr × Addr × Value × (List (Str × Addr)) × List Env × Around × Heap × Heap × (Str → Option Value) × Shared × (Result → Shared → Prop)
noncomputable def ok (p : Dat) : Prop := let q1 := p.2.2.2.2.2.2.2.2; let q2 := q1.2.2.2.2.2.2.2.2; stm p.1 p.2.1 p.2.2.1 p.2.2.2.1 p.2.2.2.2.1 p.2.2.2.2.2.1 p.2.2.2.2.2.2.1 p.2.2.2.2.2.2.2.1 q1.1 q1.2.1 q1.2.2.1 q1.2.2.2.1 q1.2.2.2.2.1 q1.2.2.2.2.2.1 q1.2.2.2.2.2.2.1 q1.2.2.2.2.2.2.2.1 q2.1 q2.2.1 q2.2.2.1 q2.2.2.2.1 q2.2.2.2.2
@[irreducible] noncomputable def cc : Dat := @Classical.epsilon Dat ⟨(world0, fun _ => none, fun _ => none, fun _ => none, (0 : Nat), [], 0, none, default, default, (0 : Nat), (0 : Nat), .none, [], [], {}, {}, {}, fun _ => none, {}, fun _ _ => True)⟩ fun p => ¬ ok p
noncomputable def c1 := cc.2.2.2.2.2.2.2.2
noncomputable def c2 := c1.2.2.2.2.2.2.2.2
@[irreducible] noncomputable def w : World := cc.1
@[irreducible] noncomputable def mean : ExcName → Option Value := cc.2.1
@[irreducible] noncomputable def mg : Str → Option Value := cc.2.2.1
@[irreducible] noncomputable def mb : Str → Option Value := cc.2.2.2.1
@[irreducible] noncomputable def e : Addr := cc.2.2.2.2.1
@[irreducible] noncomputable def tl : List TE := cc.2.2.2.2.2.1
@[irreducible] noncomputable def ke : Nat := cc.2.2.2.2.2.2.1
@[irreducible] noncomputable def gdₛ : Option (List Code) := cc.2.2.2.2.2.2.2.1
@[irreducible] noncomputable def cnₛ : Str := c1.1
@[irreducible] noncomputable def csₛ : Scope := c1.2.1
@[irreducible] noncomputable def Lₛ : Addr := c1.2.2.1
@[irreducible] noncomputable def aₛ : Addr := c1.2.2.2.1
@[irreducible] noncomputable def ccdₛ : Value := c1.2.2.2.2.1
@[irreducible] noncomputable def clₛ : List (Str × Addr) := c1.2.2.2.2.2.1
@[irreducible] noncomputable def outerₛ : List Env := c1.2.2.2.2.2.2.1
@[irreducible] noncomputable def A₀ₛ : Around := c1.2.2.2.2.2.2.2.1
@[irreducible] noncomputable def baseₛ : Heap := c2.1
@[irreducible] noncomputable def h₀ₛ : Heap := c2.2.1
@[irreducible] noncomputable def mₛ : Str → Option Value := c2.2.2.1
@[irreducible] noncomputable def sₛ : Shared := c2.2.2.2.1
@[irreducible] noncomputable def RRₛ : Result → Shared → Prop := c2.2.2.2.2
theorem core : stm w mean mg mb e tl ke gdₛ cnₛ csₛ Lₛ aₛ ccdₛ clₛ outerₛ A₀ₛ baseₛ h₀ₛ mₛ sₛ RRₛ := by
  intro hle hr
  walk_at "c_startS"
  w_strict (walk_at "k_to")
  refine For_turns (by assumption) ?_
  walk_at "k_to"
  rename Fr _ _ _ _ => F0
  rename News _ _ _ _ => N0
  revert F0 N0
  (repeat (rename Fr _ _ _ _ => Fz; clear Fz))
  (repeat (rename News _ _ _ _ => Nz; clear Nz))
  intro F0 N0
  refine name3 N0 ?_
  intro D P dP e1 e2 e3
  subst e1 e2 e3
  rename Obj.IsDictOf (intKind _ _) _ [] => hI9
  rename (_ == sysModules) = false => lo9
  have hown : ∀ q ∈ ((e, W.listOf (List.toArray (tupV tl)) ke) :: tupL tl), @LT.lt Nat _ q.1 dP := fun q hq => by
    rcases List.mem_cons.mp hq with rfl | hq
    · exact (‹_ ∧ AllLt dP (tupL tl)›).1
    · exact (under_of (‹_ ∧ AllLt dP (tupL tl)›).2).lt q hq
  have q1 : @LT.lt Nat _ dP P := by omega
  have q2 : @LT.lt Nat _ P D := by omega
  generalize hrl : (e, W.listOf (List.toArray (tupV tl)) ke) :: tupL tl = own at *
  have heo : ((e : Addr), W.listOf (List.toArray (tupV tl)) ke) ∈ own := by rw [← hrl]; exact .head _
  have N9 := news_sub N0 (plan_start (own := own))
  refine for_range0 (n := 4) (PlI w e P dP D own) [("edges", _), ("plan", _)] rfl (by assumption) (by decide) F0 N9 (by exact ⟨rfl, rfl, trivial⟩) (by exact .mk (nds := []) rfl hI9 ⟨by simp [ndL]; omega⟩ (fun y hy q hq => by have := hown q hq; simp [ndL] at hy; omega)) ?_ ?_
  · rintro I i t ps₁ u news₁ it h tk Pp hi hI hit ⟨rfl, hd1, hnd, hsep⟩ F1 N1 hN - - -
    rename_i oD h1 h2 h3 h4 tpo tfi nds
    clear F0 N0 N9
    (try dsimp only [kstB] at F1)
    have offn : ∀ p ∈ ndL nds, @Ne Nat p.1 I := fun p hp q => by
      have y1 := (N1 (I, it) (.head _)).1
      have y2 := (N1 p (mt4 (List.mem_append.mpr (.inl hp)))).1
      have q' : p.1 = I := q
      rw [q', y1] at y2
      injection y2 with y2
      exact ndL_cls p hp (y2 ▸ hit)
    have offI : ∀ y ∈ P :: dP :: D :: (ndL nds).map (·.1), @Ne Nat y I := fun y hy => by
      revert y
      refine al_cons ?_ (al_cons ?_ (al_cons ?_ (fun y hy => ?_)))
      · exact Nat.ne_of_lt (hI _ (.head _))
      · exact Nat.ne_of_lt (hI _ (.tail _ (.head _)))
      · exact Nat.ne_of_lt (hI _ (mt2 (.head _)))
      · obtain ⟨p, hp, rfl⟩ := List.mem_map.mp hy
        exact offn p hp
    have heI : ∀ q ∈ own, @LT.lt Nat _ q.1 I := fun q hq => hI _ (mt2 (.tail _ hq))
    clear hI offn
    walk_at "k_callI"
    rename Fr _ _ _ _ => F3
    rename News _ _ _ _ => N3
    refine' use_con (newsC := ((P : Addr), instObj 151 dP) :: ((dP : Addr), ownE w D h1 h2 h3 h4 tpo tfi) :: ((D : Addr), oD) :: ndL nds) (rest := (I, it) :: own) (addnew_con w mean mg mb P dP D oD h1 h2 h3 h4 tpo tfi (nds.length : Int) _ (kvN nds) hd1 lo9 (kvN_none nds) (by rw [kvN_len]; omega) (ndL nds) hnd) (by k_asm) F3 (by k_asm) (news_sub N3 plan_in) (by k_asm) rfl (by first | assumption | rfl) rfl (Nat.le_of_ble_eq_true rfl) (Nat.le_of_ble_eq_true rfl) rfl ?hr ?_
    case hr => exact (by
      intro p hp hx
      rcases List.mem_cons.mp hp with rfl | hp
      · exact offI _ hx rfl
      · exact hsep _ hx p hp rfl)
    rintro r news' h' tk' F4 N4 hne4 ⟨x, d, l, tn, oD', rfl, rfl, hD', hnd2⟩
    clear F3 N3
    have new3 : ∀ y ∈ [x, d, l], ∀ z ∈ (I, it) :: own, @Ne Nat y z.1 := fun y hy z hz e => by
      have hy2 : y ∉ P :: dP :: D :: (ndL nds).map (·.1) := new_out hnd2 y hy
      have hy3 : ∃ p ∈ niL x d l (.int (nds.length : Int) t) (.int 0 tn) [] 0, p.1 = y := by
        simp only [List.mem_cons, List.not_mem_nil, or_false] at hy
        rcases hy with rfl | rfl | rfl
        · exact ⟨_, .head _, rfl⟩
        · exact ⟨_, .tail _ (.head _), rfl⟩
        · exact ⟨_, mt2 (.head _), rfl⟩
      obtain ⟨p, hp, rfl⟩ := hy3
      rcases hne4 p (mt2 (.tail _ (List.mem_append.mpr (.inl hp)))) with q | q
      · exact hy2 q
      · exact q z (List.mem_append.mpr (.inr hz)) e.symm
    have hsep2 : ∀ y ∈ P :: dP :: D :: (ndL (⟨x, d, l, t, tn⟩ :: nds)).map (·.1), ∀ q ∈ own, @Ne Nat y q.1 := new_sep hsep fun y hy q hq => new3 y hy q (.tail _ hq)
    have offI2 : ∀ y ∈ P :: dP :: D :: (ndL (⟨x, d, l, t, tn⟩ :: nds)).map (·.1), @Ne Nat y I := new_off offI fun y hy => new3 y hy _ (.head _)
    walk_at "k_callI"
    refine hN _ ?_
    refine AtI.intro F4 N4 [("edges", _), ("plan", _)] (((P : Addr), instObj 151 dP) :: ((dP : Addr), ownE w D h1 h2 h3 h4 tpo tfi) :: ((D : Addr), oD') :: (ndL (⟨x, d, l, t, tn⟩ :: nds) ++ own)) (by exact ⟨rfl, rfl, trivial⟩) (List.mem_append.mpr (.inr (.head _))) plan_out (fun p hp => ?_) ?_
    · rcases List.mem_append.mp (show p ∈ (((P : Addr), instObj 151 dP) :: ((dP : Addr), ownE w D h1 h2 h3 h4 tpo tfi) :: ((D : Addr), oD') :: ndL (⟨x, d, l, t, tn⟩ :: nds)) ++ own from hp) with hp | hp
      · exact offI2 _ (List.mem_map_of_mem (f := (·.1)) hp)
      · exact Nat.ne_of_lt (heI p hp)
    · exact .mk (nds := ⟨x, d, l, t, tn⟩ :: nds) rfl (by rw [← kvN_store nds ⟨x, d, l, t, tn⟩]; exact hD') hnd2 hsep2
  · rintro ps₁ u news₁ h tk ⟨hn4, hd1, hnd, hsep⟩ F1 N1
    rename_i oD h1 h2 h3 h4 tpo tfi nds
    (try dsimp only [kstB] at F1)
    clear F0 N0 N9
    match nds, hn4, hd1, hnd, hsep, N1 with
    | [n3, n2, n1, n0], _, hd1, hnd, hsep, N1 =>
      obtain ⟨A, hA⟩ : ∃ A : SA, A = saOf P dP D n0 n1 n2 n3 h1 h2 h3 h4 oD := ⟨_, rfl⟩
      obtain ⟨V0, hV⟩ : ∃ V : SV, V = svOf n0 n1 n2 n3 tpo tfi := ⟨_, rfl⟩
      have hAo : (adrN A).Nodup := by subst hA; exact sa_nodup hnd
      have hAd : A.Dict w := by
        subst hA
        exact ⟨hd1, lo9⟩
      have hAP : A.P = P := by subst hA; rfl
      have hsepA : ∀ y ∈ adrN A, ∀ q ∈ own, @Ne Nat y q.1 := by subst hA; exact fun y hy => hsep y (sa_adr y hy)
      have N2 : News _ _ _ (sorM w A V0 (cntF (edgF [])) ++ own) := news_sub N1 (by subst hA; subst hV; exact sa_mem)
      have hs0 : V0.s = fun _ => [] := by subst hV; rfl
      clear N1 hsep hnd hd1 hA hV
      rename Fr _ _ _ _ => F3
      walk_at "k_to"
      refine for_listS (PlJ w e A tl own) [("edges", _), ("plan", _)] rfl F3 N2 (List.mem_append.mpr (.inr heo)) rfl rfl (by exact ⟨rfl, congrArg (fun z => some (Value.ref z)) hAP.symm, trivial⟩)
        (by exact .mk (pre := []) rfl (fun i hi => by rw [hs0]; exact .nil)) (by rintro r ps n ⟨⟩; exact List.mem_append.mpr (.inr heo)) ?_ ?_ (by passes_own) ?_
      · rintro I v r ps₁ u news₁ it h tk Pp hI hit hJ F1 N1 hN - - -
        clear F3 N2
        obtain ⟨x, pre, post, V, htl, rfl, rfl, rfl, rfl, hs⟩ := hJ.cons
        (try dsimp only [kstB] at F1)
        have hxm : x ∈ tl := by rw [htl]; exact List.mem_append.mpr (.inr (.head _))
        have hIA : ∀ y ∈ adrN A, @LT.lt Nat _ y I := fun y hy => by
          obtain ⟨p, hp, rfl⟩ := List.mem_map.mp (show y ∈ (sorM w A V0 (cntF (edgF []))).map (·.1) from hy)
          exact hI p (List.mem_append.mpr (.inl hp))
        have hIo : ∀ q ∈ own, @LT.lt Nat _ q.1 I := fun q hq => hI q (List.mem_append.mpr (.inr hq))
        clear hI
        have hlen : pre.length + 1 ≤ 4 := by
          have := congrArg List.length htl
          rw [List.length_append, List.length_cons] at this
          omega
        have N2 := news_sub N1 (news := (x.T, tupO x) :: (I, it) :: (sorM w A V (cntF (edgF pre)) ++ own)) (fun p hp => by
          rcases List.mem_cons.mp hp with rfl | hp
          · exact .tail _ (List.mem_append.mpr (.inr (by rw [← hrl]; exact .tail _ (List.mem_map_of_mem (f := fun x : TE => ((x.T : Addr), tupO x)) hxm))))
          · exact hp)
        clear N1
        walk_at "k_callI"
        rename Fr _ _ _ _ => F3
        rename News _ _ _ _ => N3
        have cl := cntF_le (edgF pre) x.a
        have sl := sucF_le (edgF pre) x.b
        rw [edgF_len] at cl sl
        have hrx := hr x hxm
        refine' use_con (newsC := sorM w A V (cntF (edgF pre))) (rest := (I, it) :: own) (add_con w mean mg mb A hAo hAd V (cntF (edgF pre)) x.a x.b _ _ hrx.1 hrx.2.1 (sucF (edgF pre)) hs (by omega) (by omega)) (by k_asm) F3 (by k_asm) (news_sub N3 ?sb) (by k_asm) rfl (by first | assumption | rfl) rfl (Nat.le_of_ble_eq_true rfl) (Nat.le_of_ble_eq_true rfl) rfl ?hr ?_
        case sb => exact (fun p hp => .tail _ (mem_perm3 p hp))
        case hr => exact (by
          intro p hp hx
          rw [sorM_adr] at hx
          rcases List.mem_cons.mp hp with rfl | hp
          · exact absurd (hIA _ hx) (Nat.lt_irrefl _)
          · exact hsepA _ hx p hp rfl)
        rintro r news' h' tk' F4 N4 - ⟨V', rfl, rfl, -, -, hs'⟩
        clear F3 N3
        walk_at "k_callI"
        refine hN _ ?_
        rw [cnt_add] at N4
        refine AtI.intro F4 N4 [("edges", _), ("plan", _)] (sorM w A V' (cntF (edgF (pre ++ [x]))) ++ own) (by exact ⟨rfl, rfl, trivial⟩) (List.mem_append.mpr (.inr (.head _))) mem_perm4 (fun p hp => ?_) (.mk (pre := pre ++ [x]) (by rw [htl]; simp) (fun i hi => by rw [← suc_add]; exact hs' i hi))
        rcases List.mem_append.mp hp with hp | hp
        · exact Nat.ne_of_lt (hIA _ (List.mem_map_of_mem (f := (·.1)) hp))
        · exact Nat.ne_of_lt (hIo p hp)
      · rintro ps₁ u news₁ h tk hJ F1 N1
        obtain ⟨V, rfl, rfl, hs⟩ := hJ.nil
        clear F3 N2
        (try dsimp only [kstB] at F1)
        repeat' (first | ((fail_if_success (with_reducible show wpAny _ _ (call (Value.ref _) _) _ _ _)); first | (k_unfold; (try dsimp only)) | walk1) | (dsimp only; (fail_if_success (with_reducible show wpAny _ _ (call (Value.ref _) _) _ _ _)); walk1) | fail "no step")
        rename Fr _ _ _ _ => F3
        rename News _ _ _ _ => N3
        rename BaseOk _ _ _ _ _ => hB9
        refine' use_conE (newsC := sorM w A V (cntF (edgF tl))) (rest := own) (prep_con w mean mg mb A hAo hAd V (cntF (edgF tl)) _ (suc4_at (edgF tl) hs) (suc_few tl hle fun x hx => (hr x hx).2.1) (suc_rng tl fun x hx => (hr x hx).1)) ?B3 F3 ?X3 (news_sub N3 fun p hp => List.mem_append.mpr (.inl hp)) (news_sub N3 fun p hp => List.mem_append.mpr (.inr hp)) ?T3 hB9.inn hB9.top ?D3 rfl (by first | assumption | rfl) rfl (Nat.le_of_ble_eq_true rfl) (Nat.le_of_ble_eq_true rfl) (fun p hp hx => hsepA _ (sorM_adr ▸ hx) p hp rfl) ?_ ?_
        case B3 => assumption
        case X3 => assumption
        case T3 => assumption
        case D3 => assumption
        · rintro r news' h' tk' g5 G5 F5 N5 fr5 ⟨Rn, ys, kr, rfl, rfl, hO, hys, dn, hd1, hd2⟩
          clear F3 N3
          have B5 := G5.below
          have X5 := G5.inn
          have T5 := G5.top
          have D5 := G5.dicts
          have hsep2 : ∀ p ∈ sorN w (A.setR Rn) (V.setR ys kr) (cntF (edgF tl)), ∀ q ∈ own, @Ne Nat p.1 q.1 := fun p hp q hq => by
            rcases fr5 p hp with y | y
            · exact hsepA _ (sorM_adr ▸ y) q hq
            · exact fun z => y q hq z.symm
          repeat' (first | ((fail_if_success (with_reducible show wpAny _ _ (newTuple _) _ _ _)); first | (k_unfold; (try dsimp only)) | walk1) | (dsimp only; (fail_if_success (with_reducible show wpAny _ _ (newTuple _) _ _ _)); walk1) | fail "no step")
          k_dflt (refine' kup_newTuple ?Ft ?Nt ?_ (Nat.le_of_ble_eq_true rfl); (case Ft => k_asm); (case Nt => k_asm))
          intro T h8 F8 N8 hlt8
          walk_at "k_run"
          walk_at "c_doneS"
          subst hrl
          exact ⟨T, A.setR Rn, V.setR ys kr, false, rfl, rfl, ⟨hO, ⟨hAd.d, hAd.lo⟩, hs, hys⟩, ⟨fun p hp => hlt8 p (List.mem_append.mpr (.inl hp))⟩, hsep2, ⟨fun p hp => hlt8 p (List.mem_append.mpr (.inr hp))⟩, .inl ⟨rfl, dn, hd1, hd2⟩⟩
        · rintro ex t vs newsE h' tk' G g5 G5 F5 R5 U5 fr5 ⟨Rn, ys, kr, rfl, hO, hys, hcyc⟩
          clear F3 N3
          have B5 := G5.below
          have X5 := G5.inn
          have T5 := G5.top
          have D5 := G5.dicts
          have hsep2 : ∀ p ∈ sorN w (A.setR Rn) (V.setR ys kr) (cntF (edgF tl)), ∀ q ∈ own, @Ne Nat p.1 q.1 := fun p hp q hq => by
            rcases fr5 p hp with y | y
            · exact hsepA _ (sorM_adr ▸ y) q hq
            · exact fun z => y q hq z.symm
          have XB9 := hB9.inn
          have TB9 := hB9.top
          have T9 := G5.turn
          refine' caught_SO0 ?R ?F ?K ?U ?XB ?TB ?D ?T0 ?ex ?q ?_
          case R => exact R5
          case F => exact F5
          case K => exact B5
          case U => exact U5
          case XB => exact XB9
          case TB => exact TB9
          case D => exact D5
          case T0 => exact T9
          case ex => k_is
          case q => kts_isx
          k_whole
          intro h6 g6 n6 T6 F6 N6 G6 N7 K6 X6 P6 D6
          repeat' (first | ((fail_if_success (with_reducible show wpAny _ _ (newTuple _) _ _ _)); first | (k_unfold; (try dsimp only)) | walk1) | (dsimp only; (fail_if_success (with_reducible show wpAny _ _ (newTuple _) _ _ _)); walk1) | fail "no step")
          k_dflt (refine' kup_newTuple ?Ft ?Nt ?_ (Nat.le_of_ble_eq_true rfl); (case Ft => k_asm); (case Nt => k_asm))
          intro T h8 F8 N8 hlt8
          walk_at "k_run"
          clear G5
          have G9 := Gr.mk T6 K6 X6 P6 D6
          walk_at "c_doneS"
          subst hrl
          exact ⟨T, A.setR Rn, V.setR ys kr, true, rfl, rfl, ⟨hO, ⟨hAd.d, hAd.lo⟩, hs, hys⟩, ⟨fun p hp => hlt8 p (List.mem_append.mpr (.inl hp))⟩, hsep2, ⟨fun p hp => hlt8 p (List.mem_append.mpr (.inr hp))⟩, .inr ⟨rfl, hcyc⟩⟩
      · walk_at "k_run"
        assumption
theorem all (p : Dat) : ok p := drink _ ok (by with_unfolding_all exact core) p
end S_plan_con
theorem plan_con (w : World) (mean) (mg mb) (e : Addr) (tl : List TE) (ke : Nat) (hle : tl.length ≤ 4) (hr : ∀ x ∈ tl, (0 ≤ x.a ∧ x.a ≤ 3) ∧ (0 ≤ x.b ∧ x.b ≤ 3) ∧ x.a ≠ x.b) : ConS w mean mg mb 380 1300 169 [.ref e] ((e, W.listOf (List.toArray (tupV tl)) ke) :: tupL tl)
      (PlanR w (edgF tl) ((e, W.listOf (List.toArray (tupV tl)) ke) :: tupL tl)) :=
  fun gdₛ cnₛ csₛ Lₛ aₛ ccdₛ clₛ outerₛ A₀ₛ baseₛ h₀ₛ mₛ sₛ RRₛ => S_plan_con.all (w, mean, mg, mb, e, tl, ke, gdₛ, cnₛ, csₛ, Lₛ, aₛ, ccdₛ, clₛ, outerₛ, A₀ₛ, baseₛ, h₀ₛ, mₛ, sₛ, RRₛ) hle hr
theorem at_SorW : True := by
  w_top off
  exact trivial
noncomputable def suq (E : List (Int × Int)) : Int → List Int := s4 (sucF E 0) (sucF E 1) (sucF E 2) (sucF E 3)
noncomputable def nq (n : Int → Int) : Int → Int := q4 (n 0) (n 1) (n 2) (n 3)
theorem sorN_nq {w : World} {A : SA} {V : SV} {n : Int → Int} : sorN w A V n = sorN w A V (nq n) := rfl
theorem sorN_in {w : World} {A : SA} {V V' : SV} {n n' : Int → Int} {p : Addr × Obj} (h : p ∈ sorN w A V n) : p.1 ∈ (sorN w A V' n').map (·.1) := by
  rw [sorN_adr, ← sorN_adr (w := w) (V := V) (n := n)]
  exact List.mem_map_of_mem h
theorem sorN_P {w : World} {A : SA} {V : SV} {n : Int → Int} : ((A.P : Addr), instObj 151 A.dP) ∈ sorN w A V n := .tail _ (.head _)
theorem ready_w (w : World) (mean) (mg mb) (A : SA) (V : SV) (E : List (Int × Int)) (n : Int → Int) (nr : List Int) (ok : SorOk w A V E nr) (hlen : nr.length ≤ 4) (hin : ∀ x ∈ nr, 0 ≤ x ∧ x ≤ 3) :
    Con w mean mg mb 420 1700 113 [.ref A.P] (sorN w A V n)
      (fun r news' => ∃ (T : Nat) (V' : SV), r = .ref T ∧ news' = ((T : Addr), ({ cls := .type "tuple", data := .seq V.rd.toArray } : Obj)) :: sorN w A V' (nr.foldl outF (nq n)) ∧ SorOk w A V' E []) := by
  rw [sorN_nq]
  refine Con.mono (ready_con w mean mg mb A ok.ok ok.dict V (nq n) nr ok.rd hlen hin) ?_
  rintro r news' ⟨T, V', rfl, rfl, hs, hr⟩
  exact ⟨T, V', rfl, rfl, ok.ok, ok.dict, by rw [hs]; exact ok.g, by rw [hr]; exact .nil⟩
theorem done_w (w : World) (mean) (mg mb) (A : SA) (V : SV) (E : List (Int × Int)) (n : Int → Int) (nr : List Int) (ok : SorOk w A V E nr) (vs : List Value) (ns : List Int) (hv : IntsAre vs ns) (hvl : ns.length ≤ 4)
    (hd : DoneAt (nq n, nr) (suq E) ns ns [] (nq n) nr) :
    Con w mean mg mb 420 1700 134 (.ref A.P :: vs) (sorN w A V n)
      (fun r news' => ∃ (V' : SV), r = .none ∧ news' = sorN w A V' (ns.foldl (doneF (suq E)) (nq n, nr)).1 ∧ SorOk w A V' E (ns.foldl (doneF (suq E)) (nq n, nr)).2) := by
  rw [sorN_nq]
  refine Con.mono (done_con w mean mg mb A ok.ok ok.dict V (nq n) nr ok.rd vs ns hv hvl (suq E) (suc4_at E ok.g) hd) ?_
  rintro r news' ⟨V', rfl, rfl, hs, hr⟩
  exact ⟨V', rfl, rfl, ok.ok, ok.dict, by rw [hs]; exact ok.g, hr⟩
theorem sep_rest {newsC news' rest all : List (Addr × Obj)} (hs : all = newsC ++ rest) (hr : ∀ p ∈ rest, p.1 ∉ newsC.map (·.1)) (hne : ∀ p ∈ news', p.1 ∈ newsC.map (·.1) ∨ ∀ q ∈ all, q.1 ≠ p.1) : ∀ p ∈ news', ∀ q ∈ rest, p.1 ≠ q.1 := by
  intro p hp q hq e
  rcases hne p hp with h | h
  · exact hr q hq (e ▸ h)
  · exact h q (hs ▸ List.mem_append.mpr (.inr hq)) e.symm
theorem at_PureS : True := by
  w_top off
  exact trivial
noncomputable abbrev In3 (t : Int) : Prop := 0 ≤ t ∧ t ≤ 3
structure EOk (E : List (Int × Int)) : Prop where
  rng : ∀ e ∈ E, In3 e.1 ∧ In3 e.2 ∧ e.1 ≠ e.2
  few : E.length ≤ 4
noncomputable def cntL (E : List (Int × Int)) (D : List Int) (t : Int) : Nat := E.countP fun e => e.1 == t && !decide (e.2 ∈ D)
theorem cntL_nil (E : List (Int × Int)) (t : Int) : ((cntL E [] t : Nat) : Int) = cntF E t := by
  unfold cntL cntF
  rw [List.countP_eq_length_filter]
  congr 2
  apply List.filter_congr
  intro e _
  simp
theorem cntL_zero {E : List (Int × Int)} {D : List Int} {t : Int} : cntL E D t = 0 ↔ ∀ a, (t, a) ∈ E → a ∈ D := by
  unfold cntL
  rw [List.countP_eq_zero]
  constructor
  · intro h a ha
    have := h (t, a) ha
    simpa using this
  · rintro h ⟨x, a⟩ hx q
    simp only [Bool.and_eq_true, beq_iff_eq, Bool.not_eq_true', decide_eq_false_iff_not] at q
    obtain ⟨rfl, q⟩ := q
    exact q (h a hx)
theorem sucF_cons (e : Int × Int) (E : List (Int × Int)) (a : Int) : sucF (e :: E) a = if e.2 = a then e.1 :: sucF E a else sucF E a := by
  unfold sucF
  by_cases h : e.2 = a
  · simp [h]
  · simp [h]
theorem cntL_done {E : List (Int × Int)} {D : List Int} {x t : Int} (hx : x ∉ D) : cntL E D t = cntL E (x :: D) t + (sucF E x).count t := by
  induction E with
  | nil => rfl
  | cons e E ih =>
    have e1 : cntL (e :: E) D t = cntL E D t + (if e.1 = t ∧ e.2 ∉ D then 1 else 0) := by
      unfold cntL
      rw [List.countP_cons]
      congr 1
      by_cases h1 : e.1 = t <;> by_cases h2 : e.2 ∈ D <;> simp [h1, h2]
    have e2 : cntL (e :: E) (x :: D) t = cntL E (x :: D) t + (if e.1 = t ∧ e.2 ∉ D ∧ e.2 ≠ x then 1 else 0) := by
      unfold cntL
      rw [List.countP_cons]
      congr 1
      by_cases h1 : e.1 = t <;> by_cases h2 : e.2 ∈ D <;> by_cases h3 : e.2 = x <;> simp [h1, h2, h3]
    rw [e1, e2, ih, sucF_cons]
    by_cases h1 : e.1 = t <;> by_cases h3 : e.2 = x
    · subst h1 h3; simp [hx]; omega
    · subst h1; by_cases h2 : e.2 ∈ D <;> simp [h2, h3] <;> omega
    · subst h3
      rw [if_neg (fun q => h1 q.1), if_neg (fun q => h1 q.1), if_pos rfl, List.count_cons_of_ne h1]; omega
    · simp [h1, h3]
theorem step_fold : ∀ (l : List Int) (f : Int → Int) (r : List Int), (∀ t ∈ l, (l.count t : Int) ≤ f t) → r.Nodup → (∀ t ∈ l, t ∉ r) →
    (∀ t, (l.foldl stepF (f, r)).1 t = f t - (l.count t : Int)) ∧ (l.foldl stepF (f, r)).2.Nodup ∧ ∀ t, t ∈ (l.foldl stepF (f, r)).2 ↔ t ∈ r ∨ (t ∈ l ∧ f t = (l.count t : Int))
  | [], f, r, _, hr, _ => ⟨fun t => by simp, hr, fun t => by simp⟩
  | s :: l, f, r, hc, hr, hn => by
    have hcs : ((l.count s : Nat) : Int) + 1 ≤ f s := by
      have := hc s (.head _)
      rw [List.count_cons_self] at this
      omega
    have h1 : ∀ t ∈ l, (l.count t : Int) ≤ (upd f s (f s - 1)) t := fun t ht => by
      by_cases e : t = s
      · subst e
        simp only [upd, if_true]; omega
      · have := hc t (.tail _ ht)
        rw [List.count_cons_of_ne (fun q => e q.symm)] at this
        simpa [upd, e] using this
    have pos : ∀ t ∈ l, 1 ≤ l.count t := fun t ht => List.count_pos_iff.mpr ht
    have key : ∀ r1 : List Int, r1 = (if f s - 1 = 0 then r ++ [s] else r) → r1.Nodup ∧ (∀ t ∈ l, t ∉ r1) ∧ ∀ t, t ∈ r1 ↔ t ∈ r ∨ (t = s ∧ f s - 1 = 0) := by
      intro r1 e
      by_cases h : f s - 1 = 0
      · rw [if_pos h] at e
        subst e
        refine ⟨List.nodup_append.mpr ⟨hr, by simp, fun a ha b hb q => ?_⟩, fun t ht q => ?_, fun t => ?_⟩
        · rw [List.mem_singleton.mp hb] at q; subst q; exact hn _ (.head _) ha
        · rcases List.mem_append.mp q with q | q
          · exact hn t (.tail _ ht) q
          · rw [List.mem_singleton.mp q] at ht
            have := pos s ht
            omega
        · rw [List.mem_append, List.mem_singleton]; simp [h]
      · rw [if_neg h] at e
        subst e
        exact ⟨hr, fun t ht => hn t (.tail _ ht), fun t => by simp [h]⟩
    obtain ⟨k1, k2, k3⟩ := key _ rfl
    obtain ⟨a1, a2, a3⟩ := step_fold l (upd f s (f s - 1)) _ h1 k1 k2
    rw [List.foldl_cons, show stepF (f, r) s = (upd f s (f s - 1), if f s - 1 = 0 then r ++ [s] else r) from rfl]
    refine ⟨fun t => ?_, a2, fun t => ?_⟩
    · rw [a1 t]
      by_cases e : t = s
      · subst e; simp only [upd, if_true, List.count_cons_self]; omega
      · rw [List.count_cons_of_ne (fun q => e q.symm)]; simp [upd, e]
    · rw [a3 t, k3 t]
      by_cases e : t = s
      · subst e
        simp only [upd, if_true, List.count_cons_self, List.mem_cons, true_or, true_and]
        constructor
        · rintro ((q | q) | ⟨q1, q2⟩)
          · exact .inl q
          · right
            by_cases ht : t ∈ l
            · have := pos t ht; omega
            · rw [List.count_eq_zero.mpr ht]; omega
          · right; omega
        · rintro (q | q)
          · exact .inl (.inl q)
          · by_cases ht : t ∈ l
            · right; exact ⟨ht, by omega⟩
            · rw [List.count_eq_zero.mpr ht] at q; left; right; omega
      · rw [List.count_cons_of_ne (fun q => e q.symm)]; simp [upd, e]
theorem suq_at {E : List (Int × Int)} {x : Int} (hx : In3 x) : suq E x = sucF E x := by
  rcases int_zero_to_three hx with rfl | rfl | rfl | rfl <;> rfl
theorem nq_at {n : Int → Int} {x : Int} (hx : In3 x) : nq n x = n x := by
  rcases int_zero_to_three hx with rfl | rfl | rfl | rfl <;> rfl
structure Inv (E : List (Int × Int)) (D : List Int) (n : Int → Int) (nr : List Int) : Prop where
  nod : nr.Nodup
  rng : ∀ t ∈ nr, In3 t
  st : ∀ t, In3 t → (t ∈ D ∧ n t = -2 ∧ t ∉ nr) ∨ (t ∉ D ∧ cntL E D t = 0 ∧ n t = -1 ∧ t ∉ nr) ∨ (t ∉ D ∧ cntL E D t = 0 ∧ n t = 0 ∧ t ∈ nr) ∨ (t ∉ D ∧ 0 < cntL E D t ∧ n t = (cntL E D t : Int) ∧ t ∉ nr)
  cl : ∀ t ∈ D, In3 t ∧ ∀ a, (t, a) ∈ E → a ∈ D
theorem mem_rdF {n0 n1 n2 n3 t : Int} : t ∈ rdF n0 n1 n2 n3 ↔ In3 t ∧ q4 n0 n1 n2 n3 t = 0 := by
  unfold rdF
  rw [List.mem_map]
  constructor
  · rintro ⟨i, hi, rfl⟩
    rw [List.mem_filter, List.mem_range, decide_eq_true_eq] at hi
    exact ⟨⟨by omega, by omega⟩, hi.2⟩
  · rintro ⟨⟨h1, h2⟩, h3⟩
    obtain ⟨i, rfl⟩ := Int.eq_ofNat_of_zero_le h1
    exact ⟨i, List.mem_filter.mpr ⟨List.mem_range.mpr (by omega), decide_eq_true h3⟩, rfl⟩
theorem rdF_nodup {n0 n1 n2 n3 : Int} : (rdF n0 n1 n2 n3).Nodup := by
  unfold rdF
  rw [List.Nodup, List.pairwise_map]
  exact ((List.nodup_range).filter _).imp (by intro a b h q; exact h (by omega))
theorem Inv.init (E : List (Int × Int)) : Inv E [] (cntF E) (rdF (cntF E 0) (cntF E 1) (cntF E 2) (cntF E 3)) := by
  refine ⟨rdF_nodup, fun t ht => (mem_rdF.mp ht).1, fun t ht => ?_, (fun t h => nomatch h)⟩
  have e : q4 (cntF E 0) (cntF E 1) (cntF E 2) (cntF E 3) t = cntF E t := nq_at ht
  have c := cntL_nil E t
  by_cases h : cntF E t = 0
  · exact .inr (.inr (.inl ⟨by simp, by omega, h, mem_rdF.mpr ⟨ht, e.trans h⟩⟩))
  · refine .inr (.inr (.inr ⟨by simp, by omega, c.symm, fun q => h ?_⟩))
    rw [← e]; exact (mem_rdF.mp q).2
theorem out_fold : ∀ (l : List Int) (f : Int → Int) (t : Int), (l.foldl outF f) t = if t ∈ l then -1 else f t
  | [], f, t => by simp
  | s :: l, f, t => by
    rw [List.foldl_cons, out_fold l]
    by_cases h : t ∈ l
    · simp [h]
    · by_cases e : t = s
      · subst e; simp [h, outF, upd]
      · simp [h, e, outF, upd]
theorem Inv.ready {E : List (Int × Int)} {D : List Int} {n : Int → Int} {nr : List Int} (h : Inv E D n nr) : Inv E D (nr.foldl outF (nq n)) [] := by
  refine ⟨List.nodup_nil, (fun t q => nomatch q), fun t ht => ?_, h.cl⟩
  rw [out_fold, nq_at ht]
  rcases h.st t ht with ⟨a, b, c⟩ | ⟨a, b, c, d⟩ | ⟨a, b, c, d⟩ | ⟨a, b, c, d⟩
  · exact .inl ⟨a, by rw [if_neg c]; exact b, by simp⟩
  · exact .inr (.inl ⟨a, b, by rw [if_neg d]; exact c, by simp⟩)
  · exact .inr (.inl ⟨a, b, by rw [if_pos d], by simp⟩)
  · exact .inr (.inr (.inr ⟨a, b, by rw [if_neg d]; exact c, by simp⟩))
noncomputable def OutI (D : List Int) (n : Int → Int) (t : Int) : Prop := In3 t ∧ t ∉ D ∧ n t = -1
theorem Inv.done {E : List (Int × Int)} {D : List Int} {n : Int → Int} {nr : List Int} {x : Int} (eo : EOk E) (h : Inv E D n nr) (hx : OutI D n x) :
    Inv E (x :: D) (doneF (suq E) (n, nr) x).1 (doneF (suq E) (n, nr) x).2 ∧ (∀ t, OutI (x :: D) (doneF (suq E) (n, nr) x).1 t ↔ t ≠ x ∧ OutI D n t) ∧ ∀ s ∈ suq E x, In3 s ∧ n s ≠ -1 := by
  obtain ⟨hx3, hxD, hxn⟩ := hx
  have hsx : suq E x = sucF E x := suq_at hx3
  have hs : ∀ s ∈ sucF E x, In3 s ∧ s ≠ x ∧ s ∉ D ∧ 0 < cntL E D s ∧ n s = (cntL E D s : Int) ∧ s ∉ nr := by
    intro s hs
    have he := sucF_mem.mp hs
    obtain ⟨e1, e2, e3⟩ := eo.rng _ he
    have hsD : s ∉ D := fun q => hxD ((h.cl s q).2 x he)
    have hc : cntL E D s ≠ 0 := fun q => hxD (cntL_zero.mp q x he)
    rcases h.st s e1 with ⟨a, b, c⟩ | ⟨a, b, c, d⟩ | ⟨a, b, c, d⟩ | ⟨a, b, c, d⟩
    · exact absurd a hsD
    · exact absurd b hc
    · exact absurd b hc
    · exact ⟨e1, e3, hsD, b, c, d⟩
  have hcnt : ∀ t, cntL E D t = cntL E (x :: D) t + (sucF E x).count t := fun t => cntL_done hxD
  have hfx : ∀ t, t ≠ x → upd n x (-2) t = n t := fun t e => by simp [upd, e]
  obtain ⟨a1, a2, a3⟩ := step_fold (sucF E x) (upd n x (-2)) nr (fun t ht => by
    obtain ⟨_, e2, _, _, e5, _⟩ := hs t ht
    rw [hfx t e2, e5]
    have := hcnt t
    omega) h.nod (fun t ht => (hs t ht).2.2.2.2.2)
  have hd : doneF (suq E) (n, nr) x = (sucF E x).foldl stepF (upd n x (-2), nr) := by
    show (suq E x).foldl stepF (upd n x (-2), nr) = _
    rw [hsx]
  rw [hd, hsx]
  have hcx : (sucF E x).count x = 0 := List.count_eq_zero.mpr fun q => (hs x q).2.1 rfl
  have nx : x ∉ nr := by
    rcases h.st x hx3 with ⟨a, b, c⟩ | ⟨a, b, c, d⟩ | ⟨a, b, c, d⟩ | ⟨a, b, c, d⟩
    · exact c
    · exact d
    · omega
    · exact d
  refine ⟨⟨a2, fun t ht => ?_, fun t ht => ?_, fun t ht => ?_⟩, fun t => ?_, fun s q => ⟨(hs s q).1, by have := (hs s q); omega⟩⟩
  · rcases (a3 t).mp ht with q | q
    · exact h.rng t q
    · exact (hs t q.1).1
  · rw [a1 t]
    by_cases e : t = x
    · subst e
      refine .inl ⟨.head _, by rw [hcx]; simp [upd], fun q => ?_⟩
      rcases (a3 t).mp q with q | q
      · exact nx q
      · exact (hs t q.1).2.1 rfl
    · rw [hfx t e]
      have hc := hcnt t
      have memD : t ∈ x :: D ↔ t ∈ D := by simp [e]
      rw [memD]
      by_cases hl : t ∈ sucF E x
      · obtain ⟨_, _, q3, q4, q5, q6⟩ := hs t hl
        have hp : 1 ≤ (sucF E x).count t := List.count_pos_iff.mpr hl
        by_cases hz : cntL E (x :: D) t = 0
        · exact .inr (.inr (.inl ⟨q3, hz, by omega, (a3 t).mpr (.inr ⟨hl, by rw [hfx t e]; omega⟩)⟩))
        · refine .inr (.inr (.inr ⟨q3, by omega, by omega, fun q => ?_⟩))
          rcases (a3 t).mp q with q | ⟨_, q⟩
          · exact q6 q
          · rw [hfx t e] at q; omega
      · have hc0 : (sucF E x).count t = 0 := List.count_eq_zero.mpr hl
        have hm : t ∈ (List.foldl stepF (upd n x (-2), nr) (sucF E x)).2 ↔ t ∈ nr := by
          rw [a3 t]; simp [hl]
        rw [hm, hc0]
        rcases h.st t ht with ⟨a, b, c⟩ | ⟨a, b, c, d⟩ | ⟨a, b, c, d⟩ | ⟨a, b, c, d⟩
        · exact .inl ⟨a, by omega, c⟩
        · exact .inr (.inl ⟨a, by omega, by omega, d⟩)
        · exact .inr (.inr (.inl ⟨a, by omega, by omega, d⟩))
        · exact .inr (.inr (.inr ⟨a, by omega, by omega, d⟩))
  · rcases List.mem_cons.mp ht with rfl | ht
    · refine ⟨hx3, fun a ha => ?_⟩
      have hz : cntL E D t = 0 := by
        rcases h.st t hx3 with ⟨a, b, c⟩ | ⟨a, b, c, d⟩ | ⟨a, b, c, d⟩ | ⟨a, b, c, d⟩
        · exact absurd a hxD
        · exact b
        · exact b
        · omega
      exact .tail _ (cntL_zero.mp hz a ha)
    · exact ⟨(h.cl t ht).1, fun a ha => .tail _ ((h.cl t ht).2 a ha)⟩
  · unfold OutI
    rw [a1 t]
    by_cases e : t = x
    · subst e; simp
    · rw [hfx t e]
      have memD : t ∉ x :: D ↔ t ∉ D := by simp [e]
      rw [memD]
      constructor
      · rintro ⟨b1, b2, b3⟩
        refine ⟨e, b1, b2, ?_⟩
        by_cases hl : t ∈ sucF E x
        · have := hs t hl
          have := hcnt t
          omega
        · rw [List.count_eq_zero.mpr hl] at b3; omega
      · rintro ⟨_, b1, b2, b3⟩
        refine ⟨b1, b2, ?_⟩
        have hl : t ∉ sucF E x := fun q => by have := (hs t q); omega
        rw [List.count_eq_zero.mpr hl]; omega
theorem at_PureL : True := by
  w_top off
  exact trivial
theorem count_one {a : Int} : ∀ {l : List Int}, l.Nodup → l.count a ≤ 1
  | [], _ => by simp
  | x :: l, h => by
    have h' := List.nodup_cons.mp h
    by_cases e : x = a
    · subst e; rw [List.count_cons_self, List.count_eq_zero.mpr h'.1]; omega
    · rw [List.count_cons_of_ne e]; exact count_one h'.2
theorem len_counts : ∀ {l : List Int}, (∀ x ∈ l, In3 x) → l.length = l.count 0 + l.count 1 + l.count 2 + l.count 3
  | [], _ => rfl
  | x :: l, h => by
    have ih := len_counts (l := l) fun y hy => h y (.tail _ hy)
    rw [List.length_cons, ih]
    simp only [List.count_cons]
    rcases int_zero_to_three (h x (.head _)) with rfl | rfl | rfl | rfl <;> simp <;> omega
theorem nodup_four {l : List Int} (h : l.Nodup) (hr : ∀ x ∈ l, In3 x) : l.length ≤ 4 := by
  rw [len_counts hr]
  have := count_one (a := 0) h
  have := count_one (a := 1) h
  have := count_one (a := 2) h
  have := count_one (a := 3) h
  omega
theorem Inv.nq {E : List (Int × Int)} {D : List Int} {n : Int → Int} {nr : List Int} (h : Inv E D n nr) : Inv E D (nq n) nr :=
  ⟨h.nod, h.rng, fun t ht => by rw [nq_at ht]; exact h.st t ht, h.cl⟩
theorem OutI.nq {D : List Int} {n : Int → Int} {t : Int} : OutI D (nq n) t ↔ OutI D n t := by
  unfold OutI
  constructor
  · rintro ⟨a, b, c⟩; exact ⟨a, b, by rw [nq_at a] at c; exact c⟩
  · rintro ⟨a, b, c⟩; exact ⟨a, b, by rw [nq_at a]; exact c⟩
theorem Inv.doneAt {E : List (Int × Int)} {D : List Int} {n : Int → Int} {nr ns : List Int} (eo : EOk E) (h : Inv E D n nr) (hn : ns.Nodup) (ho : ∀ x ∈ ns, OutI D n x) :
    DoneAt (Mine.nq n, nr) (suq E) ns ns [] (Mine.nq n) nr := by
  refine ⟨rfl, fun y hy => ?_, (fun s q => nomatch q), hn, ?_⟩
  · obtain ⟨_, _, h3⟩ := Inv.done eo h (ho y hy)
    refine ⟨(ho y hy).1, by rw [show Mine.nq n y = n y from nq_at (ho y hy).1]; exact (ho y hy).2.2, fun s hs => ⟨(h3 s hs).1, fun q => (h3 s hs).2 (ho s q).2.2⟩, ?_⟩
    rw [suq_at (ho y hy).1]
    exact Nat.le_trans (sucF_le E y) eo.few
  · have h1 := nodup_four h.nod h.rng
    have h2 := nodup_four hn fun x hx => (ho x hx).1
    simp only [List.length_nil]
    omega
theorem Inv.doneL {E : List (Int × Int)} (eo : EOk E) : ∀ {ns D : List Int} {n : Int → Int} {nr : List Int}, Inv E D n nr → ns.Nodup → (∀ x ∈ ns, OutI D n x) →
    Inv E (ns.reverse ++ D) (ns.foldl (doneF (suq E)) (n, nr)).1 (ns.foldl (doneF (suq E)) (n, nr)).2 ∧ ∀ t, OutI (ns.reverse ++ D) (ns.foldl (doneF (suq E)) (n, nr)).1 t ↔ t ∉ ns ∧ OutI D n t
  | [], D, n, nr, h, _, _ => ⟨h, fun t => by simp⟩
  | x :: ns, D, n, nr, h, hn, ho => by
    obtain ⟨h1, h2, h3⟩ := Inv.done eo h (ho x (.head _))
    have hn' := List.nodup_cons.mp hn
    obtain ⟨k1, k2⟩ := Inv.doneL eo (ns := ns) h1 hn'.2 fun y hy => (h2 y).mpr ⟨fun q => hn'.1 (q ▸ hy), ho y (.tail _ hy)⟩
    have e : (x :: ns).reverse ++ D = ns.reverse ++ (x :: D) := by simp
    rw [e, List.foldl_cons]
    refine ⟨k1, fun t => ?_⟩
    rw [k2 t, h2 t, List.mem_cons, not_or]
    constructor
    · rintro ⟨a, b, c⟩; exact ⟨⟨b, a⟩, c⟩
    · rintro ⟨⟨b, a⟩, c⟩; exact ⟨a, b, c⟩
inductive Run (E : List (Int × Int)) : List Int → Prop where
  | nil : Run E []
  | cons {D : List Int} {x : Int} : Run E D → In3 x → x ∉ D → (∀ a, (x, a) ∈ E → a ∈ D) → Run E (x :: D)
theorem Run.in3 {E : List (Int × Int)} {D : List Int} (h : Run E D) : ∀ x ∈ D, In3 x := by
  induction h with
  | nil => exact fun x q => nomatch q
  | cons _ hx _ _ ih => intro y hy; rcases List.mem_cons.mp hy with rfl | hy; exact hx; exact ih y hy
theorem Run.nodup {E : List (Int × Int)} {D : List Int} (h : Run E D) : D.Nodup := by
  induction h with
  | nil => exact List.nodup_nil
  | cons _ _ hn _ ih => exact List.nodup_cons.mpr ⟨hn, ih⟩
theorem Run.cl {E : List (Int × Int)} {D : List Int} (h : Run E D) : ∀ x ∈ D, ∀ a, (x, a) ∈ E → a ∈ D := by
  induction h with
  | nil => exact fun x q => nomatch q
  | cons _ _ _ hc ih =>
    intro y hy a ha
    rcases List.mem_cons.mp hy with rfl | hy
    · exact .tail _ (hc a ha)
    · exact .tail _ (ih y hy a ha)
structure LedAt (E : List (Int × Int)) (W D : List Int) (n : Int → Int) (st : List Int) : Prop where
  inv : Inv E D n []
  nod : st.Nodup
  mem : ∀ t, t ∈ st ↔ OutI D n t ∧ t ∈ W
  sub : ∀ t ∈ D, t ∈ W
  dn : D.Nodup
theorem LedAt.in3 {E : List (Int × Int)} {W D : List Int} {n : Int → Int} {st : List Int} (h : LedAt E W D n st) : ∀ x ∈ D, In3 x := fun x hx => (h.inv.cl x hx).1
theorem ledInit (E : List (Int × Int)) (W : List Int) : LedAt E W [] ((rdF (cntF E 0) (cntF E 1) (cntF E 2) (cntF E 3)).foldl outF (nq (cntF E))) ((rdF (cntF E 0) (cntF E 1) (cntF E 2) (cntF E 3)).filter fun t => decide (t ∈ W)) := by
  have h := Inv.init E
  refine ⟨h.ready, h.nod.filter _, fun t => ?_, (fun t q => nomatch q), List.nodup_nil⟩
  rw [List.mem_filter, decide_eq_true_eq]
  unfold OutI
  rw [out_fold]
  constructor
  · rintro ⟨a, b⟩; exact ⟨⟨h.rng t a, by simp, by rw [if_pos a]⟩, b⟩
  · rintro ⟨⟨a, _, c⟩, b⟩
    refine ⟨?_, b⟩
    by_cases q : t ∈ rdF (cntF E 0) (cntF E 1) (cntF E 2) (cntF E 3)
    · exact q
    · rw [if_neg q, nq_at a] at c
      have := (cntF_le E t).1
      omega
theorem LedAt.step {E : List (Int × Int)} {W D : List Int} {n : Int → Int} {st : List Int} (eo : EOk E) (h : LedAt E W D n st) :
    LedAt E W (st.reverse ++ D) ((st.foldl (doneF (suq E)) (nq n, [])).2.foldl outF (nq (st.foldl (doneF (suq E)) (nq n, [])).1)) ((st.foldl (doneF (suq E)) (nq n, [])).2.filter fun t => decide (t ∈ W)) := by
  obtain ⟨k1, k2⟩ := Inv.doneL eo (ns := st) h.inv.nq h.nod fun x hx => OutI.nq.mpr ((h.mem x).mp hx).1
  refine ⟨k1.ready, k1.nod.filter _, fun t => ?_, fun t ht => ?_, ?_⟩
  · rw [List.mem_filter, decide_eq_true_eq]
    constructor
    · rintro ⟨a, b⟩
      have h3 := k1.rng t a
      refine ⟨⟨h3, ?_, by rw [out_fold, if_pos a]⟩, b⟩
      rcases k1.st t h3 with ⟨_, _, q⟩ | ⟨_, _, _, q⟩ | ⟨q, _, _, _⟩ | ⟨_, _, _, q⟩
      · exact absurd a q
      · exact absurd a q
      · exact q
      · exact absurd a q
    · rintro ⟨⟨h3, hD, hm⟩, b⟩
      refine ⟨?_, b⟩
      by_cases q : t ∈ (st.foldl (doneF (suq E)) (nq n, [])).2
      · exact q
      · rw [out_fold, if_neg q, nq_at h3] at hm
        obtain ⟨q1, q2⟩ := (k2 t).mp ⟨h3, hD, hm⟩
        exact absurd ((h.mem t).mpr ⟨OutI.nq.mp q2, b⟩) q1
  · rcases List.mem_append.mp ht with q | q
    · exact ((h.mem t).mp (List.mem_reverse.mp q)).2
    · exact h.sub t q
  · refine List.nodup_append.mpr ⟨?_, h.dn, fun a ha b hb e => ?_⟩
    · rw [List.Nodup, List.pairwise_reverse]
      exact h.nod.imp fun q e => q e.symm
    · subst e
      exact ((h.mem a).mp (List.mem_reverse.mp ha)).1.2.1 hb
theorem LedAt.end_ {E : List (Int × Int)} {W D R : List Int} {n : Int → Int} (h : LedAt E W D n []) (hr : Run E R) (hw : ∀ t, t ∈ R ↔ t ∈ W) : ∀ t, t ∈ D ↔ t ∈ W := by
  have key : ∀ {R' : List Int}, Run E R' → (∀ t ∈ R', t ∈ W) → ∀ t ∈ R', t ∈ D := by
    intro R' hr'
    induction hr' with
    | nil => exact fun _ t q => nomatch q
    | cons h1 h2 h3 h4 ih =>
      rename_i D' x
      intro hs t ht
      have ih' := ih fun t ht => hs t (.tail _ ht)
      rcases List.mem_cons.mp ht with rfl | ht
      · by_cases q : t ∈ D
        · exact q
        · exfalso
          have hz : cntL E D t = 0 := cntL_zero.mpr fun a ha => ih' a (h4 a ha)
          rcases h.inv.st t h2 with ⟨a, _⟩ | ⟨a, b, c, d⟩ | ⟨_, _, _, d⟩ | ⟨_, b, _⟩
          · exact q a
          · have := (h.mem t).mpr ⟨⟨h2, a, c⟩, hs t (.head _)⟩
            cases this
          · cases d
          · omega
      · exact ih' t ht
  exact fun t => ⟨h.sub t, fun q => key hr (fun t ht => (hw t).mp ht) t ((hw t).mpr q)⟩
theorem at_StarCall : True := by
  w_top off
  exact trivial
section
variable {M : Model} {A : Around} {E : Value → Shared → Prop} {s : Shared} {env : Env}
theorem MethodCallStar {o : PySem.Expr} {name : Str} {apos pos p : Pos} {e : PySem.Expr} {Q : Value → Shared → Prop}
    (h : wpAny M A (eval o env) (fun ov s₁ => wpAny M A (getAttr ov name true) (fun f s₂ => wpAny M A (callWith pos f [] (backTo pos (starEach [.Starred e p] env)) []) Q E s₂) E s₁) E s)
    (he : eval (.Call (.Attribute o name apos) [.Starred e p] [] pos) env = (do
      let ov ← eval o env
      standAt apos.atName
      let (f, first) ← holding [ov] (do pure (← getAttr ov name true, []))
      callWith pos f first (backTo pos (starEach [.Starred e p] env)) []) := by rfl) :
    wpAny M A (eval (.Call (.Attribute o name apos) [.Starred e p] [] pos) env) Q E s := by
  rw [he]
  refine wpAny_bind (wpAny_mono h (fun ov s₁ h₁ => wpAny_bind (wpAny_standAt (wpAny_bind (wpAny_holding (wpAny_bind (wpAny_mono h₁ (fun f s₂ h₂ => ?_) fun _ _ x => x)))))) fun _ _ x => x)
  exact wpAny_pure h₂
theorem callWith_MS {K : Frag} {q g : Addr} {self : Value} {e : PySem.Expr} {pos p : Pos} {first : List Value} {Q : Value → Shared → Prop} (hf : fnIn K g = true)
    (h : wpAny M A (eval e env) (fun v s₁ => StarOf M A E v (fun vs s₂ => MethP K q g self s₂.heap ∧ wpAny M A (call (.ref q) (first ++ vs)) Q E s₂) s₁) E s)
    (he : starEach [.Starred e p] env = [(true, eval e env)] := by rfl) :
    wpAny M A (callWith pos (.ref q) first (backTo pos (starEach [.Starred e p] env)) []) Q E s := by
  rw [he]
  exact ks_call rfl (keeps_M hf) (ks_lone h)
end
theorem use_conM {w : World} {mean : ExcName → Option Value} {mg mb : Str → Option Value} {dp un : Nat} {f q : Addr} {sv : Value} {vs : List Value} {newsC all rest : List (Addr × Obj)} {R : Value → List (Addr × Obj) → Prop} (C : Con w mean mg mb dp un f (sv :: vs) newsC R)
    {A A₀ : Around} {cn : Str} {cs : Scope} {L a : Addr} {ccd : Value} {cl : List (Str × Addr)} {outer : List Env} {base h₀ : Heap} {m : Str → Option Value} {s : Shared} {Q E : Value → Shared → Prop}
    (B : Below A₀ base outer h₀) (F : Fr h₀ L s.heap m) (X : (hd.heap_1 w.params).In h₀) (N : News h₀ L s.heap all) (T : Top VW LS mean mg mb h₀) (hq : (q, methodObj (.ref f) sv) ∈ all) (hA : A.frames = some (envX cn cs L a ccd cl :: outer)) (hk : cs.kind = .function) (hh : A.handled = none) (hd : A.depth ≤ dp) (hu : A.units ≤ un)
    (hs : all = newsC ++ rest) (hr : ∀ p ∈ rest, p.1 ∉ newsC.map (·.1))
    (h : ∀ r news' h' tk', Fr h₀ L h' m → News h₀ L h' (news' ++ rest) → (∀ p ∈ news', p.1 ∈ newsC.map (·.1) ∨ ∀ q ∈ all, q.1 ≠ p.1) → R r news' → Q r { s with heap := h', toks := tk' }) :
    wpAny (model Challenge.rw_om0134_01.row.prog w) A (call (.ref q) vs) Q E s := by
  have hm := (N _ hq).1
  subst hs
  refine wpAny_call (method_call hm (codeAny_le (A' := ktrTop dp un A.guards cn cs L a ccd cl outer) (C _ _ _ _ _ _ _ _ _ _ _ _ _ _ B F X (fun p hp => N p (List.mem_append.mpr (.inl hp))) T hk fun r n h' tk' l y => ?_) hh hd hA rfl hu))
  refine h r n h' tk' (l.fr F fun p hp => N p (List.mem_append.mpr (.inl hp))) (l.news F (fun p hp => N p (List.mem_append.mpr (.inl hp))) (fun p hp => N p (List.mem_append.mpr (.inr hp))) hr) (fun p hp => ?_) y
  refine (l.new p hp).imp id fun q p' hp' e => ?_
  rw [← e, (N p' hp').1] at q
  cases q
theorem at_Sub : True := by
  w_top off
  k_with_none
  k_with "c_enter" => (refine' enter_def ?k1ₖ₁ ?k2ₖ₁ ?k3ₖ₁ ?k4ₖ₁ ?k5ₖ₁ ?kAₖ₁ ?kFₖ₁ ?kKₖ₁ ?k6ₖ₁ ?k7ₖ₁ ?k8ₖ₁ ?k9ₖ₁ ?kBₖ₁ ?c2ₖ₁ ?c3ₖ₁ ?c4ₖ₁ ?c5ₖ₁ ?_; (case kAₖ₁ => exact rfl); (case kFₖ₁ => exact rfl); (case kKₖ₁ => assumption); (case k1ₖ₁ => k_asm); (case k2ₖ₁ => k_asm); (case k3ₖ₁ => k_asm); (case k4ₖ₁ => k_asm); (case k5ₖ₁ => k_asm); (case k6ₖ₁ => k_is); (case k7ₖ₁ => k_is); (case k8ₖ₁ => exact Nat.le_of_ble_eq_true rfl); (case k9ₖ₁ => exact BindsTo.of_eq rfl); (case c5ₖ₁ => decide); (case kBₖ₁ => exact locs rfl); (case c2ₖ₁ => exact rfl); (case c3ₖ₁ => exact rfl); (case c4ₖ₁ => exact rfl); k_whole; intro g'ₖ L'ₖ h'ₖ FG'ₖ F'ₖ N'ₖ B'ₖ X'ₖ T'ₖ hlt'ₖ hg'ₖ; (try dsimp only); (try k_fold))
  k_with "c_enterC" => (refine' enter_defC ?k1ₖ₂ ?k2ₖ₂ ?k3ₖ₂ ?k4ₖ₂ ?k5ₖ₂ ?kAₖ₂ ?kFₖ₂ ?kKₖ₂ ?k6ₖ₂ ?k7ₖ₂ ?k8ₖ₂ ?k9ₖ₂ ?kBₖ₂ ?kDₖ₂ ?c2ₖ₂ ?c3ₖ₂ ?c4ₖ₂ ?_; (case kAₖ₂ => exact rfl); (case kFₖ₂ => exact rfl); (case kKₖ₂ => assumption); (case k1ₖ₂ => k_asm); (case k2ₖ₂ => k_asm); (case k3ₖ₂ => k_asm); (case k4ₖ₂ => k_asm); (case k5ₖ₂ => k_asm); (case k6ₖ₂ => k_is); (case k7ₖ₂ => k_is); (case k8ₖ₂ => exact Nat.le_of_ble_eq_true rfl); (case k9ₖ₂ => exact BindsTo.of_eq rfl); (case kBₖ₂ => exact rfl); (case kDₖ₂ => decide +kernel); (case c2ₖ₂ => exact rfl); (case c3ₖ₂ => exact rfl); (case c4ₖ₂ => exact rfl); k_whole; intro g'ₖ L'ₖ h'ₖ tk'ₖ cells'ₖ FG'ₖ F'ₖ N'ₖ Y'ₖ B'ₖ X'ₖ T'ₖ l1ₖ hg'ₖ; (try k_lt l1ₖ); k_cells Y'ₖ; (try simp only [List.nil_append, List.cons_append] at N'ₖ); (try dsimp only); (try k_fold))
  k_with "c_startC" => ((first | (unfold Con; intro gdₖ cnₖ csₖ Lₖ aₖ ccdₖ clₖ outerₖ A₀ₖ baseₖ h₀ₖ mₖ sₖ RRₖ Bₖ Fₖ Xₖ Nₖ Tₖ hkₖ hretₖ) | (unfold ConB; intro Bₖ Fₖ Xₖ Nₖ Tₖ hkₖ hretₖ)); revert Xₖ; k_fill; intro Xₖ; k_dflt walk_at "c_enterC")
  k_with "c_start" => ((first | (unfold Con; intro gdₖ cnₖ csₖ Lₖ aₖ ccdₖ clₖ outerₖ A₀ₖ baseₖ h₀ₖ mₖ sₖ RRₖ Bₖ Fₖ Xₖ Nₖ Tₖ hkₖ hretₖ) | (unfold ConB; intro Bₖ Fₖ Xₖ Nₖ Tₖ hkₖ hretₖ)); revert Xₖ; k_fill; intro Xₖ; k_dflt walk_at "c_enter")
  k_with "no_loop" => ((fail_if_success (with_reducible show wpAny _ _ (exec (Stmt.While _ _ _ _) _) _ _ _)); (fail_if_success (with_reducible show wpAny _ _ (exec (Stmt.For _ _ _ _ _) _) _ _ _)); (fail_if_success (with_reducible show wpAny _ _ (pyIter _) (fun _ _ => TurnsAt _ _ _ _ _ _ _ _ _ _ _) _ _)); (fail_if_success (with_reducible show wpAny _ _ (call (Value.type "list") [Value.ref _]) _ _ _)))
  k_with "k_to" => repeat' (first | (walk_at "no_loop"; first | (k_unfold; (try dsimp only)) | walk1) | (dsimp only; walk_at "no_loop"; walk1) | fail "no step")
  k_with "c_done" => ((rename (∀ _ _ _ _, Left _ _ _ _ → _) => hret9ₖ); (rename (∀ _ _, _ → ¬ _ ∈ List.map _ _ → _) => hg9ₖ); k_dflt (refine' hret9ₖ _ _ _ _ (left_of ?F9ₖ₁₀ ?N9ₖ₁₀ hg9ₖ) ?_; (case F9ₖ₁₀ => assumption); (case N9ₖ₁₀ => assumption)))
  k_with "c_done0" => ((rename (∀ _ _ _ _, Left _ _ _ _ → _) => hret9ₖ); (rename (∀ _ _, _ → ¬ _ ∈ List.map _ _ → _) => hg9ₖ); k_dflt (refine' hret9ₖ _ [] _ _ (left_of ?F9ₖ₁₂ news_nil hg9ₖ) ?_; (case F9ₖ₁₂ => assumption)))
  k_with "c_enterS" => (refine' enter_defS ?k1ₖ₁₆ ?k2ₖ₁₆ ?k3ₖ₁₆ ?k4ₖ₁₆ ?k5ₖ₁₆ ?kDₖ₁₆ ?kAₖ₁₆ ?kFₖ₁₆ ?kKₖ₁₆ ?k6ₖ₁₆ ?k7ₖ₁₆ ?k8ₖ₁₆ ?k9ₖ₁₆ ?kBₖ₁₆ ?c2ₖ₁₆ ?c3ₖ₁₆ ?c4ₖ₁₆ ?c5ₖ₁₆ ?_; (case kAₖ₁₆ => exact rfl); (case kFₖ₁₆ => exact rfl); (case kKₖ₁₆ => assumption); (case k1ₖ₁₆ => k_asm); (case k2ₖ₁₆ => k_asm); (case k3ₖ₁₆ => k_asm); (case k4ₖ₁₆ => k_asm); (case k5ₖ₁₆ => k_asm); (case kDₖ₁₆ => assumption); (case k6ₖ₁₆ => k_is); (case k7ₖ₁₆ => k_is); (case k8ₖ₁₆ => exact Nat.le_of_ble_eq_true rfl); (case k9ₖ₁₆ => exact BindsTo.of_eq rfl); (case c5ₖ₁₆ => decide); (case kBₖ₁₆ => exact locs rfl); (case c2ₖ₁₆ => exact rfl); (case c3ₖ₁₆ => exact rfl); (case c4ₖ₁₆ => exact rfl); k_whole; intro g'ₖ L'ₖ h'ₖ F'ₖ N'ₖ B'ₖ X'ₖ T'ₖ D'ₖ hlt'ₖ hg'ₖ; (try dsimp only); (try k_fold))
  k_with "c_doneS" => ((rename (∀ _ _ _ _, LeftS _ _ _ _ _ → _) => hret9ₖ); (rename (∀ _ _, _ → ¬ _ ∈ List.map _ _ → _) => hg9ₖ); (rename (∀ _, _ ∈ _ → ¬ _ ∈ _ :: frs _) => hoff9ₖ); (rename Gr _ _ _ _ _ _ _ _ _ => G9ₖ); k_dflt (refine' hret9ₖ _ _ _ _ (left_ofS ?F9ₖ₁₇ ?N9ₖ₁₇ G9ₖ.turn hg9ₖ hoff9ₖ) ?_; (case F9ₖ₁₇ => assumption); (case N9ₖ₁₇ => assumption)))
  k_with "c_startS" => ((first | (unfold ConS; intro gdₖ cnₖ csₖ Lₖ aₖ ccdₖ clₖ outerₖ A₀ₖ baseₖ h₀ₖ mₖ sₖ RRₖ Bₖ Fₖ Xₖ Nₖ Tₖ hkₖ XBₖ TBₖ Dₖ hretₖ) | (unfold ConSB; intro Bₖ Fₖ Xₖ Nₖ Tₖ hkₖ XBₖ TBₖ Dₖ hretₖ)); have hoffₖ := off_frames Bₖ Nₖ; have hBaseₖ := BaseOk.mk XBₖ TBₖ; clear XBₖ TBₖ; revert Xₖ; k_fill; intro Xₖ; k_dflt walk_at "c_enterS")
  k_with "s_to" => repeat' (first | ((fail_if_success (with_reducible show wpAny _ _ (noteFrame _ _) (fun _ s₂ => wpAny _ _ (setFlight _ none) _ _ _) _ _)); walk_at "no_loop"; first | (k_unfold; (try dsimp only)) | walk1) | (dsimp only; (fail_if_success (with_reducible show wpAny _ _ (noteFrame _ _) (fun _ s₂ => wpAny _ _ (setFlight _ none) _ _ _) _ _)); walk_at "no_loop"; walk1) | fail "no step")
  k_with "c_enterR" => (refine' enter_defR ?k1ₖ₂₈ ?k2ₖ₂₈ ?k3ₖ₂₈ ?k4ₖ₂₈ ?k5ₖ₂₈ ?kAₖ₂₈ ?kFₖ₂₈ ?kKₖ₂₈ ?k6ₖ₂₈ ?k7ₖ₂₈ ?k8ₖ₂₈ ?kVₖ₂₈ ?kPₖ₂₈ ?kBₖ₂₈ ?c2ₖ₂₈ ?c3ₖ₂₈ ?c4ₖ₂₈ ?c5ₖ₂₈ ?_; (case kAₖ₂₈ => exact rfl); (case kFₖ₂₈ => exact rfl); (case kKₖ₂₈ => assumption); (case k1ₖ₂₈ => k_asm); (case k2ₖ₂₈ => k_asm); (case k3ₖ₂₈ => k_asm); (case k4ₖ₂₈ => k_asm); (case k5ₖ₂₈ => k_asm); (case k6ₖ₂₈ => k_is); (case k7ₖ₂₈ => k_is); (case k8ₖ₂₈ => exact Nat.le_of_ble_eq_true rfl); (case kVₖ₂₈ => kl_lit); (case kPₖ₂₈ => exact bind_lit (by k_asm) (by k_asm) rfl (fun _ => rfl)); (case kBₖ₂₈ => exact fun _ => locs rfl); (case c5ₖ₂₈ => decide); (case c2ₖ₂₈ => exact rfl); (case c3ₖ₂₈ => exact rfl); (case c4ₖ₂₈ => exact rfl); k_whole; intro D'ₖ g'ₖ L'ₖ h'ₖ tk'ₖ l1ₖ FG'ₖ F'ₖ N'ₖ B'ₖ X'ₖ T'ₖ hlt'ₖ hg'ₖ; (try k_lt l1ₖ); (try dsimp only); (try k_fold))
  k_with "c_enterV" => (refine' enter_defV ?k1ₖ₂₉ ?k2ₖ₂₉ ?k3ₖ₂₉ ?k4ₖ₂₉ ?k5ₖ₂₉ ?kAₖ₂₉ ?kFₖ₂₉ ?kKₖ₂₉ ?k6ₖ₂₉ ?k7ₖ₂₉ ?k8ₖ₂₉ ?h1ₖ₂₉ ?h2ₖ₂₉ ?h3ₖ₂₉ ?h4ₖ₂₉ ?h5ₖ₂₉ ?hzₖ₂₉ ?kBₖ₂₉ ?c2ₖ₂₉ ?c3ₖ₂₉ ?c4ₖ₂₉ ?c5ₖ₂₉ ?_; (case kAₖ₂₉ => exact rfl); (case kFₖ₂₉ => exact rfl); (case kKₖ₂₉ => assumption); (case k1ₖ₂₉ => k_asm); (case k2ₖ₂₉ => k_asm); (case k3ₖ₂₉ => k_asm); (case k4ₖ₂₉ => k_asm); (case k5ₖ₂₉ => k_asm); (case k6ₖ₂₉ => k_is); (case k7ₖ₂₉ => k_is); (case k8ₖ₂₉ => exact Nat.le_of_ble_eq_true rfl); (case h1ₖ₂₉ => exact rfl); (case h2ₖ₂₉ => exact rfl); (case h3ₖ₂₉ => exact rfl); (case h4ₖ₂₉ => exact rfl); (case h5ₖ₂₉ => exact rfl); (case hzₖ₂₉ => first | omega | ((have hl9ₖ := IntsAre.length (by with_reducible assumption)); omega)); (case kBₖ₂₉ => exact fun _ => locs rfl); (case c5ₖ₂₉ => decide); (case c2ₖ₂₉ => exact rfl); (case c3ₖ₂₉ => exact rfl); (case c4ₖ₂₉ => exact rfl); k_whole; intro D'ₖ g'ₖ L'ₖ h'ₖ tk'ₖ l1ₖ FG'ₖ F'ₖ N'ₖ B'ₖ X'ₖ T'ₖ hlt'ₖ hg'ₖ; (try k_lt l1ₖ); (try dsimp only); (try k_fold))
  k_with "c_startR" => ((first | (unfold Con; intro gdₖ cnₖ csₖ Lₖ aₖ ccdₖ clₖ outerₖ A₀ₖ baseₖ h₀ₖ mₖ sₖ RRₖ Bₖ Fₖ Xₖ Nₖ Tₖ hkₖ hretₖ) | (unfold ConB; intro Bₖ Fₖ Xₖ Nₖ Tₖ hkₖ hretₖ)); revert Xₖ; k_fill; intro Xₖ; k_dflt walk_at "c_enterR")
  k_with "c_startV" => ((first | (unfold Con; intro gdₖ cnₖ csₖ Lₖ aₖ ccdₖ clₖ outerₖ A₀ₖ baseₖ h₀ₖ mₖ sₖ RRₖ Bₖ Fₖ Xₖ Nₖ Tₖ hkₖ hretₖ) | (unfold ConB; intro Bₖ Fₖ Xₖ Nₖ Tₖ hkₖ hretₖ)); revert Xₖ; k_fill; intro Xₖ; k_dflt walk_at "c_enterV")
  k_with "k_run" => repeat' (first | (k_unfold; (try dsimp only)) | walk1 | (dsimp only; walk1) | fail "no step")
  k_with "c_doneT" => ((rename (∀ _ _ _ _, Left _ _ _ _ → _) => hret9ₖ); (rename (∀ _ _, _ → ¬ _ ∈ List.map _ _ → _) => hg9ₖ); k_dflt (refine' hret9ₖ _ _ _ _ (left_of ?F9ₖ₃₃ (news_tl ?N9ₖ₃₃) hg9ₖ) ?_; (case F9ₖ₃₃ => assumption); (case N9ₖ₃₃ => assumption)))
  k_with "k_comp" => repeat' (first | ((fail_if_success (with_reducible show LCg.CompEnd _ _ _ _ _ _ _ _ _ _ _ _ _ _)); first | (k_unfold; (try dsimp only)) | walk1) | ((fail_if_success (with_reducible show LCg.CompEnd _ _ _ _ _ _ _ _ _ _ _ _ _ _)); dsimp only; walk1) | fail "no step")
  k_with "k_srcV" => repeat' (first | ((fail_if_success (with_reducible refine SrcV.intro ?_ ?_ ?_ ?_ ?_ ?_)); first | (k_unfold; (try dsimp only)) | walk1) | fail "no step")
  k_with "c_enterSC" => (refine' enter_defSC ?k1ₖ₃₆ ?k2ₖ₃₆ ?k3ₖ₃₆ ?k4ₖ₃₆ ?k5ₖ₃₆ ?kDDₖ₃₆ ?kAₖ₃₆ ?kFₖ₃₆ ?kKₖ₃₆ ?k6ₖ₃₆ ?k7ₖ₃₆ ?k8ₖ₃₆ ?k9ₖ₃₆ ?kBₖ₃₆ ?kDₖ₃₆ ?c2ₖ₃₆ ?c3ₖ₃₆ ?c4ₖ₃₆ ?_; (case kAₖ₃₆ => exact rfl); (case kFₖ₃₆ => exact rfl); (case kKₖ₃₆ => assumption); (case k1ₖ₃₆ => k_asm); (case k2ₖ₃₆ => k_asm); (case k3ₖ₃₆ => k_asm); (case k4ₖ₃₆ => k_asm); (case k5ₖ₃₆ => k_asm); (case kDDₖ₃₆ => assumption); (case k6ₖ₃₆ => k_is); (case k7ₖ₃₆ => k_is); (case k8ₖ₃₆ => exact Nat.le_of_ble_eq_true rfl); (case k9ₖ₃₆ => exact BindsTo.of_eq rfl); (case kBₖ₃₆ => exact rfl); (case kDₖ₃₆ => decide +kernel); (case c2ₖ₃₆ => exact rfl); (case c3ₖ₃₆ => exact rfl); (case c4ₖ₃₆ => exact rfl); k_whole; intro g'ₖ L'ₖ h'ₖ tk'ₖ cells'ₖ F'ₖ N'ₖ Y'ₖ B'ₖ X'ₖ T'ₖ D'ₖ l1ₖ hg'ₖ; (try k_lt l1ₖ); k_cells Y'ₖ; (try simp only [List.nil_append, List.cons_append] at N'ₖ); (try dsimp only); (try k_fold))
  k_with "c_startSC" => ((first | (unfold ConS; intro gdₖ cnₖ csₖ Lₖ aₖ ccdₖ clₖ outerₖ A₀ₖ baseₖ h₀ₖ mₖ sₖ RRₖ Bₖ Fₖ Xₖ Nₖ Tₖ hkₖ XBₖ TBₖ Dₖ hretₖ) | (unfold ConSB; intro Bₖ Fₖ Xₖ Nₖ Tₖ hkₖ XBₖ TBₖ Dₖ hretₖ)); have hoffₖ := off_frames Bₖ Nₖ; have hBaseₖ := BaseOk.mk XBₖ TBₖ; clear XBₖ TBₖ; revert Xₖ; k_fill; intro Xₖ; k_dflt walk_at "c_enterSC")
  k_with "k_call2" => repeat' (first | ((fail_if_success (with_reducible show wpAny _ _ (call (Value.ref _) [Value.ref _, Value.ref _]) _ _ _)); first | (k_unfold; (try dsimp only)) | walk1) | (dsimp only; (fail_if_success (with_reducible show wpAny _ _ (call (Value.ref _) [Value.ref _, Value.ref _]) _ _ _)); walk1) | fail "no step")
  k_with "k_iter" => repeat' (first | ((fail_if_success (with_reducible show wpAny _ _ (pyIter _) (fun _ _ => TurnsAt _ _ _ _ _ _ _ _ _ _ _) _ _)); first | (k_unfold; (try dsimp only)) | walk1) | (dsimp only; ((fail_if_success (with_reducible show wpAny _ _ (pyIter _) (fun _ _ => TurnsAt _ _ _ _ _ _ _ _ _ _ _) _ _)); walk1)) | fail "no step")
  k_with "k_callR" => repeat' (first | ((fail_if_success (with_reducible show wpAny _ _ (call (Value.ref _) _) _ _ _)); first | (k_unfold; (try dsimp only)) | walk1) | (dsimp only; (fail_if_success (with_reducible show wpAny _ _ (call (Value.ref _) _) _ _ _)); walk1) | fail "no step")
  k_with "k_toR" => repeat' (first | (walk_at "no_loop"; (fail_if_success (with_reducible show wpAny _ _ (call (Value.ref _) _) _ _ _)); first | (k_unfold; (try dsimp only)) | walk1) | (dsimp only; walk_at "no_loop"; (fail_if_success (with_reducible show wpAny _ _ (call (Value.ref _) _) _ _ _)); walk1) | fail "no step")
  k_with "k_next" => repeat' (first | ((fail_if_success (with_reducible show wpAny _ _ (call (Value.ref _) []) _ _ _)); first | (k_unfold; (try dsimp only)) | walk1) | (dsimp only; ((fail_if_success (with_reducible show wpAny _ _ (call (Value.ref _) []) _ _ _)); walk1)) | fail "no step")
  k_with "c_doneTT" => ((rename (∀ _ _ _ _, Left _ _ _ _ → _) => hret9ₖ); (rename (∀ _ _, _ → ¬ _ ∈ List.map _ _ → _) => hg9ₖ); k_dflt (refine' hret9ₖ _ _ _ _ (left_of ?F9ₖ₆₂ (news_tl (news_tl ?N9ₖ₆₂)) hg9ₖ) ?_; (case F9ₖ₆₂ => assumption); (case N9ₖ₆₂ => assumption)))
  k_with "c_startE" => ((first | (unfold ConE; intro gdₖ cnₖ csₖ Lₖ aₖ ccdₖ clₖ outerₖ A₀ₖ baseₖ h₀ₖ mₖ sₖ RRₖ Bₖ Fₖ Xₖ Nₖ Tₖ hkₖ XBₖ TBₖ Dₖ hretₖ hraiseₖ) | (unfold ConEB; intro Bₖ Fₖ Xₖ Nₖ Tₖ hkₖ XBₖ TBₖ Dₖ hretₖ hraiseₖ)); have hoffₖ := off_frames Bₖ Nₖ; have hBaseₖ := BaseOk.mk XBₖ TBₖ; clear XBₖ TBₖ; revert Xₖ; k_fill; intro Xₖ; k_dflt walk_at "c_enterS")
  k_with "k_callI" => repeat' (first | ((fail_if_success (with_reducible show wpAny _ _ (call (Value.ref _) ([_] ++ _)) _ _ _)); (fail_if_success (with_reducible show wpAny _ _ (call (Value.ref _) (_ :: _)) _ _ _)); first | (k_unfold; (try dsimp only)) | walk1) | (dsimp only; (fail_if_success (with_reducible show wpAny _ _ (call (Value.ref _) ([_] ++ _)) _ _ _)); (fail_if_success (with_reducible show wpAny _ _ (call (Value.ref _) (_ :: _)) _ _ _)); walk1) | fail "no step")
  k_with "execs cons" => (dsimp only; walk_at "execs cons")
  k_with "execs nil" => (dsimp only; walk_at "execs nil")
  k_with "ite" => (k_openite; first | refine ite_pos (ne_yes (by omega)) ?_ | refine ite_neg (ne_no (by omega)) ?_)
  k_with "k_all" => first | exact List.forall_mem_nil _ | (refine' List.forall_mem_cons.mpr ⟨?aₖ₁₁, ?bₖ₁₁⟩; (case aₖ₁₁ => k_ne); (case bₖ₁₁ => k_all)) | fail "k_all: not by order"
  exact trivial
section
variable {α : Type}
theorem sb_nil {t : List α} : ∀ p ∈ ([] : List α), p ∈ t := fun _ h => nomatch h
theorem sb_cons {a : α} {r t : List α} (h : a ∈ t) (k : ∀ p ∈ r, p ∈ t) : ∀ p ∈ a :: r, p ∈ t := fun p hp => (List.mem_cons.mp hp).elim (fun e => e ▸ h) (k p)
theorem sb_app {r s t : List α} (h : ∀ p ∈ r, p ∈ t) (k : ∀ p ∈ s, p ∈ t) : ∀ p ∈ r ++ s, p ∈ t := fun p hp => (List.mem_append.mp hp).elim (h p) (k p)
theorem sb_refl {t : List α} : ∀ p ∈ t, p ∈ t := fun _ h => h
theorem sb_tl {a : α} {r t : List α} (h : ∀ p ∈ r, p ∈ t) : ∀ p ∈ r, p ∈ a :: t := fun p hp => .tail _ (h p hp)
theorem sb_inl {r s t : List α} (h : ∀ p ∈ r, p ∈ s) : ∀ p ∈ r, p ∈ s ++ t := fun p hp => List.mem_append.mpr (.inl (h p hp))
theorem sb_inr {r s t : List α} (h : ∀ p ∈ r, p ∈ t) : ∀ p ∈ r, p ∈ s ++ t := fun p hp => List.mem_append.mpr (.inr (h p hp))
theorem me_inl {a : α} {s t : List α} (h : a ∈ s) : a ∈ s ++ t := List.mem_append.mpr (.inl h)
theorem me_inr {a : α} {s t : List α} (h : a ∈ t) : a ∈ s ++ t := List.mem_append.mpr (.inr h)
theorem me_tl {x a : α} {r : List α} (h : x ∈ r) : x ∈ a :: r := .tail _ h
variable {x a0 a1 a2 a3 a4 a5 a6 a7 a8 a9 b0 b1 b2 b3 b4 b5 : α} {r : List α}
theorem me_0 : x ∈ x :: r := .head _
theorem me_1 : x ∈ a0 :: x :: r := .tail _ (.head _)
theorem me_2 : x ∈ a0 :: a1 :: x :: r := .tail _ (.tail _ (.head _))
theorem me_3 : x ∈ a0 :: a1 :: a2 :: x :: r := .tail _ (.tail _ (.tail _ (.head _)))
theorem me_4 : x ∈ a0 :: a1 :: a2 :: a3 :: x :: r := .tail _ (.tail _ (.tail _ (.tail _ (.head _))))
theorem me_5 : x ∈ a0 :: a1 :: a2 :: a3 :: a4 :: x :: r := .tail _ (.tail _ (.tail _ (.tail _ (.tail _ (.head _)))))
theorem me_6 : x ∈ a0 :: a1 :: a2 :: a3 :: a4 :: a5 :: x :: r := .tail _ (.tail _ (.tail _ (.tail _ (.tail _ (.tail _ (.head _))))))
theorem me_7 : x ∈ a0 :: a1 :: a2 :: a3 :: a4 :: a5 :: a6 :: x :: r := .tail _ (.tail _ (.tail _ (.tail _ (.tail _ (.tail _ (.tail _ (.head _)))))))
theorem me_8 : x ∈ a0 :: a1 :: a2 :: a3 :: a4 :: a5 :: a6 :: a7 :: x :: r := .tail _ (.tail _ (.tail _ (.tail _ (.tail _ (.tail _ (.tail _ (.tail _ (.head _))))))))
theorem me_9 : x ∈ a0 :: a1 :: a2 :: a3 :: a4 :: a5 :: a6 :: a7 :: a8 :: x :: r := .tail _ (.tail _ (.tail _ (.tail _ (.tail _ (.tail _ (.tail _ (.tail _ (.tail _ (.head _)))))))))
theorem me_10 : x ∈ a0 :: a1 :: a2 :: a3 :: a4 :: a5 :: a6 :: a7 :: a8 :: a9 :: x :: r := .tail _ (.tail _ (.tail _ (.tail _ (.tail _ (.tail _ (.tail _ (.tail _ (.tail _ (.tail _ (.head _))))))))))
theorem me_11 : x ∈ a0 :: a1 :: a2 :: a3 :: a4 :: a5 :: a6 :: a7 :: a8 :: a9 :: b0 :: x :: r := .tail _ (.tail _ (.tail _ (.tail _ (.tail _ (.tail _ (.tail _ (.tail _ (.tail _ (.tail _ (.tail _ (.head _)))))))))))
theorem me_12 : x ∈ a0 :: a1 :: a2 :: a3 :: a4 :: a5 :: a6 :: a7 :: a8 :: a9 :: b0 :: b1 :: x :: r := .tail _ (.tail _ (.tail _ (.tail _ (.tail _ (.tail _ (.tail _ (.tail _ (.tail _ (.tail _ (.tail _ (.tail _ (.head _))))))))))))
theorem me_13 : x ∈ a0 :: a1 :: a2 :: a3 :: a4 :: a5 :: a6 :: a7 :: a8 :: a9 :: b0 :: b1 :: b2 :: x :: r := .tail _ (.tail _ (.tail _ (.tail _ (.tail _ (.tail _ (.tail _ (.tail _ (.tail _ (.tail _ (.tail _ (.tail _ (.tail _ (.head _)))))))))))))
theorem me_14 : x ∈ a0 :: a1 :: a2 :: a3 :: a4 :: a5 :: a6 :: a7 :: a8 :: a9 :: b0 :: b1 :: b2 :: b3 :: x :: r := .tail _ (.tail _ (.tail _ (.tail _ (.tail _ (.tail _ (.tail _ (.tail _ (.tail _ (.tail _ (.tail _ (.tail _ (.tail _ (.tail _ (.head _))))))))))))))
theorem me_15 : x ∈ a0 :: a1 :: a2 :: a3 :: a4 :: a5 :: a6 :: a7 :: a8 :: a9 :: b0 :: b1 :: b2 :: b3 :: b4 :: x :: r := .tail _ (.tail _ (.tail _ (.tail _ (.tail _ (.tail _ (.tail _ (.tail _ (.tail _ (.tail _ (.tail _ (.tail _ (.tail _ (.tail _ (.tail _ (.head _)))))))))))))))
theorem me_16 : x ∈ a0 :: a1 :: a2 :: a3 :: a4 :: a5 :: a6 :: a7 :: a8 :: a9 :: b0 :: b1 :: b2 :: b3 :: b4 :: b5 :: x :: r := .tail _ (.tail _ (.tail _ (.tail _ (.tail _ (.tail _ (.tail _ (.tail _ (.tail _ (.tail _ (.tail _ (.tail _ (.tail _ (.tail _ (.tail _ (.tail _ (.head _))))))))))))))))
theorem sb_tl2 {s : List α} (h : ∀ p ∈ s, p ∈ r) : ∀ p ∈ s, p ∈ a0 :: a1 :: r := fun p hp => .tail _ (.tail _ (h p hp))
theorem sb_tl4 {s : List α} (h : ∀ p ∈ s, p ∈ r) : ∀ p ∈ s, p ∈ a0 :: a1 :: a2 :: a3 :: r := fun p hp => .tail _ (.tail _ (.tail _ (.tail _ (h p hp))))
theorem sb_tl8 {s : List α} (h : ∀ p ∈ s, p ∈ r) : ∀ p ∈ s, p ∈ a0 :: a1 :: a2 :: a3 :: a4 :: a5 :: a6 :: a7 :: r := fun p hp => .tail _ (.tail _ (.tail _ (.tail _ (.tail _ (.tail _ (.tail _ (.tail _ (h p hp))))))))
end
theorem lines_Sub_1127 : True := by
  k_with "sub_m" => first | exact me_0 | exact me_1 | exact me_2 | exact me_3 | exact me_4 | exact me_5 | exact me_6 | exact me_7 | exact me_8 | exact me_9 | exact me_10 | exact me_11 | exact me_12 | exact me_13 | exact me_14 | exact me_15 | exact me_16 | (refine me_tl ?_; walk_at "sub_m") | (refine me_inl ?_; walk_at "sub_m") | (refine me_inr ?_; walk_at "sub_m") | assumption
  k_with "sub_l" => first | exact sb_refl | assumption | (refine sb_tl8 ?_; walk_at "sub_l") | (refine sb_tl4 ?_; walk_at "sub_l") | (refine sb_tl2 ?_; walk_at "sub_l") | (refine sb_tl ?_; walk_at "sub_l") | (refine sb_inl ?_; walk_at "sub_l") | (refine sb_inr ?_; walk_at "sub_l")
  k_with "sub_0" => with_reducible first | exact sb_nil | exact sb_refl | (refine sb_cons ?_ ?_; walk_at "sub_m"; walk_at "sub_0") | (refine sb_app ?_ ?_; walk_at "sub_0"; walk_at "sub_0") | walk_at "sub_l"
  k_with "sub_z" => walk_at "sub_0"
  exact trivial
theorem at_Tail : True := by
  w_top off
  k_with "call builtin:list.append" => ((with_reducible show wpAny _ _ (call (Value.builtin _) [Value.ref _, Value.int _ _]) _ _ _); k_dflt (refine' app_int ?Fₖ₁₉ ?Nₖ₁₉ ?Uₖ₁₉ ?iₖ₁₉ ?zₖ₁₉ ?_; (case Fₖ₁₉ => k_asm); (case Nₖ₁₉ => k_asm); (case Uₖ₁₉ => k_upd); (case iₖ₁₉ => with_reducible assumption); (case zₖ₁₉ => omega)); intro h'ₖ F'ₖ N'ₖ hi'ₖ hl'ₖ; (try dsimp only at N'ₖ); (try k_sweep))
  k_with "subscriptTail Name Slice ref ref" => ((with_reducible show wpAny _ _ (subscriptTail _ (PySem.Expr.Slice (some _) none none _) (Value.ref _) (Value.ref _)) _ _ _); k_dflt (refine' slice_from ?Fₖ₂₀ ?Nₖ₂₀ ?mₖ₂₀ ?iₖ₂₀ ?zₖ₂₀ ?_ ?sₖ₂₀ ?tₖ₂₀; (case Fₖ₂₀ => k_asm); (case Nₖ₂₀ => k_asm); (case mₖ₂₀ => k_mem); (case iₖ₂₀ => with_reducible assumption); (case sₖ₂₀ => with_unfolding_all rfl); (case tₖ₂₀ => kmk_pure); (case zₖ₂₀ => omega)); intro D'ₖ ws'ₖ h'ₖ F'ₖ N'ₖ l1ₖ hI'ₖ hl'ₖ; (try k_lt l1ₖ); (try k_sweep))
  k_with "call builtin:list.extend" => ((with_reducible show wpAny _ _ (call (Value.builtin _) [Value.ref _, Value.ref _]) _ _ _); k_dflt (refine' ext_ints ?Fₖ₂₁ ?Nₖ₂₁ ?bₖ₂₁ ?Uₖ₂₁ ?iₖ₂₁ ?jₖ₂₁ ?zₖ₂₁ ?_; (case Fₖ₂₁ => k_asm); (case Nₖ₂₁ => k_asm); (case bₖ₂₁ => k_mem); (case Uₖ₂₁ => (intro k'ₖ; k_upd)); (case iₖ₂₁ => with_reducible assumption); (case jₖ₂₁ => with_reducible assumption); (case zₖ₂₁ => omega)); intro h'ₖ k'ₖ F'ₖ N'ₖ hi'ₖ hl'ₖ; (try dsimp only at N'ₖ); (try k_sweep))
  k_with "call builtin:dict.get" => (k_dflt (refine' kdg_get1 (knd := PySem.intKind _ _) ?Nₖ₂₅ ?mₖ₂₅ ?dₖ₂₅ ?loₖ₂₅ (intKind_is _ _ _ _) _ ?lₖ₂₅ ?_; (case Nₖ₂₅ => k_asm); (case mₖ₂₅ => k_mem); (case dₖ₂₅ => k_asm); (case loₖ₂₅ => k_asm); (case lₖ₂₅ => with_reducible assumption)); dsimp only [Option.getD])
  k_with "subscriptTail" => ((with_reducible show wpAny _ _ (subscriptTail _ _ (Value.ref _) (Value.int _ _)) _ _ _); k_dflt (refine' kda_item (knd := PySem.intKind _ _) ?Nₖ₂₆ ?mₖ₂₆ ?dₖ₂₆ (intKind_is _ _ _ _) ?lₖ₂₆ ?_ ?sₖ₂₆ ?gₖ₂₆; (case Nₖ₂₆ => k_asm); (case mₖ₂₆ => k_mem); (case dₖ₂₆ => k_asm); (case lₖ₂₆ => with_reducible assumption); (case sₖ₂₆ => with_unfolding_all rfl); (case gₖ₂₆ => intro _; with_unfolding_all rfl)))
  k_with "compareOp In int ref" => (k_dflt (refine' kda_in (knd := PySem.intKind _ _) ?Nₖ₂₇ ?mₖ₂₇ ?dₖ₂₇ ?loₖ₂₇ (intKind_is _ _ _ _) _ ?lₖ₂₇ ?_; (case Nₖ₂₇ => k_asm); (case mₖ₂₇ => k_mem); (case dₖ₂₇ => k_asm); (case loₖ₂₇ => k_asm); (case lₖ₂₇ => with_reducible assumption)))
  k_with "callWith ref" => (k_dflt (refine' callWith_mw ?Nₖ₃₈ ?mₖ₃₈ ?_; (case Nₖ₃₈ => k_asm); (case mₖ₃₈ => k_mem)))
  k_with "k_upd" => first | exact upd_0 (by assumption) | exact upd_1 (by assumption) | exact upd_2 (by assumption) | exact upd_3 (by assumption) | exact upd_4 (by assumption) | exact upd_5 (by assumption) | exact upd_6 (by assumption) | exact upd_7 (by assumption) | fail "k_upd: no ND"
  k_with "k_updF" => first | exact updF_0 (by assumption) | exact updF_1 (by assumption) | exact updF_2 (by assumption) | exact updF_3 (by assumption) | exact updF_4 (by assumption) | exact updF_5 (by assumption) | exact updF_6 (by assumption) | fail "k_updF: no ND"
  k_with "call type:tuple" => ((with_reducible show wpAny _ _ (call (Value.type _) [Value.ref _]) _ _ _); k_dflt (refine' tup_ints ?Fₖ₄₂ ?Nₖ₄₂ ?mₖ₄₂ ?iₖ₄₂ ?zₖ₄₂ ?_; (case Fₖ₄₂ => k_asm); (case Nₖ₄₂ => k_asm); (case mₖ₄₂ => k_mem); (case iₖ₄₂ => with_reducible assumption); (case zₖ₄₂ => omega)); intro D'ₖ h'ₖ F'ₖ N'ₖ l1ₖ; (try k_lt l1ₖ); (try k_sweep))
  k_with "call builtin:list.clear" => ((with_reducible show wpAny _ _ (call (Value.builtin _) [Value.ref _]) _ _ _); k_dflt (refine' clear_list ?Fₖ₄₃ ?Nₖ₄₃ ?Uₖ₄₃ ?zₖ₄₃ ?_; (case Fₖ₄₃ => k_asm); (case Nₖ₄₃ => k_asm); (case Uₖ₄₃ => (intro k'ₖ; k_upd)); (case zₖ₄₃ => first | omega | ((have hl9ₖ := IntsAre.length (by with_reducible assumption)); omega))); intro h'ₖ k'ₖ F'ₖ N'ₖ; (try dsimp only at N'ₖ); (try k_sweep))
  k_with "call builtin:len" => ((with_reducible show wpAny _ _ (call (Value.builtin _) [Value.ref _]) _ _ _); k_dflt (refine' len_tupI ?Nₖ₄₄ ?mₖ₄₄ ?iₖ₄₄ ?zₖ₄₄ ?_; (case Nₖ₄₄ => k_asm); (case mₖ₄₄ => k_mem); (case iₖ₄₄ => with_reducible assumption); (case zₖ₄₄ => omega)))
  k_with "k_lt" => ((with_reducible rename (∀ p : Addr × Obj, p ∈ _ → p.1 < _) => hlt9ₖ); (k_dflt (have hP9ₖ := ND.push (by assumption) hlt9ₖ)))
  k_with "k_all" => first | exact List.forall_mem_nil _ | (refine' List.forall_mem_cons.mpr ⟨?aₖ₄₉, ?bₖ₄₉⟩; (case aₖ₄₉ => k_ne); (case bₖ₄₉ => k_all)) | exact ne_above (by with_reducible assumption) (by omega) | exact ne_under (by with_reducible assumption) (by omega) | fail "k_all: not by order"
  k_with "call builtin:iter" => ((with_reducible show wpAny _ _ (call (Value.builtin "iter") [Value.ref _]) _ _ _); k_dflt (refine' iter_listK ?Fₖ₅₀ ?Nₖ₅₀ ?mₖ₅₀ ?_; (case Fₖ₅₀ => k_asm); (case Nₖ₅₀ => k_asm); (case mₖ₅₀ => k_mem)); intro D'ₖ h'ₖ F'ₖ N'ₖ l1ₖ; (try k_lt l1ₖ); (try k_sweep))
  k_with "getAttr ref" => ((with_reducible show wpAny _ _ (getAttr (Value.ref _) (Str.ofString "__next__") true) _ _ _); k_dflt (refine' get_nextK ?Fₖ₅₁ ?Nₖ₅₁ ?mₖ₅₁ ?_; (case Fₖ₅₁ => k_asm); (case Nₖ₅₁ => k_asm); (case mₖ₅₁ => k_mem)); intro D'ₖ h'ₖ F'ₖ N'ₖ l1ₖ; (try k_lt l1ₖ); (try k_sweep))
  k_with "call builtin:list.append" => ((with_reducible show wpAny _ _ (call (Value.builtin _) [Value.ref _, Value.ref _]) _ _ _); k_dflt (refine' app_val ?Fₖ₅₂ ?Nₖ₅₂ ?Uₖ₅₂ ?zₖ₅₂ ?_; (case Fₖ₅₂ => k_asm); (case Nₖ₅₂ => k_asm); (case Uₖ₅₂ => k_upd); (case zₖ₅₂ => omega)); intro h'ₖ F'ₖ N'ₖ; (try dsimp only at N'ₖ); (try k_sweep))
  k_with "call builtin:len" => ((with_reducible show wpAny _ _ (call (Value.builtin "len") [Value.ref _]) _ _ _); k_dflt (refine' len_listV ?Nₖ₅₃ ?mₖ₅₃ ?zₖ₅₃ ?_; (case Nₖ₅₃ => k_asm); (case mₖ₅₃ => k_mem); (case zₖ₅₃ => omega)))
  k_with "setItem ref int" => ((with_reducible show wpAny _ _ (setItem (Value.ref _) (Value.int _ _) (Value.int _ _)) _ _ _); k_dflt (refine' kda_set (knd := PySem.intKind _ _) ?Fₖ₅₄ ?Nₖ₅₄ ?Uₖ₅₄ ?dₖ₅₄ (intKind_is _ _ _ _) ?zₖ₅₄ ?_; (case Fₖ₅₄ => k_asm); (case Nₖ₅₄ => k_asm); (case Uₖ₅₄ => k_updF); (case dₖ₅₄ => k_asm); (case zₖ₅₄ => (rw [sizeLine_eq]; omega))); intro h'ₖ o'ₖ F'ₖ N'ₖ hd'ₖ; (try dsimp only at N'ₖ))
  k_with "delItem ref int" => (k_dflt (refine' kob_del (knd := PySem.intKind _ _) ?Fₖ₅₅ ?Nₖ₅₅ ?Uₖ₅₅ ?dₖ₅₅ (intKind_is _ _ _ _) ?lₖ₅₅ ?zₖ₅₅ ?_; (case Fₖ₅₅ => k_asm); (case Nₖ₅₅ => k_asm); (case Uₖ₅₅ => k_updF); (case dₖ₅₅ => k_asm); (case lₖ₅₅ => with_reducible assumption); (case zₖ₅₅ => (rw [sizeLine_eq]; omega))); intro h'ₖ o'ₖ F'ₖ N'ₖ hd'ₖ; (try dsimp only at N'ₖ))
  k_with "subscriptTail" => ((with_reducible show wpAny _ _ (subscriptTail _ _ (Value.ref _) (Value.int (-1) _)) _ _ _); k_dflt (refine' item_lastV ?Nₖ₅₆ ?mₖ₅₆ ?_ ?sₖ₅₆ ?gₖ₅₆; (case Nₖ₅₆ => k_asm); (case mₖ₅₆ => k_mem); (case sₖ₅₆ => with_unfolding_all rfl); (case gₖ₅₆ => intro _; with_unfolding_all rfl)))
  k_with "call builtin:list.pop" => ((with_reducible show wpAny _ _ (call (Value.builtin _) [Value.ref _]) _ _ _); k_dflt (refine' pop_lastV ?Fₖ₅₇ ?Nₖ₅₇ ?Uₖ₅₇ ?zₖ₅₇ ?_; (case Fₖ₅₇ => k_asm); (case Nₖ₅₇ => k_asm); (case Uₖ₅₇ => k_upd); (case zₖ₅₇ => omega)); intro h'ₖ F'ₖ N'ₖ; (try dsimp only at N'ₖ); (try k_sweep))
  k_with "truthy ref" => (k_dflt (refine' truthy_listV ?Nₖ₅₈ ?mₖ₅₈ ?zₖ₅₈ ?_; (case Nₖ₅₈ => k_asm); (case mₖ₅₈ => k_mem); (case zₖ₅₈ => omega)))
  k_with "binaryOp Add ref ref" => (k_dflt (refine' add_listsV ?Fₖ₅₉ ?Nₖ₅₉ ?aₖ₅₉ ?bₖ₅₉ ?zₖ₅₉ ?_; (case Fₖ₅₉ => k_asm); (case Nₖ₅₉ => k_asm); (case aₖ₅₉ => k_mem); (case bₖ₅₉ => k_mem); (case zₖ₅₉ => first | omega | ((with_reducible rename IntsAre _ _ => h9ₖ); (have hl9ₖ := IntsAre.length h9ₖ); simp only [List.length_cons, List.length_nil]; omega))); intro D'ₖ h'ₖ F'ₖ N'ₖ l1ₖ; (try k_lt l1ₖ); (try k_sweep))
  k_with "truthy ref" => (k_dflt (refine' truthy_snoc ?Nₖ₆₀ ?mₖ₆₀ ?zₖ₆₀ ?_; (case Nₖ₆₀ => k_asm); (case mₖ₆₀ => k_mem); (case zₖ₆₀ => omega)))
  exact trivial
structure OffT (X : Nat) (l : List (Addr × Obj)) : Prop where
  ne : ∀ p ∈ l, @Ne Nat p.1 X
theorem under_tl {B : Nat} {a : Addr × Obj} {l : List (Addr × Obj)} (h : Under B (a :: l)) : Under B l := ⟨fun p hp => h.lt p (.tail _ hp)⟩
theorem under_nil {B : Nat} (h : Under B []) : True := trivial
theorem lines_Tail_1133 : True := by
  k_with "k_lt" => ((with_reducible rename (∀ p : Addr × Obj, p ∈ _ → p.1 < _) => hlt9ₖ); (first | (have hU9ₖ := under_of (allLt_of hlt9ₖ); (repeat (replace hU9ₖ := under_tl hU9ₖ)); (fail_if_success (have hU8ₖ := under_nil hU9ₖ)); (fail_if_success (clear hU9ₖ; have hU8ₖ : Under _ _ := (by with_reducible assumption))); (replace hlt9ₖ := allLt_of hlt9ₖ); (simp only [AllLt, and_true] at hlt9ₖ)) | (replace hlt9ₖ := allLt_of hlt9ₖ; simp only [AllLt, and_true] at hlt9ₖ)))
  k_with "k_all" => first | exact List.forall_mem_nil _ | (refine' List.forall_mem_cons.mpr ⟨?aₖ₇₁, ?bₖ₇₁⟩; (case aₖ₇₁ => k_ne); (case bₖ₇₁ => k_all)) | exact OffT.ne (by with_reducible assumption) | exact ne_above (by with_reducible assumption) (by omega) | exact ne_under (by with_reducible assumption) (by omega) | fail "k_all: not by order"
  exact trivial
theorem at_Reached : True := by
  w_top off
  k_with "k_toL" => repeat' (first | (walk_at "no_loop"; (fail_if_success (with_reducible show wpAny _ _ (eval (Expr.ListComp _ _ _ _) _) _ _ _)); (fail_if_success (with_reducible show wpAny _ _ (exec (Stmt.Assign [_] (Expr.ListComp _ _ _ _) _) _) _ _ _)); first | (k_unfold; (try dsimp only)) | walk1) | (dsimp only; walk_at "no_loop"; (fail_if_success (with_reducible show wpAny _ _ (eval (Expr.ListComp _ _ _ _) _) _ _ _)); (fail_if_success (with_reducible show wpAny _ _ (exec (Stmt.Assign [_] (Expr.ListComp _ _ _ _) _) _) _ _ _)); walk1) | fail "no step")
  k_with "k_srcT" => repeat' (first | ((fail_if_success (with_reducible show LCt.CompSrcT _ _ _ _ _ _ _ _ _ _ _ _ _ _ _)); first | (k_unfold; (try dsimp only)) | walk1) | fail "no step")
  exact trivial
noncomputable def bitN (m j : Nat) : Bool := m / 2 ^ j % 2 == 1
theorem bit_is : ∀ m < 16, ∀ j < 4, (Builtin.bitAnd (((m : Nat) : Int).fdiv (2 ^ ((j : Nat) : Int).toNat)) 1 = 1) = (bitN m j = true) := by decide +kernel
theorem bit_sub : ∀ m < 16, ∀ j < 4, bitN m j = true → 2 ^ j ≤ m := by decide +kernel
structure BitAt (m : Int) (j : Int) : Prop where
  rng : (0 ≤ m ∧ m ≤ 15) ∧ (0 ≤ j ∧ j ≤ 3)
theorem bit_idx {m j : Int} (b : BitAt m j) (h : Builtin.bitAnd (m.fdiv (2 ^ j.toNat)) 1 = 1) : 0 ≤ m - 1 * 2 ^ j.toNat ∧ m - 1 * 2 ^ j.toNat < m := by
  obtain ⟨⟨⟨h1, h2⟩, h3, h4⟩⟩ := b
  obtain ⟨a, rfl⟩ := Int.eq_ofNat_of_zero_le h1
  obtain ⟨c, rfl⟩ := Int.eq_ofNat_of_zero_le h3
  have ha : a < 16 := by omega
  have hc : c < 4 := by omega
  have := bit_sub a ha c hc ((bit_is a ha c hc).mp h)
  have e : (2 : Int) ^ ((c : Nat) : Int).toNat = ((2 ^ c : Nat) : Int) := by simp
  rw [e]
  have : 0 < 2 ^ c := Nat.two_pow_pos c
  omega
theorem nameL {P : Prop} {g h : Heap} {L : Addr} {m : Str → Option Value} (_F : Fr g L h m) (k : ∀ L' : Nat, L' = L → P) : P := k L rfl
noncomputable def atI (ns : List Int) (k : Int) : Int := ns.getD k.toNat 0
noncomputable def atB (bs : List Bool) (k : Int) : Bool := bs.getD k.toNat false
theorem item_val {prog : Program} {w : World} {A : Around} {E : Value → Shared → Prop} {s : Shared} {h₀ : Heap} {L l : Addr} {news : List (Addr × Obj)} {vs : List Value} {n : Nat} {value slice : PySem.Expr} {u : Tok} {k : Int} {v : Value} {Q : Value → Shared → Prop} (N : News h₀ L s.heap news) (hm : (l, W.listOf (List.toArray vs) n) ∈ news)
    (h0 : 0 ≤ k) (hz : vs.length ≤ 1000) (hk : vs[k.toNat]? = some v) (h : Q v s) (hs : subscripted slice false (.ref l) (.int k u) = operate [.ref l, .int k u] (getItem (.ref l) (.int k u))) :
    wpAny (model prog w) A (subscriptTail value slice (.ref l) (.int k u)) Q E s := by
  have hl := PySem.IsL.isList (n := n) (N _ hm).1
  have hlt : k.toNat < vs.length := by
    obtain ⟨q, _⟩ := List.getElem?_eq_some_iff.mp hk; exact q
  exact tail_any hl.typeIs slot_list_getitem.lookup (wpAny_getItem_list hl h0 (by omega) (by simpa using hk) h) hs
theorem item_intA {prog : Program} {w : World} {A : Around} {E : Value → Shared → Prop} {s : Shared} {h₀ : Heap} {L l : Addr} {news : List (Addr × Obj)} {vs : List Value} {ns : List Int} {n : Nat} {value slice : PySem.Expr} {u : Tok} {k : Int} {Q : Value → Shared → Prop} (N : News h₀ L s.heap news) (hm : (l, W.listOf (List.toArray vs) n) ∈ news)
    (hi : IntsAre vs ns) (hk : 0 ≤ k ∧ k < ns.length) (hz : ns.length ≤ 1000) (h : ∀ t, Q (.int (atI ns k) t) s) (hs : subscripted slice false (.ref l) (.int k u) = operate [.ref l, .int k u] (getItem (.ref l) (.int k u))) :
    wpAny (model prog w) A (subscriptTail value slice (.ref l) (.int k u)) Q E s := by
  have hl := hi.length
  have hv : k.toNat < vs.length := by omega
  obtain ⟨x, t, e, hx⟩ := IntsAre.at hi k.toNat vs[k.toNat] (List.getElem?_eq_getElem hv)
  have hq : x = atI ns k := by rw [atI, List.getD_eq_getElem?_getD, hx]; rfl
  subst hq
  exact item_val N hm hk.1 (by omega) (by rw [List.getElem?_eq_getElem hv, e]) (h t) hs
theorem item_boolA {prog : Program} {w : World} {A : Around} {E : Value → Shared → Prop} {s : Shared} {h₀ : Heap} {L l : Addr} {news : List (Addr × Obj)} {bs : List Bool} {n : Nat} {value slice : PySem.Expr} {u : Tok} {k : Int} {Q : Value → Shared → Prop} (N : News h₀ L s.heap news) (hm : (l, W.listOf (List.toArray (bs.map Value.bool)) n) ∈ news)
    (hk : 0 ≤ k ∧ k < bs.length) (hz : bs.length ≤ 1000) (h : Q (.bool (atB bs k)) s) (hs : subscripted slice false (.ref l) (.int k u) = operate [.ref l, .int k u] (getItem (.ref l) (.int k u))) :
    wpAny (model prog w) A (subscriptTail value slice (.ref l) (.int k u)) Q E s := by
  have hv : k.toNat < bs.length := by omega
  refine item_val N hm hk.1 (by rw [List.length_map]; exact hz) (v := .bool (atB bs k)) ?_ h hs
  rw [List.getElem?_map, atB, List.getD_eq_getElem?_getD, List.getElem?_eq_getElem hv]
  rfl
theorem lines_Reached_1147 : True := by
  k_with "subscriptTail" => ((with_reducible show wpAny _ _ (subscriptTail _ _ (Value.ref _) (Value.int _ _)) _ _ _); k_dflt (refine' item_boolA ?Nₖ₇₄ ?mₖ₇₄ ?kₖ₇₄ ?zₖ₇₄ ?_ ?sₖ₇₄; (case Nₖ₇₄ => k_asm); (case mₖ₇₄ => k_mem); (case kₖ₇₄ => first | omega | ((have h9ₖ := bit_idx (by assumption) (by assumption)); omega)); (case zₖ₇₄ => omega); (case sₖ₇₄ => with_unfolding_all rfl)))
  k_with "subscriptTail" => ((with_reducible show wpAny _ _ (subscriptTail _ _ (Value.ref _) (Value.int _ _)) _ _ _); k_dflt (refine' item_intA ?Nₖ₇₅ ?mₖ₇₅ ?iₖ₇₅ ?kₖ₇₅ ?zₖ₇₅ ?_ ?sₖ₇₅; (case Nₖ₇₅ => k_asm); (case mₖ₇₅ => k_mem); (case iₖ₇₅ => with_reducible assumption); (case kₖ₇₅ => omega); (case zₖ₇₅ => omega); (case sₖ₇₅ => with_unfolding_all rfl)); intro t'ₖ)
  exact trivial
noncomputable def bitI (m j : Int) : Bool := decide (Builtin.bitAnd (m.fdiv (2 ^ j.toNat)) 1 = 1)
noncomputable def lastI (bs : List Bool) (m j : Int) : Bool := bitI m j && atB bs (m - 1 * 2 ^ j.toNat)
noncomputable def goodI (ns : List Int) (m j : Int) : Bool := decide (Builtin.bitAnd (atI ns j) (m - 1 * 2 ^ j.toNat) = atI ns j)
noncomputable def lastsI (bs : List Bool) (m : Int) : List Int := ((List.range 4).filter fun (j : Nat) => lastI bs m (0 + (j : Int))).map fun (j : Nat) => 0 + (j : Int)
noncomputable def flagI (ns : List Int) (bs : List Bool) (m : Int) : Bool := (lastsI bs m).any (goodI ns m)
noncomputable def flagsI (ns : List Int) : Nat → List Bool
  | 0 => [true]
  | i + 1 => flagsI ns i ++ [flagI ns (flagsI ns i) (1 + (i : Int))]
theorem flagsI_len (ns : List Int) : ∀ i, (flagsI ns i).length = i + 1
  | 0 => rfl
  | i + 1 => by rw [flagsI, List.length_append, flagsI_len ns i]; rfl
theorem lastsI_rng {bs : List Bool} {m x : Int} (h : x ∈ lastsI bs m) : 0 ≤ x ∧ x ≤ 3 := by
  obtain ⟨j, hj, rfl⟩ := List.mem_map.mp h
  have := List.mem_range.mp (List.mem_filter.mp hj).1
  omega
theorem any_of_idx {l : List Int} {p : Int → Bool} : (((List.range l.length).filter fun i => p (l.getD i 0)).map fun i => l.getD i 0) = l.filter p := by
  induction l with
  | nil => rfl
  | cons x l ih =>
    rw [List.length_cons, List.range_succ_eq_map, List.filter_cons, List.filter_map, List.filter_cons]
    have e : (List.map Nat.succ (List.filter ((fun i => p ((x :: l).getD i 0)) ∘ Nat.succ) (List.range l.length))).map (fun i => (x :: l).getD i 0) = ((List.range l.length).filter fun i => p (l.getD i 0)).map fun i => l.getD i 0 := by
      rw [List.map_map]
      rfl
    by_cases hp : p x = true
    · have h0 : p ((x :: l).getD 0 0) = true := hp
      rw [if_pos h0, if_pos hp, List.map_cons, e, ih]
      rfl
    · have h0 : ¬ p ((x :: l).getD 0 0) = true := hp
      rw [if_neg h0, if_neg hp, e, ih]
theorem filt_any {α : Type _} {p : α → Bool} {l : List α} [DecidableEq α] : (!decide (l.filter p = [])) = l.any p := by
  by_cases h : l.filter p = []
  · rw [decide_eq_true h]
    have : l.any p = false := by
      rw [List.any_eq_false]
      intro x hx q
      have := List.mem_filter.mpr ⟨hx, q⟩
      rw [h] at this; cases this
    rw [this]; rfl
  · rw [decide_eq_false h]
    have : l.any p = true := by
      rw [List.any_eq_true]
      obtain ⟨x, hx⟩ := List.exists_mem_of_ne_nil _ h
      exact ⟨x, List.mem_filter.mp hx⟩
    rw [this]; rfl
theorem last_yes {bs : List Bool} {m j : Int} (h1 : Builtin.bitAnd (m.fdiv (2 ^ j.toNat)) 1 = 1) (h2 : atB bs (m - 1 * 2 ^ j.toNat) = true) : lastI bs m j = true := by
  rw [lastI, h2, Bool.and_true]; exact decide_eq_true h1
theorem last_no {bs : List Bool} {m j : Int} (h2 : atB bs (m - 1 * 2 ^ j.toNat) = false) : lastI bs m j = false := by
  rw [lastI, h2, Bool.and_false]
theorem last_no' {bs : List Bool} {m j : Int} (h1 : Builtin.bitAnd (m.fdiv (2 ^ j.toNat)) 1 ≠ 1) : lastI bs m j = false := by
  have : bitI m j = false := decide_eq_false h1
  rw [lastI, this, Bool.false_and]
theorem good_yes {ns : List Int} {m j : Int} (h : Builtin.bitAnd (ns.getD j.toNat 0) (m - 1 * 2 ^ j.toNat) = ns.getD j.toNat 0) : goodI ns m j = true := decide_eq_true h
theorem good_no {ns : List Int} {m j : Int} (h : Builtin.bitAnd (ns.getD j.toNat 0) (m - 1 * 2 ^ j.toNat) ≠ ns.getD j.toNat 0) : goodI ns m j = false := decide_eq_false h
inductive ReaI (ns : List Int) (fl L0 : Nat) (e : Addr) (oe : Obj) (i : Nat) : List (Str × Value) → List (Addr × Obj) → Prop
  | mk {k : Nat} {bs : List Bool} {o1 o2 o3 : Obj} {mv : Option Value} (hb : bs = flagsI ns i) (c1 : o1.data = .cell mv) (c2 : o2.data = .cell (some (.ref fl))) (c3 : o3.data = .cell (some (.ref e))) :
    ReaI ns fl L0 e oe i [] [((fl : Addr), W.listOf (List.toArray (bs.map Value.bool)) k), (L0 + 1 + 1 + 1, o1), (L0 + 1 + 1, o2), (L0 + 1, o3), (e, oe)]
namespace S_reached_con
noncomputable def stm (w : World) (mean : ExcName → Option Value) (mg mb : Str → Option Value) (e : Addr) (ds : List Value) (ns : List Int) (ke : Nat) (gdₛ : Option (List Code)) (cnₛ : Str) (csₛ : Scope) (Lₛ aₛ : Addr) (ccdₛ : Value) (clₛ : List (Str × Addr)) (outerₛ : List Env) (A₀ₛ : Around) (baseₛ h₀ₛ : Heap) (mₛ : Str → Option Value) (sₛ : Shared) (RRₛ : Result → Shared → Prop) : Prop := ∀ (hi : IntsAre ds ns) (hl : ns.length = 4) (hr : ∀ x ∈ ns, 0 ≤ x ∧ x ≤ 15), ConB w mean mg mb 420 1700 174 [.ref e] [(e, W.listOf (List.toArray ds) ke)]
      (fun r news' => ∃ fl k : Nat, r = .ref fl ∧ news' = [((fl : Addr), W.listOf (List.toArray ((flagsI ns 15).map Value.bool)) k), (e, W.listOf (List.toArray ds) ke)] ∧ @LT.lt Nat _ e fl) gdₛ cnₛ csₛ Lₛ aₛ ccdₛ clₛ outerₛ A₀ₛ baseₛ h₀ₛ mₛ sₛ RRₛ
noncomputable abbrev Dat := World × (ExcName → Option Value) × (Str → Option Value) × (Str → Option Value) × Addr × List Value × List Int × Nat × Option (List Code) × Str × Scope × Addr × Addr × Value × (List (Str × Addr)) × List Env × Around × Heap × Heap × (Str → Option Value) × Shared × (Result → Shared → Prop)
noncomputable def ok (p : Dat) : Prop := let q1 := p.2.2.2.2.2.2.2.2; let q2 := q1.2.2.2.2.2.2.2.2; stm p.1 p.2.1 p.2.2.1 p.2.2.2.1 p.2.2.2.2.1 p.2.2.2.2.2.1 p.2.2.2.2.2.2.1 p.2.2.2.2.2.2.2.1 q1.1 q1.2.1 q1.2.2.1 q1.2.2.2.1 q1.2.2.2.2.1 q1.2.2.2.2.2.1 q1.2.2.2.2.2.2.1 q1.2.2.2.2.2.2.2.1 q2.1 q2.2.1 q2.2.2.1 q2.2.2.2.1 q2.2.2.2.2.1 q2.2.2.2.2.2
@[irreducible] noncomputable def cc : Dat := @Classical.epsilon Dat ⟨(world0, fun _ => none, fun _ => none, fun _ => none, (0 : Nat), [], [], 0, none, default, default, (0 : Nat), (0 : Nat), .none, [], [], {}, {}, {}, fun _ => none, {}, fun _ _ => True)⟩ fun p => ¬ ok p
noncomputable def c1 := cc.2.2.2.2.2.2.2.2
noncomputable def c2 := c1.2.2.2.2.2.2.2.2
@[irreducible] noncomputable def w : World := cc.1
@[irreducible] noncomputable def mean : ExcName → Option Value := cc.2.1
@[irreducible] noncomputable def mg : Str → Option Value := cc.2.2.1
@[irreducible] noncomputable def mb : Str → Option Value := cc.2.2.2.1
@[irreducible] noncomputable def e : Addr := cc.2.2.2.2.1
@[irreducible] noncomputable def ds : List Value := cc.2.2.2.2.2.1
@[irreducible] noncomputable def ns : List Int := cc.2.2.2.2.2.2.1
@[irreducible] noncomputable def ke : Nat := cc.2.2.2.2.2.2.2.1
@[irreducible] noncomputable def gdₛ : Option (List Code) := c1.1
@[irreducible] noncomputable def cnₛ : Str := c1.2.1
@[irreducible] noncomputable def csₛ : Scope := c1.2.2.1
@[irreducible] noncomputable def Lₛ : Addr := c1.2.2.2.1
@[irreducible] noncomputable def aₛ : Addr := c1.2.2.2.2.1
@[irreducible] noncomputable def ccdₛ : Value := c1.2.2.2.2.2.1
@[irreducible] noncomputable def clₛ : List (Str × Addr) := c1.2.2.2.2.2.2.1
@[irreducible] noncomputable def outerₛ : List Env := c1.2.2.2.2.2.2.2.1
@[irreducible] noncomputable def A₀ₛ : Around := c2.1
@[irreducible] noncomputable def baseₛ : Heap := c2.2.1
@[irreducible] noncomputable def h₀ₛ : Heap := c2.2.2.1
@[irreducible] noncomputable def mₛ : Str → Option Value := c2.2.2.2.1
@[irreducible] noncomputable def sₛ : Shared := c2.2.2.2.2.1
@[irreducible] noncomputable def RRₛ : Result → Shared → Prop := c2.2.2.2.2.2
theorem core : stm w mean mg mb e ds ns ke gdₛ cnₛ csₛ Lₛ aₛ ccdₛ clₛ outerₛ A₀ₛ baseₛ h₀ₛ mₛ sₛ RRₛ := by
  intro hi hl hr
  walk_at "c_startC"
  w_strict (walk_at "k_toL")
  refine For_turns (by assumption) ?_
  walk_at "k_to"
  rename Fr _ _ _ _ => F0
  rename News _ _ _ _ => N0
  refine nameL F0 ?_
  intro L0 eL
  subst eL
  refine name1 N0 ?_
  intro fl ef
  subst ef
  refine for_rangeS (n := 15) (ReaI ns fl L0 e (W.listOf (List.toArray ds) ke)) [] rfl (by assumption) (by decide) (by decide) F0 N0 trivial (by exact ReaI.mk (k := 0) (bs := [true]) rfl (by assumption) (by assumption) (by assumption)) ?_ ?_
  · rintro I i t ps₁ u news₁ it h tk Pp hi9 hI hit ⟨hbs, c1, c2, c3⟩ F1 N1 hN - - -
    rename_i k bs o1 o2 o3 mv
    have hbl : bs.length = i + 1 := by rw [hbs, flagsI_len]
    (try dsimp only [kstB] at F1)
    clear F0 N0
    k_lt hI
    walk_at "k_toL"
    rename Fr _ _ _ _ => F2
    refine LCt.Assign_ListComp_T (F₀ := F2) (by rfl) (by with_unfolding_all rfl) (by with_unfolding_all rfl) (by decide) (by rfl) (by decide) (by rfl) (by rfl) (by rfl) ?_
    walk_at "k_srcT"
    rename Fr _ _ _ _ => F3
    rename News _ _ _ _ => N3
    refine LCt.CompSrcT.range (n := 4) rfl F3 N3 (by assumption) (by decide) (by decide) (by exact Nat.le_of_ble_eq_true rfl) ?_
    intro g9
    refine filt_rest (fun j => lastI bs (1 + (i : Int)) (0 + (j : Int))) (fun j => (0 : Int) + (j : Int)) ?_ ?_
    · intro j v I' oI' C' oC' D' m' ys' h' tk' E' hj hv hC' hx' F' N' off' ne'
      obtain ⟨t9, hv⟩ := hv
      subst hv
      have off0 := off'
      simp only [LCg.Off3, and_true] at off'
      have hba : BitAt (1 + (i : Int)) (0 + (j : Int)) := ⟨⟨by omega, by omega⟩, by omega, by omega⟩
      walk_at "k_comp"
      · exact LCg.CompEnd.intro (by assumption) (by assumption) _ (fun p hp => hp) off0 trivial ⟨rfl, last_yes (by assumption) (by assumption), _, rfl⟩
      · exact LCg.CompEnd.intro (by assumption) (by assumption) _ (fun p hp => hp) off0 trivial ⟨rfl, last_no (by assumption)⟩
      · exact LCg.CompEnd.intro (by assumption) (by assumption) _ (fun p hp => hp) off0 trivial ⟨rfl, last_no' (by assumption)⟩
    · intro ys hys hyl
      unfold LCg.FinA
      intro D9 h9 tk9 F9 N9 off9
      (try clear F2)
      clear F3 N3
      simp only [LCg.Off1, and_true] at off9
      change IntsAre ys (lastsI bs (1 + (i : Int))) at hys
      walk_at "k_toL"
      rename Fr _ _ _ _ => F2
      refine LCt.ListComp_T F2 (by with_unfolding_all rfl) (by decide) (by rfl) (by decide) (by rfl) ?_
      walk_at "k_srcT"
      rename Fr _ _ _ _ => F3
      rename News _ _ _ _ => N3
      refine LCt.CompSrcT.ledger (ax := D9) (its := List.toArray ys) (k := ys.length) rfl F3 N3 (List.Mem.head _) (by rw [List.size_toArray, sizeLine_eq]; omega) ?_
      intro g8
      refine filt_rest (fun j => goodI ns (1 + (i : Int)) ((lastsI bs (1 + (i : Int))).getD j 0)) (fun j => (lastsI bs (1 + (i : Int))).getD j 0) ?_ ?_
      · intro j v I' oI' C' oC' D' m' ys' h' tk' E' hj hv hC' hx' F' N' off' ne'
        (try clear F2)
        clear F3 N3
        rw [List.getElem?_toArray] at hv
        obtain ⟨x, t9, ev, hx9⟩ := IntsAre.at hys j v hv
        subst ev
        have hxr := lastsI_rng (List.mem_of_getElem? hx9)
        have hxe : (lastsI bs (1 + (i : Int))).getD j 0 = x := by rw [List.getD_eq_getElem?_getD, hx9]; rfl
        rw [hxe]
        have off0 := off'
        simp only [LCg.Off3, and_true] at off'
        walk_at "k_comp"
        · exact LCg.CompEnd.intro (by assumption) (by assumption) _ (fun p hp => hp) off0 (.inr ⟨_, List.Mem.head _, rfl, _, rfl⟩) ⟨rfl, good_yes (by assumption), _, rfl⟩
        · exact LCg.CompEnd.intro (by assumption) (by assumption) _ (fun p hp => hp) off0 (.inr ⟨_, List.Mem.head _, rfl, _, rfl⟩) ⟨rfl, good_no (by assumption)⟩
      · intro zs hzs hzl
        have hlen := hys.length
        rw [List.size_toArray, hlen] at hzs
        have hzs2 : IntsAre zs ((lastsI bs (1 + (i : Int))).filter (goodI ns (1 + (i : Int)))) := by
          rw [← any_of_idx (p := goodI ns (1 + (i : Int)))]; exact hzs
        clear hzs
        rw [List.size_toArray] at hzl
        unfold LCg.FinE
        intro D8 h8 tk8 F8 N8 off8
        (try clear F2)
        clear F3 N3
        simp only [LCg.Off1, and_true] at off8
        walk_at "k_run"
        rename Fr _ _ _ _ => F5
        rename News _ _ _ _ => N5
        have hb : (!decide (List.filter (goodI ns (1 + (i : Int))) (lastsI bs (1 + (i : Int))) = [])) = flagI ns bs (1 + (i : Int)) := by
          rw [flagI, filt_any]
        rw [hb, List.push_toArray] at N5
        have hbs2 : List.map Value.bool bs ++ [Value.bool (flagI ns bs (1 + (i : Int)))] = (flagsI ns (i + 1)).map Value.bool := by
          rw [flagsI, List.map_append, ← hbs]; rfl
        rw [hbs2] at N5
        refine hN _ ?_
        refine AtI.intro F5 N5 [] [((fl : Addr), W.listOf (List.toArray ((flagsI ns (i + 1)).map Value.bool)) (k + 1)), (L0 + 1 + 1 + 1, _), (L0 + 1 + 1, o2), (L0 + 1, o3), (e, W.listOf (List.toArray ds) ke)] trivial (List.Mem.tail _ (List.Mem.tail _ (List.Mem.tail _ (List.Mem.head _)))) (fun p hp => mt4 hp) (by k_all) (ReaI.mk rfl (by assumption) c2 c3)
  · rintro ps₁ u news₁ h tk ⟨hbs, c1, c2, c3⟩ F1 N1
    rename_i k bs o1 o2 o3 mv
    (try dsimp only [kstB] at F1)
    clear F0 N0
    subst hbs
    walk_at "k_run"
    have N5 := news_sub N1 (news := [((fl : Addr), W.listOf (List.toArray ((flagsI ns 15).map Value.bool)) k), (e, W.listOf (List.toArray ds) ke)]) (fun p hp => by
      rcases List.mem_cons.mp hp with rfl | hp
      · exact .head _
      · rw [List.mem_singleton.mp hp]; exact mt4 (.head _))
    (rename (∀ _ _ _ _, Left _ _ _ _ → _) => hret9)
    (rename (∀ _ _, _ → ¬ _ ∈ List.map _ _ → _) => hg9)
    k_dflt (refine' hret9 _ _ _ _ (left_of ?F9 N5 hg9) ?_; (case F9 => assumption))
    exact ⟨fl, k, rfl, rfl, by omega⟩
theorem all (p : Dat) : ok p := drink _ ok (by with_unfolding_all exact core) p
end S_reached_con
theorem reached_con (w : World) (mean) (mg mb) (e : Addr) (ds : List Value) (ns : List Int) (ke : Nat) (hi : IntsAre ds ns) (hl : ns.length = 4) (hr : ∀ x ∈ ns, 0 ≤ x ∧ x ≤ 15) : Con w mean mg mb 420 1700 174 [.ref e] [(e, W.listOf (List.toArray ds) ke)]
      (fun r news' => ∃ fl k : Nat, r = .ref fl ∧ news' = [((fl : Addr), W.listOf (List.toArray ((flagsI ns 15).map Value.bool)) k), (e, W.listOf (List.toArray ds) ke)] ∧ @LT.lt Nat _ e fl) :=
  fun gdₛ cnₛ csₛ Lₛ aₛ ccdₛ clₛ outerₛ A₀ₛ baseₛ h₀ₛ mₛ sₛ RRₛ => S_reached_con.all (w, mean, mg, mb, e, ds, ns, ke, gdₛ, cnₛ, csₛ, Lₛ, aₛ, ccdₛ, clₛ, outerₛ, A₀ₛ, baseₛ, h₀ₛ, mₛ, sₛ, RRₛ) hi hl hr
theorem at_Led : True := by
  w_top off
  k_with "setItem ref int" => ((with_reducible show wpAny _ _ (setItem (Value.ref _) (Value.int _ _) (Value.ref _)) _ _ _); k_dflt (refine' kda_set (knd := PySem.intKind _ _) ?Fₖ₆₃ ?Nₖ₆₃ ?Uₖ₆₃ ?dₖ₆₃ (intKind_is _ _ _ _) ?zₖ₆₃ ?_; (case Fₖ₆₃ => k_asm); (case Nₖ₆₃ => k_asm); (case Uₖ₆₃ => k_updF); (case dₖ₆₃ => k_asm); (case zₖ₆₃ => (rw [sizeLine_eq]; omega))); intro h'ₖ o'ₖ F'ₖ N'ₖ hd'ₖ; (try dsimp only at N'ₖ))
  k_with "subscriptTail" => ((with_reducible show wpAny _ _ (subscriptTail _ _ (Value.ref _) (Value.int _ _)) _ _ _); k_dflt (refine' item_out ?hₖ₂₂ ?Nₖ₂₂ ?mₖ₂₂ ?iₖ₂₂ ?oₖ₂₂ ?zₖ₂₂ ?_ ?sₖ₂₂; (case hₖ₂₂ => exact rfl); (case Nₖ₂₂ => k_asm); (case mₖ₂₂ => k_mem); (case iₖ₂₂ => with_reducible assumption); (case oₖ₂₂ => omega); (case zₖ₂₂ => omega); (case sₖ₂₂ => with_unfolding_all rfl)); intro h'ₖ tk'ₖ e'ₖ hx'ₖ; (try (with_reducible refine pass_on (by passes_own) ?_)); (try dsimp only))
  k_with "noteFrame ref" => ((with_reducible show wpAny _ _ (noteFrame _ _) (fun _ s₂ => wpAny _ _ (setFlight _ none) (fun _ s₃ => wpAny _ _ (handleBy _ _ (ExceptHandler.ExceptHandler (some (Expr.Name ("IndexError" : Str) _)) none _ _ :: _)) _ _ s₃) _ s₂) _ _); (with_reducible rename Heap.NewExc _ _ _ _ => hx9ₖ); (with_reducible rename BaseOk _ _ _ _ _ => hB9ₖ); (with_reducible rename Gr _ _ _ _ _ _ _ _ _ => G9ₖ); (with_reducible rename Fr _ _ _ _ => F9ₖ); (with_reducible rename News _ _ _ _ => N9ₖ); (with_reducible rename KtsDicts _ _ => D9ₖ); (with_reducible rename Below _ _ _ _ => B9ₖ); (with_reducible rename Frag.In _ _ => X9ₖ); (with_reducible rename Top _ _ _ _ _ _ => T9ₖ); k_dflt (refine' caught_here (X := "IndexError") (T' := "IndexError") B9ₖ (toC hx9ₖ) F9ₖ N9ₖ hB9ₖ.inn hB9ₖ.top D9ₖ ?exₖ₂₃ PyProof.Rows.Boot.«IndexError» ?hnₖ₂₃ PySem.F.isExc_IndexError PySem.F.notTuple_IndexError ?hsₖ₂₃ ?_; (case hsₖ₂₃ => kts_sub); (case exₖ₂₃ => k_is); (case hnₖ₂₃ => decide); k_whole); intro h'ₖ g'ₖ T'ₖ F'ₖ N'ₖ B'ₖ X'ₖ P'ₖ D'ₖ; have G'ₖ := G9ₖ.trans (Gr.mk T'ₖ B'ₖ X'ₖ P'ₖ D'ₖ); clear G9ₖ B9ₖ X9ₖ T9ₖ D9ₖ F9ₖ N9ₖ hx9ₖ T'ₖ)
  k_with "k_callR" => repeat' (first | ((fail_if_success (with_reducible show wpAny _ _ (call (Value.ref _) _) _ _ _)); first | (k_unfold; (try dsimp only)) | walk1) | (dsimp only; (fail_if_success (with_reducible show wpAny _ _ (call (Value.ref _) _) _ _ _)); walk1) | fail "no step")
  k_with "k_callL" => repeat' (first | ((fail_if_success (with_reducible show wpAny _ _ (call (Value.ref _) _) _ _ _)); (fail_if_success (with_reducible show wpAny _ _ (exec (Stmt.Assign [_] (Expr.ListComp _ _ _ _) _) _) _ _ _)); first | (k_unfold; (try dsimp only)) | walk1) | (dsimp only; (fail_if_success (with_reducible show wpAny _ _ (call (Value.ref _) _) _ _ _)); (fail_if_success (with_reducible show wpAny _ _ (exec (Stmt.Assign [_] (Expr.ListComp _ _ _ _) _) _) _ _ _)); walk1) | fail "no step")
  exact trivial
structure OffA (A : SA) (l : List (Addr × Obj)) : Prop where
  ne : ∀ a ∈ A.R :: adrN A, ∀ q ∈ l, @Ne Nat a q.1
theorem OffA.hr {w : World} {A : SA} {V : SV} {n : Int → Int} {l : List (Addr × Obj)} (h : OffA A l) : ∀ p ∈ l, p.1 ∉ (sorN w A V n).map (·.1) := fun p hp hx => by
  rw [sorN_adr] at hx
  exact h.ne _ hx p hp rfl
theorem OffA.of {w : World} {A : SA} {V : SV} {n : Int → Int} {l : List (Addr × Obj)} (h : ∀ p ∈ sorN w A V n, ∀ q ∈ l, @Ne Nat p.1 q.1) : OffA A l := ⟨fun a ha q hq => by
  rw [← sorN_adr (w := w) (V := V) (n := n)] at ha
  obtain ⟨p, hp, e⟩ := List.mem_map.mp ha
  exact e ▸ h p hp q hq⟩
theorem OffA.app {A : SA} {l r : List (Addr × Obj)} (h : OffA A l) (k : OffA A r) : OffA A (l ++ r) := ⟨fun a ha q hq => (List.mem_append.mp hq).elim (h.ne a ha q) (k.ne a ha q)⟩
theorem OffA.cons {A : SA} {p : Addr × Obj} {r : List (Addr × Obj)} (h : ∀ a ∈ A.R :: adrN A, @Ne Nat a p.1) (k : OffA A r) : OffA A (p :: r) := ⟨fun a ha q hq => (List.mem_cons.mp hq).elim (fun e => e ▸ h a ha) (k.ne a ha q)⟩
theorem OffA.sub {A : SA} {l r : List (Addr × Obj)} (h : OffA A l) (k : ∀ p ∈ r, p ∈ l) : OffA A r := ⟨fun a ha q hq => h.ne a ha q (k q hq)⟩
theorem in_ledI {prog : Program} {w : World} {A : Around} {E : Value → Shared → Prop} {s : Shared} {h₀ : Heap} {L l : Addr} {news : List (Addr × Obj)} {vs : List Value} {ns : List Int} {n : Nat} {k : Int} {t : Tok} {Q : Value → Shared → Prop} (N : News h₀ L s.heap news) (hm : (l, W.listOf (List.toArray vs) n) ∈ news) (hi : IntsAre vs ns)
    (h : Q (.bool (decide (k ∈ ns))) s) : wpAny (model prog w) A (compareOp .In (.int k t) (.ref l)) Q E s := by
  refine in_list_ints (PySem.IsL.isList (n := n) (N _ hm).1) hi ?_
  have e : (ns.any fun x => x == k) = decide (k ∈ ns) := by
    by_cases q : k ∈ ns
    · rw [decide_eq_true q, List.any_eq_true]; exact ⟨k, q, by simp⟩
    · rw [decide_eq_false q, List.any_eq_false]; intro x hx e9; exact q ((by simpa using e9 : x = k) ▸ hx)
  rw [e]; exact h
theorem lines_Led_1206 : True := by
  k_with "compareOp In int ref" => (k_dflt (refine' in_ledI ?Nₖ₇₇ ?mₖ₇₇ ?iₖ₇₇ ?_; (case Nₖ₇₇ => k_asm); (case mₖ₇₇ => k_mem); (case iₖ₇₇ => with_reducible assumption)))
  exact trivial
theorem off1_mem {D : Addr} (l : List (Addr × Obj)) (h : LCg.Off1 D l) : ∀ p ∈ l, p.1 ≠ D := by
  induction l with
  | nil => intro p hp; cases hp
  | cons a r ih =>
    intro p hp
    rcases List.mem_cons.mp hp with e | hp
    · rw [e]; exact h.1
    · exact ih h.2 p hp
theorem sorN_ts {w : World} {A : SA} {V : SV} {n : Int → Int} : ∀ p ∈ tsL w A.P A.dP A.D A.h1 A.h2 A.h3 A.h4 (.ref A.R) V.po V.fi V.tpo V.tfi, p ∈ sorN w A V n := fun p hp => .tail _ (List.mem_append.mpr (.inl hp))
theorem offT_sor {w : World} {A : SA} {V : SV} {n : Int → Int} {ld : Nat} {o : Obj} {own : List (Addr × Obj)} (h : OffA A [((ld : Addr), o)]) (k : OffT ld own) : OffT ld (sorN w A V n ++ own) := ⟨fun p hp => by
  rcases List.mem_append.mp hp with hp | hp
  · have : p.1 ∈ A.R :: adrN A := by rw [← sorN_adr (w := w) (V := V) (n := n)]; exact List.mem_map_of_mem hp
    exact h.ne _ this _ (.head _)
  · exact k.ne p hp⟩
theorem OffA.one {A : SA} {a : Nat} {o o' : Obj} (h : OffA A [((a : Addr), o)]) : OffA A [((a : Addr), o')] := ⟨fun x hx q hq => by
  rw [List.mem_singleton.mp hq]; exact h.ne x hx (a, o) (.head _)⟩
theorem nameK {P : Prop} {g h : Heap} {L a b : Addr} {oa : Obj} {x : Array Value} {k : Nat} {r : List (Addr × Obj)} (_N : News g L h ((a, oa) :: (b, W.listOf x k) :: r)) (h : ∀ k' : Nat, k' = k → P) : P := h k rfl
structure LedR (E : List (Int × Int)) (W ns : List Int) : Prop where
  ex : ∃ (D : List Int) (n : Int → Int), LedAt E W D n [] ∧ ns.Perm D ∧ ns.Pairwise (fun x y => x ≤ y)
theorem filt_idx {nr W : List Int} {ys : List Value} (h : IntsAre ys (((List.range nr.length).filter fun (j : Nat) => decide (nr.getD j 0 ∈ W)).map fun (j : Nat) => nr.getD j 0)) : IntsAre ys (nr.filter fun t => decide (t ∈ W)) := by
  rw [← any_of_idx (p := fun t => decide (t ∈ W))]; exact h
theorem nameO {P : Prop} {g h : Heap} {L a : Addr} {o : Obj} {r : List (Addr × Obj)} (_N : News g L h ((a, o) :: r)) (k : ∀ o' : Obj, o' = o → P) : P := k o rfl
inductive LedI (w : World) (E : List (Int × Int)) (nw : List Int) (A : SA) (ld L1 wd : Nat) (oc : Obj) (ws : List Value) (kw : Nat) (own : List (Addr × Obj)) : List Int × (Int → Int) × List Int → List (Str × Value) → List (Addr × Obj) → Prop
  | mk {D : List Int} {nn : Int → Int} {st : List Int} {sp : Nat} {sv : List Value} {ks : Nat} {lv : List Value} {kl : Nat} {V' : SV} (h : LedAt E nw D nn st) (h1 : IntsAre sv st) (h2 : IntsAre lv D.reverse) (ok : SorOk w A V' E []) (ne : @Ne Nat sp ld) (off : OffA A [((sp : Addr), W.listOf (List.toArray sv) ks)]) :
    LedI w E nw A ld L1 wd oc ws kw own (D, nn, st) [(("plan" : Str), .ref A.P), (("led" : Str), .ref ld), (("step" : Str), .ref sp)]
      (((sp : Addr), W.listOf (List.toArray sv) ks) :: ((ld : Addr), W.listOf (List.toArray lv) kl) :: ((A.P : Addr), instObj 151 A.dP) :: (L1, oc) :: (wd, W.listOf (List.toArray ws) kw) :: (sorN w A V' nn ++ own))
namespace S_led_con
noncomputable def stm (w : World) (mean : ExcName → Option Value) (mg mb : Str → Option Value) (e wd : Addr) (tl : List TE) (ke : Nat) (ws : List Value) (nw : List Int) (kw : Nat) (gdₛ : Option (List Code)) (cnₛ : Str) (csₛ : Scope) (Lₛ aₛ : Addr) (ccdₛ : Value) (clₛ : List (Str × Addr)) (outerₛ : List Env) (A₀ₛ : Around) (baseₛ h₀ₛ : Heap) (mₛ : Str → Option Value) (sₛ : Shared) (RRₛ : Result → Shared → Prop) : Prop := ∀ (hle : tl.length ≤ 4) (hr : ∀ x ∈ tl, (0 ≤ x.a ∧ x.a ≤ 3) ∧ (0 ≤ x.b ∧ x.b ≤ 3) ∧ x.a ≠ x.b) (hw : IntsAre ws nw) (hwl : nw.length ≤ 4) (hwe : ∀ q ∈ ((e, W.listOf (List.toArray (tupV tl)) ke) :: tupL tl), @Ne Nat wd q.1), ConSB w mean mg mb 370 1200 198 [.ref e, .ref wd] ((wd, W.listOf (List.toArray ws) kw) :: ((e, W.listOf (List.toArray (tupV tl)) ke) :: tupL tl))
      (fun r news' => ∃ (M : Nat) (ms : List Value) (ns : List Int) (km : Nat), r = .ref M ∧ news' = ((M : Addr), W.listOf (List.toArray ms) km) :: (wd, W.listOf (List.toArray ws) kw) :: ((e, W.listOf (List.toArray (tupV tl)) ke) :: tupL tl) ∧ IntsAre ms ns ∧ LedR (edgF tl) nw ns) gdₛ cnₛ csₛ Lₛ aₛ ccdₛ clₛ outerₛ A₀ₛ baseₛ h₀ₛ mₛ sₛ RRₛ
noncomputable abbrev Dat := World × (ExcName → Option Value) × (Str → Option Value) × (Str → Option Value) × Addr × Addr × List TE × Nat × List Value × List Int × Nat × Option (List Code) × Str × Scope × Addr × Addr × Value × (List (Str × Addr)) × List Env × Around × Heap × Heap × (Str → Option Value) × Shared × (Result → Shared → Prop)
noncomputable def ok (p : Dat) : Prop := let q1 := p.2.2.2.2.2.2.2.2; let q2 := q1.2.2.2.2.2.2.2.2; stm p.1 p.2.1 p.2.2.1 p.2.2.2.1 p.2.2.2.2.1 p.2.2.2.2.2.1 p.2.2.2.2.2.2.1 p.2.2.2.2.2.2.2.1 q1.1 q1.2.1 q1.2.2.1 q1.2.2.2.1 q1.2.2.2.2.1 q1.2.2.2.2.2.1 q1.2.2.2.2.2.2.1 q1.2.2.2.2.2.2.2.1 q2.1 q2.2.1 q2.2.2.1 q2.2.2.2.1 q2.2.2.2.2.1 q2.2.2.2.2.2.1 q2.2.2.2.2.2.2.1 q2.2.2.2.2.2.2.2.1 q2.2.2.2.2.2.2.2.2
@[irreducible] noncomputable def cc : Dat := @Classical.epsilon Dat ⟨(world0, fun _ => none, fun _ => none, fun _ => none, (0 : Nat), (0 : Nat), [], 0, [], [], 0, none, default, default, (0 : Nat), (0 : Nat), .none, [], [], {}, {}, {}, fun _ => none, {}, fun _ _ => True)⟩ fun p => ¬ ok p
noncomputable def c1 := cc.2.2.2.2.2.2.2.2
noncomputable def c2 := c1.2.2.2.2.2.2.2.2
@[irreducible] noncomputable def w : World := cc.1
@[irreducible] noncomputable def mean : ExcName → Option Value := cc.2.1
@[irreducible] noncomputable def mg : Str → Option Value := cc.2.2.1
@[irreducible] noncomputable def mb : Str → Option Value := cc.2.2.2.1
@[irreducible] noncomputable def e : Addr := cc.2.2.2.2.1
@[irreducible] noncomputable def wd : Addr := cc.2.2.2.2.2.1
@[irreducible] noncomputable def tl : List TE := cc.2.2.2.2.2.2.1
@[irreducible] noncomputable def ke : Nat := cc.2.2.2.2.2.2.2.1
@[irreducible] noncomputable def ws : List Value := c1.1
@[irreducible] noncomputable def nw : List Int := c1.2.1
@[irreducible] noncomputable def kw : Nat := c1.2.2.1
@[irreducible] noncomputable def gdₛ : Option (List Code) := c1.2.2.2.1
@[irreducible] noncomputable def cnₛ : Str := c1.2.2.2.2.1
@[irreducible] noncomputable def csₛ : Scope := c1.2.2.2.2.2.1
@[irreducible] noncomputable def Lₛ : Addr := c1.2.2.2.2.2.2.1
@[irreducible] noncomputable def aₛ : Addr := c1.2.2.2.2.2.2.2.1
@[irreducible] noncomputable def ccdₛ : Value := c2.1
@[irreducible] noncomputable def clₛ : List (Str × Addr) := c2.2.1
@[irreducible] noncomputable def outerₛ : List Env := c2.2.2.1
@[irreducible] noncomputable def A₀ₛ : Around := c2.2.2.2.1
@[irreducible] noncomputable def baseₛ : Heap := c2.2.2.2.2.1
@[irreducible] noncomputable def h₀ₛ : Heap := c2.2.2.2.2.2.1
@[irreducible] noncomputable def mₛ : Str → Option Value := c2.2.2.2.2.2.2.1
@[irreducible] noncomputable def sₛ : Shared := c2.2.2.2.2.2.2.2.1
@[irreducible] noncomputable def RRₛ : Result → Shared → Prop := c2.2.2.2.2.2.2.2.2
theorem core : stm w mean mg mb e wd tl ke ws nw kw gdₛ cnₛ csₛ Lₛ aₛ ccdₛ clₛ outerₛ A₀ₛ baseₛ h₀ₛ mₛ sₛ RRₛ := by
  intro hle hr hw hwl hwe
  have eo : EOk (edgF tl) := ⟨fun x hx => by obtain ⟨y, hy, rfl⟩ := List.mem_map.mp hx; exact hr y hy, by rw [edgF_len]; exact hle⟩
  walk_at "c_startSC"
  w_strict (walk_at "k_callR")
  rename Fr _ _ _ _ => F0
  rename News _ _ _ _ => N0
  refine nameL F0 ?_
  intro L0 eL
  subst eL
  refine nameO N0 ?_
  intro oc eo
  subst eo
  refine' use_conS (newsC := (e, W.listOf (List.toArray (tupV tl)) ke) :: tupL tl) (rest := [(L0 + 1, oc), (wd, W.listOf (List.toArray ws) kw)]) (plan_con w mean mg mb e tl ke hle hr) ?B3 F0 ?X3 (news_sub N0 (fun p hp => mt2 hp)) (news_sub N0 ?NR) ?T3 (by exact (‹BaseOk _ _ _ _ _›).inn) (by exact (‹BaseOk _ _ _ _ _›).top) ?D3 rfl (by first | assumption | rfl) rfl (Nat.le_of_ble_eq_true rfl) (Nat.le_of_ble_eq_true rfl) ?HR ?_
  case B3 => assumption
  case X3 => assumption
  case T3 => assumption
  case D3 => assumption
  case NR => exact (fun p hp => by
    rcases List.mem_cons.mp hp with rfl | hp
    · exact .head _
    · rw [List.mem_singleton.mp hp]; exact .tail _ (.head _))
  case HR =>
    intro p hp hx
    obtain ⟨q, hq, e9⟩ := List.mem_map.mp hx
    have e9' : q.1 = p.1 := e9
    have l9 : @LT.lt Nat _ q.1 L0 := by
      rcases List.mem_cons.mp hq with rfl | hq
      · exact (‹_ ∧ _ ∧ AllLt L0 (tupL tl)›).2.1
      · exact (‹Under L0 (tupL tl)›).lt q hq
    rcases List.mem_cons.mp hp with rfl | hp
    · have : @Eq Nat q.1 (L0 + 1) := e9'; omega
    · rw [List.mem_singleton.mp hp] at e9'
      exact hwe q hq e9'.symm
  rintro r news' h' tk' g5 G5 F5 N5 fr5 ⟨T, A, V, b, rfl, rfl, ok, hT1, hsep, hT2, hb⟩
  clear F0 N0
  have B5 := G5.below
  have X5 := G5.inn
  have T5 := G5.top
  have D5 := G5.dicts
  have oA1 : OffA A ((e, W.listOf (List.toArray (tupV tl)) ke) :: tupL tl) := OffA.of (w := w) (V := V) (n := cntF (edgF tl)) hsep
  have oA2 : OffA A [(L0 + 1, oc), (wd, W.listOf (List.toArray ws) kw)] := OffA.of (w := w) (V := V) (n := cntF (edgF tl)) (fun p hp q hq => by
    rcases fr5 p (.tail _ (List.mem_append.mpr (.inl hp))) with h | h
    · obtain ⟨z, hz, e9⟩ := List.mem_map.mp h
      exact absurd e9.symm (hsep p hp z hz)
    · exact fun z => h q hq z.symm)
  have hwe2 := hwe
  have hU2 : Under T (sorN w A V (cntF (edgF tl)) ++ ((e, W.listOf (List.toArray (tupV tl)) ke) :: tupL tl)) := ⟨fun p hp => (List.mem_append.mp hp).elim (hT1.lt p) (hT2.lt p)⟩
  have hUL : @LT.lt Nat _ e L0 ∧ Under L0 (tupL tl) := ⟨(‹_ ∧ _ ∧ AllLt L0 (tupL tl)›).2.1, by assumption⟩
  have N6 : News g5 L0 h' ((T, ({ cls := .type "tuple", data := .seq #[.ref A.P, .bool b] } : Obj)) :: ((A.P : Addr), instObj 151 A.dP) :: (L0 + 1, oc) :: (wd, W.listOf (List.toArray ws) kw) :: (sorN w A V (cntF (edgF tl)) ++ ((e, W.listOf (List.toArray (tupV tl)) ke) :: tupL tl))) := news_sub N5 (fun p hp => by
    rcases List.mem_cons.mp hp with rfl | hp
    · exact .head _
    · rcases List.mem_cons.mp hp with rfl | hp
      · exact .tail _ (List.mem_append.mpr (.inl (List.mem_append.mpr (.inl sorN_P))))
      · rcases List.mem_cons.mp hp with rfl | hp
        · exact .tail _ (List.mem_append.mpr (.inr (.head _)))
        · rcases List.mem_cons.mp hp with rfl | hp
          · exact .tail _ (List.mem_append.mpr (.inr (.tail _ (.head _))))
          · exact .tail _ (List.mem_append.mpr (.inl hp)))
  clear N5 hT1 hT2 fr5 hsep
  generalize hown : ((e, W.listOf (List.toArray (tupV tl)) ke) :: tupL tl) = own at *
  walk_at "k_callL"
  rename Fr _ _ _ _ => F7
  rename News _ _ _ _ => N7
  refine Assign_ListComp_TU (vs := V.rd) F7 (by rfl) (by with_unfolding_all rfl) (by with_unfolding_all rfl) (by decide) (by rfl) (by decide) (by rfl) (by rfl) (by rfl) (by rw [ok.rd.length, sizeLine_eq]; have := nodup_four (Inv.init (edgF tl)).nod (Inv.init (edgF tl)).rng; omega) ?_
  walk_at "k_callR"
  rename Fr _ _ _ _ => F8
  rename News _ _ _ _ => N8
  refine name1 N8 ?_
  intro ld eld
  subst eld
  have hoL : OffA A [(ld, W.listOf (List.toArray []) 0)] := OffA.of (w := w) (V := V) (n := cntF (edgF tl)) (fun p hp q hq => by
    rw [List.mem_singleton.mp hq]
    have h9 := (under_of (‹_ ∧ _ ∧ _ ∧ _ ∧ AllLt ld (sorN w A V (cntF (edgF tl)) ++ own)›).2.2.2.2).lt p (List.mem_append.mpr (.inl hp))
    exact Nat.ne_of_lt h9)
  have hoT : OffT ld own := ⟨fun p hp => Nat.ne_of_lt ((under_of (‹_ ∧ _ ∧ _ ∧ _ ∧ AllLt ld (sorN w A V (cntF (edgF tl)) ++ own)›).2.2.2.2).lt p (List.mem_append.mpr (.inr hp)))⟩
  refine' use_con (newsC := sorN w A V (cntF (edgF tl))) (rest := (ld, W.listOf (List.toArray []) 0) :: (L0 + 1, oc) :: (wd, W.listOf (List.toArray ws) kw) :: own) (ready_w w mean mg mb A V (edgF tl) (cntF (edgF tl)) _ ok (nodup_four (Inv.init (edgF tl)).nod (Inv.init (edgF tl)).rng) (Inv.init (edgF tl)).rng) B5 F8 X5 (news_sub N8 ?sb) T5 rfl (by first | assumption | rfl) rfl (Nat.le_of_ble_eq_true rfl) (Nat.le_of_ble_eq_true rfl) rfl (OffA.hr (OffA.app hoL (OffA.app oA2 oA1))) ?_
  case sb => exact (by
    walk_at "sub_z")
  rintro r news' h6 tk6 F9 N9 fr9 ⟨T2, V2, rfl, rfl, ok2⟩
  have hs9 := sep_rest rfl (OffA.hr (OffA.app hoL (OffA.app oA2 oA1))) fr9
  clear F8 N8 fr9
  refine SrcU.intro rfl F9 N9 (.head _) ?_
  intro g8
  have nr4 := nodup_four (Inv.init (edgF tl)).nod (Inv.init (edgF tl)).rng
  have hrl := ok.rd.length
  refine filt_rest (fun j => decide ((rdF (cntF (edgF tl) 0) (cntF (edgF tl) 1) (cntF (edgF tl) 2) (cntF (edgF tl) 3)).getD j 0 ∈ nw)) (fun j => (rdF (cntF (edgF tl) 0) (cntF (edgF tl) 1) (cntF (edgF tl) 2) (cntF (edgF tl) 3)).getD j 0) ?_ ?_
  · intro j v I' oI' C' oC' D' m' ys' h' tk' E' hj hv hC' hx' F' N' off' ne'
    (try clear F7); (try clear N7); (try clear F9); (try clear N9)
    rw [List.getElem?_toArray] at hv
    obtain ⟨x, t9, ev, hx9⟩ := IntsAre.at ok.rd j v hv
    subst ev
    have hxe : (rdF (cntF (edgF tl) 0) (cntF (edgF tl) 1) (cntF (edgF tl) 2) (cntF (edgF tl) 3)).getD j 0 = x := by rw [List.getD_eq_getElem?_getD, hx9]; rfl
    rw [hxe]
    have off0 := off'
    walk_at "k_comp"
    · exact LCg.CompEnd.intro (by assumption) (by assumption) _ (fun p hp => hp) off0 (.head _) ⟨rfl, by first | exact decide_eq_true (by assumption) | assumption, _, rfl⟩
    · exact LCg.CompEnd.intro (by assumption) (by assumption) _ (fun p hp => hp) off0 (.head _) ⟨rfl, by first | exact decide_eq_false (by assumption) | assumption⟩
  · intro ys hys hyl
    rw [List.size_toArray, hrl] at hys
    replace hys := filt_idx hys
    unfold LCg.FinA
    intro sp h9 tk9 F9 N9 off9
    (try clear F7); (try clear N7)
    have hspl : @Ne Nat sp ld := fun q => off1_mem _ off9 (ld, W.listOf (List.toArray []) 0) (List.mem_append.mpr (.inr (List.mem_cons_self ..))) q.symm
    have hspo : OffA A [((sp : Addr), W.listOf (List.toArray ys) ys.length)] := OffA.of (w := w) (V := V2) (n := (rdF (cntF (edgF tl) 0) (cntF (edgF tl) 1) (cntF (edgF tl) 2) (cntF (edgF tl) 3)).foldl outF (nq (cntF (edgF tl)))) (fun p hp q hq => by
      rw [List.mem_singleton.mp hq]
      exact off1_mem _ off9 p (.tail _ (List.mem_append.mpr (.inl hp))))
    have hld0 := ledInit (edgF tl) nw
    generalize (rdF (cntF (edgF tl) 0) (cntF (edgF tl) 1) (cntF (edgF tl) 2) (cntF (edgF tl) 3)).foldl outF (nq (cntF (edgF tl))) = n1 at hld0 N9
    generalize ((rdF (cntF (edgF tl) 0) (cntF (edgF tl) 1) (cntF (edgF tl) 2) (cntF (edgF tl) 3)).filter fun t => decide (t ∈ nw)) = st1 at hld0 hys
    clear ok hrl hyl nr4 hb
    have N10 := news_sub N9 (news := (sp, W.listOf (List.toArray ys) ys.length) :: (ld, W.listOf (List.toArray []) 0) :: ((A.P : Addr), instObj 151 A.dP) :: (L0 + 1, oc) :: (wd, W.listOf (List.toArray ws) kw) :: (sorN w A V2 n1 ++ own)) (fun p hp => by
      rcases List.mem_cons.mp hp with rfl | hp
      · exact .head _
      · rcases List.mem_cons.mp hp with rfl | hp
        · exact mt2 (List.mem_append.mpr (.inr (.head _)))
        · rcases List.mem_cons.mp hp with rfl | hp
          · exact mt2 (List.mem_append.mpr (.inl sorN_P))
          · simp only [List.mem_append, List.mem_cons] at hp ⊢; grind)
    clear N9
    walk_at "k_toL"
    rename Fr _ _ _ _ => F11
    rename News _ _ _ _ => N11
    refine w_cut (σ := List Int × (Int → Int) × List Int)
      (LedI w (edgF tl) nw A ld (L0 + 1) wd oc ws kw own)
      (fun ps n => ∃ (D : List Int) (nn : Int → Int) (lv : List Value) (kl : Nat), LedAt (edgF tl) nw D nn [] ∧ ps = [(("led" : Str), .ref ld)] ∧ n = ((ld : Addr), W.listOf (List.toArray lv) kl) :: (wd, W.listOf (List.toArray ws) kw) :: own ∧ IntsAre lv D.reverse)
      (fun c => 4 - c.1.length) ([], n1, st1) [("plan", _), ("led", _), ("step", _)] F11 N11 (by exact ⟨rfl, rfl, rfl, trivial⟩) (.mk hld0 hys .nil ok2 hspl hspo) ?_ ?_ (by passes_own)
    · rintro ⟨D, nn, st⟩ ps₁ u news₁ h tk Pp C ⟨hL, hsv, hlv, ok1, hne1, oSp⟩ F1 N1 hP1 hP2 hC1 hC2 hP3 hC3
      rename_i sp1 sv ks lv kl V1
      (try dsimp only [kstB] at F1)
      (try dsimp only at hL hsv hlv N1)
      (try clear F11); (try clear N11); (try clear N10); clear hys hld0 hspl off9 ok2
      have hsvl := hsv.length
      have hst4 : st.length ≤ 4 := nodup_four hL.nod fun x hx => ((hL.mem x).mp hx).1.1
      walk_at "k_callL"
      · rename Fr _ _ _ _ => F12
        rename News _ _ _ _ => N12
        have hst0 : st = [] := of_decide_eq_true (by assumption)
        subst hst0
        refine hC1 _ ?_
        refine At.intro F12 N12 [("led", _)] (((ld : Addr), W.listOf (List.toArray lv) kl) :: (wd, W.listOf (List.toArray ws) kw) :: own) (by exact ⟨rfl, trivial⟩) (fun p hp => ?_) ⟨D, nn, lv, kl, hL, rfl, rfl, hlv⟩
        simp only [List.mem_append, List.mem_cons] at hp ⊢; grind
      · rename Fr _ _ _ _ => F12
        rename News _ _ _ _ => N12
        have N13 := news_sub N12 (news := tsL w A.P A.dP A.D A.h1 A.h2 A.h3 A.h4 (.ref A.R) V1.po V1.fi V1.tpo V1.tfi ++ (((sp1 : Addr), W.listOf (List.toArray sv) ks) :: ((ld : Addr), W.listOf (List.toArray lv) kl) :: (L0 + 1, oc) :: (wd, W.listOf (List.toArray ws) kw) :: (sorN w A V1 nn ++ own))) (fun p hp => by
          have h9 := sorN_ts (w := w) (A := A) (V := V1) (n := nn) p
          simp only [List.mem_append, List.mem_cons] at hp h9 ⊢
          grind)
        clear N12
        simp only [tsL, List.cons_append, List.nil_append] at N13
        refine MethodCallStar ?_ (by with_unfolding_all rfl)
        repeat' (first | ((fail_if_success (with_reducible show wpAny _ _ (callWith _ _ _ _ _) _ _ _)); first | (k_unfold; (try dsimp only)) | walk1) | fail "no step")
        rename Fr _ _ _ _ => F14
        rename News _ _ _ _ => N14
        refine name1 N14 ?_
        intro qm eqm
        subst eqm
        have lq := (‹_ ∧ _ ∧ _ ∧ _ ∧ _ ∧ _ ∧ AllLt qm (sorN w A V1 nn ++ own)›)
        have hoq : OffA A [((qm : Addr), methodObj (.ref 134) (.ref A.P))] := OffA.of (w := w) (V := V1) (n := nn) (fun p hp q hq => by
          rw [List.mem_singleton.mp hq]
          exact Nat.ne_of_lt ((under_of lq.2.2.2.2.2.2).lt p (List.mem_append.mpr (.inl hp))))
        refine callWith_MS (K := hd.heap_1 w.params) (q := qm) (g := 134) (self := .ref A.P) (by k_is) ?_
        repeat' (first | ((fail_if_success (with_reducible show StarOf _ _ _ _ _ _)); first | (k_unfold; (try dsimp only)) | walk1) | fail "no step")
        rename Fr _ _ _ _ => F15
        rename News _ _ _ _ => N15
        refine star_seq (ws := sv) F15 N15 (a := sp1) (o := W.listOf (List.toArray sv) ks) (its := List.toArray sv) (n := ks) (T := "list") (mt2 (.tail _ (.head _))) rfl rfl (.inl rfl) (by simp) (by rw [List.size_toArray, sizeLine_eq]; omega) ?_
        intro h16 F16 N16
        refine ⟨methP N16 (.head _) (X5.keeps F16.keep), ?_⟩
        obtain ⟨k1, k2⟩ := Inv.doneL eo (ns := st) hL.inv.nq hL.nod fun x hx => OutI.nq.mpr ((hL.mem x).mp hx).1
        have hL2 := hL.step eo
        refine use_conM (newsC := sorN w A V1 nn) (rest := ((qm : Addr), methodObj (.ref 134) (.ref A.P)) :: ((sp1 : Addr), W.listOf (List.toArray sv) ks) :: ((ld : Addr), W.listOf (List.toArray lv) kl) :: (L0 + 1, oc) :: (wd, W.listOf (List.toArray ws) kw) :: own) (done_w w mean mg mb A V1 (edgF tl) nn [] ok1 sv st hsv hst4 (hL.inv.doneAt eo hL.nod fun x hx => ((hL.mem x).mp hx).1)) B5 F16 X5 (news_sub N16 (by
          walk_at "sub_z")) T5 (List.mem_append.mpr (.inr (.head _))) rfl (by first | assumption | rfl) rfl (Nat.le_of_ble_eq_true rfl) (Nat.le_of_ble_eq_true rfl) rfl (OffA.hr (OffA.app hoq (OffA.app oSp (OffA.app (hoL.one) (OffA.app oA2 oA1))))) ?_
        rintro r news' h17 tk17 F17 N17 - ⟨V3, rfl, rfl, ok3⟩
        generalize st.foldl (doneF (suq (edgF tl))) (nq nn, []) = p3 at k1 k2 hL2 N17 ok3
        have hoT3 : OffT ld (sorN w A V3 p3.1 ++ own) := offT_sor hoL hoT
        have N18 := news_sub N17 (news := ((sp1 : Addr), W.listOf (List.toArray sv) ks) :: ((ld : Addr), W.listOf (List.toArray lv) kl) :: ((A.P : Addr), instObj 151 A.dP) :: (L0 + 1, oc) :: (wd, W.listOf (List.toArray ws) kw) :: (sorN w A V3 p3.1 ++ own)) (by
          have h9 : ((A.P : Addr), instObj 151 A.dP) ∈ sorN w A V3 p3.1 := sorN_P
          walk_at "sub_z")
        clear N17 N16 F16
        have hDl : D.length ≤ 4 := nodup_four hL.dn hL.in3
        have hlvl := hlv.length
        have hDr : D.reverse.length ≤ 4 := by rw [List.length_reverse]; exact hDl
        walk_at "k_callL"
        rename Fr _ _ _ _ => F20
        rename News _ _ _ _ => N20
        refine nameK N20 ?_
        intro kl3 ekl
        subst ekl
        have hIe := ‹IntsAre (lv ++ sv) (D.reverse ++ st)›
        have nr4 := nodup_four k1.nod k1.rng
        have hrl := ok3.rd.length
        refine Assign_ListComp_TU (vs := V3.rd) F20 (by rfl) (by with_unfolding_all rfl) (by with_unfolding_all rfl) (by decide) (by rfl) (by decide) (by rfl) (by rfl) (by rfl) (by rw [hrl, sizeLine_eq]; omega) ?_
        walk_at "k_callR"
        rename Fr _ _ _ _ => F21
        rename News _ _ _ _ => N21
        have oL3 : OffA A (((ld : Addr), W.listOf (List.toArray (lv ++ sv)) kl3) :: (L0 + 1, oc) :: (wd, W.listOf (List.toArray ws) kw) :: own) := OffA.app (hoL.one) (OffA.app oA2 oA1)
        refine' use_con (newsC := sorN w A V3 p3.1) (rest := ((ld : Addr), W.listOf (List.toArray (lv ++ sv)) kl3) :: (L0 + 1, oc) :: (wd, W.listOf (List.toArray ws) kw) :: own) (ready_w w mean mg mb A V3 (edgF tl) p3.1 p3.2 ok3 nr4 k1.rng) B5 F21 X5 (news_sub N21 ?sb) T5 rfl (by first | assumption | rfl) rfl (Nat.le_of_ble_eq_true rfl) (Nat.le_of_ble_eq_true rfl) rfl oL3.hr ?_
        case sb => exact (by
          walk_at "sub_z")
        rintro r news' h22 tk22 F22 N22 - ⟨T2, V4, rfl, rfl, ok4⟩
        clear F21 N21
        refine SrcU.intro rfl F22 N22 (.head _) ?_
        intro g23
        refine filt_rest (fun j => decide (p3.2.getD j 0 ∈ nw)) (fun j => p3.2.getD j 0) ?_ ?_
        · intro j v I' oI' C' oC' D' m' ys' h' tk' E' hj hv hC' hx' F' N' off' ne'
          (try clear F20); (try clear N20); (try clear F22); (try clear N22)
          rw [List.getElem?_toArray] at hv
          obtain ⟨x, t9, ev, hx9⟩ := IntsAre.at ok3.rd j v hv
          subst ev
          have hxe : p3.2.getD j 0 = x := by rw [List.getD_eq_getElem?_getD, hx9]; rfl
          rw [hxe]
          have off0 := off'
          walk_at "k_comp"
          · exact LCg.CompEnd.intro (by assumption) (by assumption) _ (fun p hp => hp) off0 (.head _) ⟨rfl, by first | exact decide_eq_true (by assumption) | assumption, _, rfl⟩
          · exact LCg.CompEnd.intro (by assumption) (by assumption) _ (fun p hp => hp) off0 (.head _) ⟨rfl, by first | exact decide_eq_false (by assumption) | assumption⟩
        · intro ys hys hyl
          rw [List.size_toArray, hrl] at hys
          replace hys := filt_idx hys
          unfold LCg.FinA
          intro sp h9 tk9 F9 N9 off9
          (try clear F20); (try clear N20)
          have hspl : @Ne Nat sp ld := fun q => off1_mem _ off9 (((ld : Addr), W.listOf (List.toArray (lv ++ sv)) kl3)) (List.mem_append.mpr (.inr (List.mem_cons_self ..))) q.symm
          have hspo : OffA A [((sp : Addr), W.listOf (List.toArray ys) ys.length)] := OffA.of (w := w) (V := V4) (n := p3.2.foldl outF (nq p3.1)) (fun p hp q hq => by
            rw [List.mem_singleton.mp hq]
            exact off1_mem _ off9 p (.tail _ (List.mem_append.mpr (.inl hp))))
          generalize p3.2.foldl outF (nq p3.1) = n4 at hL2 N9
          generalize (p3.2.filter fun t => decide (t ∈ nw)) = st4 at hL2 hys
          have N10 := news_sub N9 (news := ((sp : Addr), W.listOf (List.toArray ys) ys.length) :: ((ld : Addr), W.listOf (List.toArray (lv ++ sv)) kl3) :: ((A.P : Addr), instObj 151 A.dP) :: (L0 + 1, oc) :: (wd, W.listOf (List.toArray ws) kw) :: (sorN w A V4 n4 ++ own)) (by
            have h9 : ((A.P : Addr), instObj 151 A.dP) ∈ sorN w A V4 n4 := sorN_P
            walk_at "sub_z")
          clear N9
          walk_at "k_callL"
          refine hP1 _ ?_
          refine At.intro F9 N10 [("plan", _), ("led", _), ("step", _)] _ (by exact ⟨rfl, rfl, rfl, trivial⟩) (fun p hp => hp) ⟨(st.reverse ++ D, n4, st4), LedI.mk (lv := lv ++ sv) hL2 hys ?_ ok4 hspl hspo, ?_⟩
          · have e9 : (st.reverse ++ D).reverse = D.reverse ++ st := by simp
            (try dsimp only)
            rw [e9]; exact hIe
          · have hne0 : st ≠ [] := of_decide_eq_false (by assumption)
            have hpos : 0 < st.length := List.length_pos_iff.mpr hne0
            have hnd := nodup_four hL2.dn hL2.in3
            dsimp only at hnd ⊢
            rw [List.length_append, List.length_reverse] at hnd ⊢
            omega
    · intro ps₁ u news₁ h tk ⟨D, nn, lv, kl, hL, e1, e2, hlv⟩ F1 N1
      subst e1 e2
      (try dsimp only [kstB] at F1)
      (try clear F11); (try clear N11); (try clear N10); clear hys hld0 hspl off9 ok2
      have hDl : D.length ≤ 4 := nodup_four hL.dn hL.in3
      have hlvl := hlv.length
      have hDr : D.reverse.length ≤ 4 := by rw [List.length_reverse]; exact hDl
      walk_at "k_run"
      rename News _ _ _ _ => N8
      refine name1 N8 ?_
      intro M eM
      subst eM
      replace N8 := news_sub N8 (news := ((M : Addr), _) :: (wd, W.listOf (List.toArray ws) kw) :: own) (fun p hp => by
        rcases List.mem_cons.mp hp with rfl | hp
        · exact .head _
        · exact mt2 hp)
      subst hown
      have hpm := ‹List.Perm _ D.reverse›
      rename Gr _ _ _ _ _ _ _ _ _ => G9
      walk_at "c_doneS"
      exact ⟨M, _, _, _, rfl, rfl, by assumption, ⟨D, nn, hL, hpm.trans (List.reverse_perm D), by assumption⟩⟩
theorem all (p : Dat) : ok p := drink _ ok (by with_unfolding_all exact core) p
end S_led_con
theorem led_con (w : World) (mean) (mg mb) (e wd : Addr) (tl : List TE) (ke : Nat) (hle : tl.length ≤ 4) (hr : ∀ x ∈ tl, (0 ≤ x.a ∧ x.a ≤ 3) ∧ (0 ≤ x.b ∧ x.b ≤ 3) ∧ x.a ≠ x.b) (ws : List Value) (nw : List Int) (kw : Nat) (hw : IntsAre ws nw) (hwl : nw.length ≤ 4)
    (hwe : ∀ q ∈ ((e, W.listOf (List.toArray (tupV tl)) ke) :: tupL tl), @Ne Nat wd q.1) : ConS w mean mg mb 370 1200 198 [.ref e, .ref wd] ((wd, W.listOf (List.toArray ws) kw) :: ((e, W.listOf (List.toArray (tupV tl)) ke) :: tupL tl))
      (fun r news' => ∃ (M : Nat) (ms : List Value) (ns : List Int) (km : Nat), r = .ref M ∧ news' = ((M : Addr), W.listOf (List.toArray ms) km) :: (wd, W.listOf (List.toArray ws) kw) :: ((e, W.listOf (List.toArray (tupV tl)) ke) :: tupL tl) ∧ IntsAre ms ns ∧ LedR (edgF tl) nw ns) :=
  fun gdₛ cnₛ csₛ Lₛ aₛ ccdₛ clₛ outerₛ A₀ₛ baseₛ h₀ₛ mₛ sₛ RRₛ => S_led_con.all (w, mean, mg, mb, e, wd, tl, ke, ws, nw, kw, gdₛ, cnₛ, csₛ, Lₛ, aₛ, ccdₛ, clₛ, outerₛ, A₀ₛ, baseₛ, h₀ₛ, mₛ, sₛ, RRₛ) hle hr hw hwl hwe
theorem at_PureF : True := by
  w_top off
  exact trivial
noncomputable def ndStep (ns : List Int) (e : Int × Int) : List Int := ns.set e.1.toNat (Builtin.bitOr (atI ns e.1) (1 * 2 ^ e.2.toNat))
noncomputable def ndsF (E : List (Int × Int)) : List Int := E.foldl ndStep [0, 0, 0, 0]
theorem bor_is : ∀ v < 16, ∀ b < 4, Builtin.bitOr ((v : Nat) : Int) (1 * 2 ^ ((b : Nat) : Int).toNat) = ((v ||| 2 ^ b : Nat) : Int) ∧ (v ||| 2 ^ b) < 16 ∧ ∀ a < 4, bitN (v ||| 2 ^ b) a = (bitN v a || a == b) := by decide +kernel
theorem band_is : ∀ v < 16, ∀ m < 16, decide (Builtin.bitAnd ((v : Nat) : Int) ((m : Nat) : Int) = ((v : Nat) : Int)) = (List.range 4).all fun a => !bitN v a || bitN m a := by decide +kernel
theorem bsub_is : ∀ m < 16, ∀ j < 4, bitN m j = true → 2 ^ j ≤ m ∧ ∀ a < 4, bitN (m - 2 ^ j) a = (bitN m a && a != j) := by decide +kernel
theorem badd_is : ∀ m < 16, ∀ j < 4, bitN m j = false → m + 2 ^ j < 16 ∧ ∀ a < 4, bitN (m + 2 ^ j) a = (bitN m a || a == j) := by decide +kernel
theorem bit_ext : ∀ m < 16, ∀ k < 16, (∀ a < 4, bitN m a = bitN k a) → m = k := by decide +kernel
theorem bit_zero : ∀ a < 4, bitN 0 a = false := by decide
structure NdOk (E : List (Int × Int)) (ns : List Int) : Prop where
  len : ns.length = 4
  at_ : ∀ t : Nat, t < 4 → ∃ v : Nat, v < 16 ∧ atI ns (t : Int) = (v : Int) ∧ ∀ a : Nat, a < 4 → (bitN v a = true ↔ ((t : Int), (a : Int)) ∈ E)
theorem NdOk.step {E : List (Int × Int)} {ns : List Int} (h : NdOk E ns) {e : Int × Int} (h1 : In3 e.1) (h2 : In3 e.2) : NdOk (E ++ [e]) (ndStep ns e) := by
  obtain ⟨e1, e2⟩ := e
  obtain ⟨t, rfl⟩ := Int.eq_ofNat_of_zero_le h1.1
  obtain ⟨b, rfl⟩ := Int.eq_ofNat_of_zero_le h2.1
  have ht : t < 4 := by have := h1.2; simp only at this; omega
  have hb : b < 4 := by have := h2.2; simp only at this; omega
  refine ⟨by rw [ndStep, List.length_set]; exact h.len, fun t' ht' => ?_⟩
  obtain ⟨v, hv, ev, hbit⟩ := h.at_ t ht
  obtain ⟨q1, q2, q3⟩ := bor_is v hv b hb
  by_cases e : t' = t
  · subst e
    refine ⟨v ||| 2 ^ b, q2, ?_, fun a ha => ?_⟩
    · rw [ndStep, atI]
      simp only [Int.toNat_natCast]
      rw [List.getD_eq_getElem?_getD, List.getElem?_set_self (by rw [h.len]; exact ht), ev]
      exact q1
    · rw [q3 a ha, Bool.or_eq_true, hbit a ha, List.mem_append, List.mem_singleton, beq_iff_eq]
      constructor
      · rintro (q | q)
        · exact .inl q
        · exact .inr (by rw [q])
      · rintro (q | q)
        · exact .inl q
        · injection q with _ q; exact .inr (by omega)
  · obtain ⟨v', hv', ev', hbit'⟩ := h.at_ t' ht'
    refine ⟨v', hv', ?_, fun a ha => ?_⟩
    · rw [← ev', ndStep, atI, atI]
      simp only [Int.toNat_natCast]
      rw [List.getD_eq_getElem?_getD, List.getElem?_set_ne (fun q => e q.symm), ← List.getD_eq_getElem?_getD]
      rfl
    · rw [hbit' a ha, List.mem_append, List.mem_singleton]
      constructor
      · exact .inl
      · rintro (q | q)
        · exact q
        · injection q with q _; exact absurd (by omega) e
theorem ndsF_snoc (E : List (Int × Int)) (e : Int × Int) : ndsF (E ++ [e]) = ndStep (ndsF E) e := by
  unfold ndsF; rw [List.foldl_append]; rfl
theorem ndsF_zero : NdOk [] (ndsF []) := by
  refine ⟨rfl, fun t ht => ⟨0, by decide, ?_, fun a ha => ?_⟩⟩
  · match t, ht with
    | 0, _ => rfl
    | 1, _ => rfl
    | 2, _ => rfl
    | 3, _ => rfl
  · rw [bit_zero a ha]; simp
theorem ndsF_ok : ∀ (n : Nat) {E : List (Int × Int)}, E.length = n → (∀ e ∈ E, In3 e.1 ∧ In3 e.2) → NdOk E (ndsF E)
  | 0, E, hn, _ => by rw [List.length_eq_zero_iff.mp hn]; exact ndsF_zero
  | n + 1, E, hn, h => by
    have hne : E ≠ [] := fun q => by rw [q] at hn; cases hn
    have e := List.dropLast_concat_getLast hne
    rw [← e, ndsF_snoc]
    refine (ndsF_ok n (by rw [List.length_dropLast]; omega) fun x hx => h x (List.dropLast_subset _ hx)).step (h _ (List.getLast_mem hne)).1 (h _ (List.getLast_mem hne)).2
theorem NdOk.sub {E : List (Int × Int)} {ns : List Int} (h : NdOk E ns) (eo : EOk E) {t m : Nat} (ht : t < 4) (hm : m < 16) : decide (Builtin.bitAnd (atI ns (t : Int)) ((m : Nat) : Int) = atI ns (t : Int)) = true ↔ ∀ a : Nat, ((t : Int), (a : Int)) ∈ E → bitN m a = true := by
  obtain ⟨v, hv, ev, hb⟩ := h.at_ t ht
  rw [ev, band_is v hv m hm, List.all_eq_true]
  constructor
  · intro q a ha
    have h3 := (eo.rng _ ha).2.1
    have h4 : a < 4 := by have := h3.2; simp only at this; omega
    have := q a (List.mem_range.mpr h4)
    rw [(hb a h4).mpr ha] at this
    simpa using this
  · intro q a ha
    have h4 := List.mem_range.mp ha
    by_cases e : bitN v a = true
    · rw [q a ((hb a h4).mp e)]; simp
    · simp [e]
noncomputable def mkN : List Int → Nat
  | [] => 0
  | x :: D => mkN D + 2 ^ x.toNat
theorem mkN_ok : ∀ {D : List Int}, D.Nodup → (∀ x ∈ D, In3 x) → mkN D < 16 ∧ ∀ a : Nat, a < 4 → (bitN (mkN D) a = true ↔ (a : Int) ∈ D)
  | [], _, _ => ⟨by decide, fun a ha => by rw [mkN, bit_zero a ha]; simp⟩
  | x :: D, hn, hr => by
    obtain ⟨h1, h2⟩ := mkN_ok (D := D) (List.nodup_cons.mp hn).2 fun y hy => hr y (.tail _ hy)
    have hx := hr x (.head _)
    obtain ⟨j, rfl⟩ := Int.eq_ofNat_of_zero_le hx.1
    have hj : j < 4 := by have := hx.2; omega
    have hb : bitN (mkN D) j = false := by
      by_cases q : bitN (mkN D) j = true
      · exact absurd ((h2 j hj).mp q) (List.nodup_cons.mp hn).1
      · simpa using q
    obtain ⟨q1, q2⟩ := badd_is (mkN D) h1 j hj hb
    refine ⟨by rw [mkN, Int.toNat_natCast]; exact q1, fun a ha => ?_⟩
    rw [mkN, Int.toNat_natCast, q2 a ha, Bool.or_eq_true, h2 a ha, beq_iff_eq, List.mem_cons]
    constructor
    · rintro (q | q)
      · exact .inr q
      · exact .inl (by rw [q])
    · rintro (q | q)
      · exact .inr (by omega)
      · exact .inl q
theorem flags_at (ns : List Int) : ∀ (i m : Nat), m ≤ i → (flagsI ns i).getD m false = (flagsI ns m).getD m false
  | 0, m, h => by have : m = 0 := by omega
                  subst this; rfl
  | i + 1, m, h => by
    by_cases e : m = i + 1
    · subst e; rfl
    · have hl := flagsI_len ns i
      rw [flagsI, List.getD_eq_getElem?_getD, List.getElem?_append_left (by omega), ← List.getD_eq_getElem?_getD]
      exact flags_at ns i m (by omega)
theorem flags_succ (ns : List Int) (i : Nat) : (flagsI ns (i + 1)).getD (i + 1) false = flagI ns (flagsI ns i) (1 + (i : Int)) := by
  have hl := flagsI_len ns i
  rw [flagsI, List.getD_eq_getElem?_getD, List.getElem?_append_right (by omega), hl]
  simp
noncomputable def flN (ns : List Int) (m : Nat) : Bool := (flagsI ns 15).getD m false
theorem bitI_is {m j : Nat} (hm : m < 16) (hj : j < 4) : bitI (m : Int) (j : Int) = bitN m j := by
  have h := bit_is m hm j hj
  unfold bitI
  cases q : bitN m j with
  | true => exact decide_eq_true (by rw [h, q])
  | false => exact decide_eq_false (by rw [h, q]; simp)
theorem two_pow (j : Nat) : (1 : Int) * 2 ^ ((j : Nat) : Int).toNat = ((2 ^ j : Nat) : Int) := by simp
theorem flN_iff {E : List (Int × Int)} {ns : List Int} (h : NdOk E ns) (eo : EOk E) {m : Nat} (hm : m < 16) (h0 : 0 < m) :
    flN ns m = true ↔ ∃ j : Nat, j < 4 ∧ bitN m j = true ∧ flN ns (m - 2 ^ j) = true ∧ ∀ a : Nat, ((j : Int), (a : Int)) ∈ E → bitN (m - 2 ^ j) a = true := by
  obtain ⟨i, rfl⟩ : ∃ i, m = i + 1 := ⟨m - 1, by omega⟩
  have e1 : flN ns (i + 1) = flagI ns (flagsI ns i) (((i + 1 : Nat)) : Int) := by
    unfold flN
    rw [flags_at ns 15 (i + 1) (by omega), flags_succ]
    congr 1
    omega
  rw [e1, flagI, List.any_eq_true]
  have key : ∀ j : Nat, j < 4 → bitN (i + 1) j = true → (atB (flagsI ns i) (((i + 1 : Nat) : Int) - 1 * 2 ^ ((j : Nat) : Int).toNat) = flN ns (i + 1 - 2 ^ j)) ∧ (goodI ns ((i + 1 : Nat) : Int) (j : Int) = true ↔ ∀ a : Nat, ((j : Int), (a : Int)) ∈ E → bitN (i + 1 - 2 ^ j) a = true) := by
    intro j hj hb
    have hs := (bsub_is (i + 1) hm j hj hb).1
    have hp : 0 < 2 ^ j := Nat.two_pow_pos j
    have e2 : (((i + 1 : Nat) : Int) - 1 * 2 ^ ((j : Nat) : Int).toNat) = ((i + 1 - 2 ^ j : Nat) : Int) := by rw [two_pow]; omega
    constructor
    · rw [e2, atB, Int.toNat_natCast]
      unfold flN
      rw [flags_at ns 15 _ (by omega), flags_at ns i _ (by omega)]
    · rw [goodI, e2]
      exact h.sub eo hj (by omega)
  constructor
  · rintro ⟨x, hx, hg⟩
    unfold lastsI at hx
    obtain ⟨j, hj, rfl⟩ := List.mem_map.mp hx
    rw [List.mem_filter, List.mem_range] at hj
    rw [Int.zero_add] at hj hg
    obtain ⟨hj4, hl⟩ := hj
    rw [lastI, Bool.and_eq_true, bitI_is hm hj4] at hl
    obtain ⟨k1, k2⟩ := key j hj4 hl.1
    exact ⟨j, hj4, hl.1, by rw [← k1]; exact hl.2, k2.mp hg⟩
  · rintro ⟨j, hj4, hb, hf, hg⟩
    obtain ⟨k1, k2⟩ := key j hj4 hb
    refine ⟨(j : Int), ?_, k2.mpr hg⟩
    unfold lastsI
    refine List.mem_map.mpr ⟨j, List.mem_filter.mpr ⟨List.mem_range.mpr hj4, ?_⟩, by omega⟩
    rw [Int.zero_add, lastI, Bool.and_eq_true, bitI_is hm hj4]
    exact ⟨hb, by rw [k1]; exact hf⟩
theorem flN_zero (ns : List Int) : flN ns 0 = true := by
  unfold flN
  rw [flags_at ns 15 0 (by omega)]
  rfl
theorem flN_run {E : List (Int × Int)} {ns : List Int} (h : NdOk E ns) (eo : EOk E) : ∀ (k : Nat) {m : Nat}, m ≤ k → m < 16 → (flN ns m = true ↔ ∃ D, Run E D ∧ mkN D = m)
  | 0, m, hk, hm => by
    have : m = 0 := by omega
    subst this
    exact ⟨fun _ => ⟨[], .nil, rfl⟩, fun _ => flN_zero ns⟩
  | k + 1, m, hk, hm => by
    by_cases e : m ≤ k
    · exact flN_run h eo k e hm
    · rw [flN_iff h eo hm (by omega)]
      constructor
      · rintro ⟨j, hj, hb, hf, hg⟩
        obtain ⟨hs, hbits⟩ := bsub_is m hm j hj hb
        have hp : 0 < 2 ^ j := Nat.two_pow_pos j
        obtain ⟨D, hD, hmk⟩ := (flN_run h eo k (by omega) (by omega)).mp hf
        obtain ⟨q1, q2⟩ := mkN_ok hD.nodup hD.in3
        rw [hmk] at q2
        refine ⟨(j : Int) :: D, .cons hD ⟨by omega, by omega⟩ (fun q => ?_) (fun a ha => ?_), by rw [mkN, hmk, Int.toNat_natCast]; omega⟩
        · have := (q2 j hj).mpr q
          rw [hbits j hj] at this
          simp at this
        · have h3 := (eo.rng _ ha).2.1
          obtain ⟨a', rfl⟩ := Int.eq_ofNat_of_zero_le h3.1
          exact (q2 a' (by have := h3.2; simp only at this; omega)).mp (hg a' ha)
      · rintro ⟨D, hD, rfl⟩
        cases hD with
        | nil => simp [mkN] at e
        | cons h1 h2 h3 h4 =>
          rename_i D x
          obtain ⟨j, rfl⟩ := Int.eq_ofNat_of_zero_le h2.1
          have hj : j < 4 := by have := h2.2; omega
          have hp : 0 < 2 ^ j := Nat.two_pow_pos j
          obtain ⟨q1, q2⟩ := mkN_ok h1.nodup h1.in3
          have hb : bitN (mkN D) j = false := by
            by_cases q : bitN (mkN D) j = true
            · exact absurd ((q2 j hj).mp q) h3
            · simpa using q
          obtain ⟨b1, b2⟩ := badd_is (mkN D) q1 j hj hb
          have e9 : mkN ((j : Int) :: D) = mkN D + 2 ^ j := by rw [mkN, Int.toNat_natCast]
          rw [e9] at hk e ⊢
          refine ⟨j, hj, by rw [b2 j hj]; simp, ?_, ?_⟩
          · rw [Nat.add_sub_cancel]
            exact (flN_run h eo k (by omega) q1).mpr ⟨D, h1, rfl⟩
          · intro a ha
            rw [Nat.add_sub_cancel]
            have h9 := (eo.rng _ ha).2.1
            exact (q2 a (by have := h9.2; simp only at this; omega)).mpr (h4 _ ha)
theorem flN_iff_run {E : List (Int × Int)} {ns : List Int} (h : NdOk E ns) (eo : EOk E) {m : Nat} (hm : m < 16) : flN ns m = true ↔ ∃ D, Run E D ∧ mkN D = m := flN_run h eo m (Nat.le_refl _) hm
theorem at_PureR : True := by
  w_top off
  exact trivial
theorem topo_dedup {su : Int → List Int} : ∀ {l : List Int}, Topo su l → ∃ l', l'.Nodup ∧ Topo su l' ∧ ∀ x, x ∈ l' ↔ x ∈ l
  | [], _ => ⟨[], List.nodup_nil, trivial, fun x => Iff.rfl⟩
  | x :: r, h => by
    obtain ⟨r', h1, h2, h3⟩ := topo_dedup h.2
    by_cases q : x ∈ r'
    · exact ⟨r', h1, h2, fun y => by rw [h3 y, List.mem_cons]; exact ⟨.inr, fun z => z.elim (fun e => e ▸ (h3 x).mp q) id⟩⟩
    · exact ⟨x :: r', List.nodup_cons.mpr ⟨q, h1⟩, ⟨fun s hs => (h3 s).mpr (h.1 s hs), h2⟩, fun y => by rw [List.mem_cons, List.mem_cons, h3 y]⟩
theorem topo_in3 {su : Int → List Int} (hs : ∀ x, ∀ s ∈ su x, In3 s) : ∀ {l : List Int}, Topo su l → Topo su (l.filter fun x => decide (In3 x))
  | [], _ => trivial
  | x :: r, h => by
    rw [List.filter_cons]
    split
    · exact ⟨fun s q => List.mem_filter.mpr ⟨h.1 s q, decide_eq_true (hs x s q)⟩, topo_in3 hs h.2⟩
    · exact topo_in3 hs h.2
theorem topo_tail {su : Int → List Int} : ∀ {p : List Int} {x : Int} {q : List Int}, Topo su (p ++ x :: q) → ∀ s ∈ su x, s ∈ q
  | [], x, q, h => h.1
  | y :: p, x, q, h => topo_tail (p := p) h.2
theorem topo_run {E : List (Int × Int)} (eo : EOk E) {l : List Int} (hn : l.Nodup) (ht : Topo (suq E) l) (h3 : ∀ x ∈ l, In3 x) (hall : ∀ y, In3 y → y ∈ l) : ∀ (q p : List Int), l = p ++ q → Run E p.reverse → Run E l.reverse
  | [], p, e, h => by rw [e, List.append_nil]; exact h
  | x :: q, p, e, h => by
    refine topo_run eo hn ht h3 hall q (p ++ [x]) (by rw [e]; simp) ?_
    rw [List.reverse_append]
    rw [e] at hn
    have hn' := List.nodup_append.mp hn
    refine .cons h (h3 x (by rw [e]; simp)) (fun z => hn'.2.2 x (List.mem_reverse.mp z) x (.head _) rfl) fun a ha => ?_
    obtain ⟨a1, a2, a3⟩ := eo.rng _ ha
    have hal := hall a a2
    rw [e] at hal
    rcases List.mem_append.mp hal with z | z
    · exact List.mem_reverse.mpr z
    · exfalso
      rcases List.mem_cons.mp z with z | z
      · exact a3 z.symm
      · obtain ⟨q1, q2, eq⟩ := List.append_of_mem z
        have hx : x ∈ suq E a := by rw [suq_at a2]; exact sucF_mem.mpr ha
        rw [e, eq] at ht
        have h9 : x ∈ q2 := topo_tail (p := p ++ x :: q1) (x := a) (q := q2) (by simpa using ht) x hx
        have h8 := (List.nodup_cons.mp hn'.2.1).1
        rw [eq] at h8
        exact h8 (by simp [h9])
theorem mk_all {D : List Int} (hn : D.Nodup) (hr : ∀ x ∈ D, In3 x) (h : ∀ y, In3 y → y ∈ D) : mkN D = 15 := by
  obtain ⟨h1, h2⟩ := mkN_ok hn hr
  refine bit_ext _ h1 15 (by decide) fun a ha => ?_
  rw [(h2 a ha).mpr (h _ ⟨by omega, by omega⟩)]
  match a, ha with
  | 0, _ => rfl
  | 1, _ => rfl
  | 2, _ => rfl
  | 3, _ => rfl
theorem suq_in3 {E : List (Int × Int)} (eo : EOk E) : ∀ x, ∀ s ∈ suq E x, In3 s := s4_in (fun s h => (eo.rng _ (sucF_mem.mp h)).1) (fun s h => (eo.rng _ (sucF_mem.mp h)).1) (fun s h => (eo.rng _ (sucF_mem.mp h)).1) (fun s h => (eo.rng _ (sucF_mem.mp h)).1)
theorem ring_no {E : List (Int × Int)} {ns : List Int} (h : NdOk E ns) (eo : EOk E) (ht : ∃ dn, Topo (suq E) dn ∧ ∀ y, In3 y → y ∈ dn) : flN ns 15 = true := by
  obtain ⟨dn, ht, hall⟩ := ht
  obtain ⟨l, h1, h2, h3⟩ := topo_dedup (topo_in3 (suq_in3 eo) ht)
  have hm : ∀ x, x ∈ l ↔ x ∈ dn ∧ In3 x := fun x => by rw [h3 x, List.mem_filter, decide_eq_true_eq]
  have hr := topo_run eo h1 h2 (fun x hx => ((hm x).mp hx).2) (fun y hy => (hm y).mpr ⟨hall y hy, hy⟩) l [] rfl .nil
  exact (flN_iff_run h eo (by decide)).mpr ⟨l.reverse, hr, mk_all hr.nodup hr.in3 fun y hy => List.mem_reverse.mpr ((hm y).mpr ⟨hall y hy, hy⟩)⟩
theorem ring_yes {E : List (Int × Int)} {ns : List Int} (h : NdOk E ns) (eo : EOk E) (hc : Cyc (suq E)) : flN ns 15 = false := by
  by_cases q : flN ns 15 = true
  · exfalso
    obtain ⟨D, hD, hm⟩ := (flN_iff_run h eo (by decide)).mp q
    obtain ⟨C, hne, hr, hC⟩ := hc
    have no : ∀ {D : List Int}, Run E D → ∀ y ∈ C, y ∉ D := by
      intro D hD
      induction hD with
      | nil => exact fun y _ z => nomatch z
      | cons k1 k2 k3 k4 ih =>
        intro y hy z
        rcases List.mem_cons.mp z with rfl | z
        · obtain ⟨u, hu, hyu⟩ := hC y hy
          rw [suq_at (hr u hu)] at hyu
          exact ih u hu (k4 u (sucF_mem.mp hyu))
        · exact ih y hy z
    obtain ⟨y, hy⟩ := List.exists_mem_of_ne_nil C hne
    have h3 := hr y hy
    obtain ⟨j, rfl⟩ := Int.eq_ofNat_of_zero_le h3.1
    have hj : j < 4 := by have := h3.2; omega
    refine no hD _ hy (((mkN_ok hD.nodup hD.in3).2 j hj).mp ?_)
    rw [hm]
    match j, hj with
    | 0, _ => rfl
    | 1, _ => rfl
    | 2, _ => rfl
    | 3, _ => rfl
  · simpa using q
theorem Run.union {E : List (Int × Int)} {A B : List Int} (ha : Run E A) (hb : Run E B) : ∃ D, Run E D ∧ ∀ t, t ∈ D ↔ t ∈ A ∨ t ∈ B := by
  induction hb with
  | nil => exact ⟨A, ha, fun t => by simp⟩
  | cons k1 k2 k3 k4 ih =>
    rename_i B x
    obtain ⟨D, hD, hm⟩ := ih
    by_cases q : x ∈ D
    · refine ⟨D, hD, fun t => ?_⟩
      rw [hm t, List.mem_cons]
      constructor
      · rintro (z | z)
        · exact .inl z
        · exact .inr (.inr z)
      · rintro (z | z | z)
        · exact .inl z
        · rw [z]; exact (hm x).mp q
        · exact .inr z
    · refine ⟨x :: D, .cons hD k2 q fun a h => (hm a).mpr (.inr (k4 a h)), fun t => ?_⟩
      rw [List.mem_cons, hm t, List.mem_cons]
      constructor
      · rintro (z | z | z)
        · exact .inr (.inl z)
        · exact .inl z
        · exact .inr (.inr z)
      · rintro (z | z | z)
        · exact .inr (.inl z)
        · exact .inl z
        · exact .inr (.inr z)
theorem Run.inter {E : List (Int × Int)} {A B : List Int} (ha : Run E A) (hb : Run E B) : ∃ D, Run E D ∧ ∀ t, t ∈ D ↔ t ∈ A ∧ t ∈ B := by
  induction ha with
  | nil => exact ⟨[], .nil, fun t => by simp⟩
  | cons k1 k2 k3 k4 ih =>
    rename_i A x
    obtain ⟨D, hD, hm⟩ := ih
    by_cases q : x ∈ B
    · refine ⟨x :: D, .cons hD k2 (fun z => k3 ((hm x).mp z).1) fun a h => (hm a).mpr ⟨k4 a h, hb.cl x q a h⟩, fun t => ?_⟩
      rw [List.mem_cons, hm t, List.mem_cons]
      constructor
      · rintro (z | z)
        · exact ⟨.inl z, z ▸ q⟩
        · exact ⟨.inr z.1, z.2⟩
      · rintro ⟨z | z, z2⟩
        · exact .inl z
        · exact .inr ⟨z, z2⟩
    · refine ⟨D, hD, fun t => ?_⟩
      rw [hm t, List.mem_cons]
      constructor
      · rintro ⟨z, z2⟩; exact ⟨.inr z, z2⟩
      · rintro ⟨z | z, z2⟩
        · exact absurd (z ▸ z2) q
        · exact ⟨z, z2⟩
theorem Run.maj {E : List (Int × Int)} {A B C : List Int} (ha : Run E A) (hb : Run E B) (hc : Run E C) : ∃ D, Run E D ∧ ∀ t, t ∈ D ↔ (t ∈ A ∧ t ∈ B) ∨ (t ∈ B ∧ t ∈ C) ∨ (t ∈ C ∧ t ∈ A) := by
  obtain ⟨X, hX, mX⟩ := ha.inter hb
  obtain ⟨Y, hY, mY⟩ := hb.inter hc
  obtain ⟨Z, hZ, mZ⟩ := hc.inter ha
  obtain ⟨U, hU, mU⟩ := hY.union hZ
  obtain ⟨V, hV, mV⟩ := hX.union hU
  exact ⟨V, hV, fun t => by rw [mV, mU, mX, mY, mZ]⟩
theorem at_LawBase : True := by
  w_top off
  exact trivial
noncomputable def lawFd (w : World) : Option FuncData := match (hd.heap_1 w.params).lookup 203 with
  | some o => (match o.data with | .func fd => some fd | _ => none)
  | none => none
noncomputable def lawBody (w : World) : List Stmt := match lawFd w with
  | some fd => (match fd.body with | .stmts b => b | _ => [])
  | none => []
noncomputable def scopeOf : Option Obj → Scope
  | some o => (match o.data with | .func fd => fd.scope | _ => default)
  | none => default
noncomputable def lawScope (w : World) : Scope := scopeOf ((hd.heap_1 w.params).lookup 203)
theorem lawScope_eq (w : World) : lawScope w = scopeOf ((hd.heap_1 w.params).lookup 203) := rfl
noncomputable def lawS (w : World) (k : Nat) : Stmt := (lawBody w).getD k (.Pass ⟨0,0,0,0⟩)
noncomputable def lawEnv (w : World) (L fa : Addr) (cd : Value) : Env := envOfC "law" (lawScope w) L fa cd
noncomputable def lawA (w : World) (L fa : Addr) (cd : Value) : Around := callerA.deeper (lawEnv w L fa cd)
structure LawG (w : World) (mean : ExcName → Option Value) (mg mb : Str → Option Value) (h₀ : Heap) : Prop where
  below : Below callerA h₀ [] h₀
  inn : (hd.heap_1 w.params).In h₀
  top : Top VW LS mean mg mb h₀
theorem dicts_nil (h : Heap) : KtsDicts (frs []) h := fun _ q => nomatch q
theorem use_conL {w : World} {mean : ExcName → Option Value} {mg mb : Str → Option Value} {dp un : Nat} {f : Addr} {args : List Value} {newsC rest : List (Addr × Obj)} {R : Value → List (Addr × Obj) → Prop} (C : ConS w mean mg mb dp un f args newsC R)
    {A : Around} {cn : Str} {cs : Scope} {L a : Addr} {ccd : Value} {cl : List (Str × Addr)} {h₀ : Heap} {m : Str → Option Value} {s : Shared} {Q E : Value → Shared → Prop} (G : LawG w mean mg mb h₀)
    (F : Fr h₀ L s.heap m) (N : News h₀ L s.heap newsC) (NR : News h₀ L s.heap rest)
    (hA : A.frames = some [envX cn cs L a ccd cl]) (hk : cs.kind = .function) (hh : A.handled = none) (hd : A.depth ≤ dp) (hu : A.units ≤ un)
    (hr : ∀ p ∈ rest, p.1 ∉ newsC.map (·.1))
    (h : ∀ r news' h' tk', Fr h₀ L h' m → News h₀ L h' (news' ++ rest) → (∀ p ∈ news', ∀ q ∈ rest, p.1 ≠ q.1) → R r news' → Q r { s with heap := h', toks := tk' }) :
    wpAny (model Challenge.rw_om0134_01.row.prog w) A (call (.ref f) args) Q E s :=
  use_conS C G.below F G.inn N NR G.top G.inn G.top (dicts_nil _) hA hk hh hd hu hr fun r news' h' tk' g' G' F' N' fr y => by
    obtain ⟨F2, N2⟩ := G'.outermost F' N'
    refine h r news' h' tk' F2 N2 (fun p hp q hq e => ?_) y
    rcases fr p hp with z | z
    · exact hr q hq (e ▸ z)
    · exact z q hq e.symm
theorem at_LawComp : True := by
  w_top off
  exact trivial
section
open LCg
section
variable {prog : Program} {w : World} {A : Around} {s : Shared} {h₀ : Heap} {L : Addr} {m : Str → Option Value} {env : Env}
theorem intsAre_snoc {vs : List Value} {ns : List Int} (h : IntsAre vs ns) (x : Int) (t : Tok) : IntsAre (vs ++ [.int x t]) (ns ++ [x]) := intsAre_append h (.cons _ _ .nil)
theorem int_rest {elt : PySem.Expr} {x : Str} {scope : Scope} {cl : List (Str × Addr)} {S : List (Addr × Obj) → Prop} {Fin : List Value → List (Addr × Obj) → Prop} {news : List (Addr × Obj)} {vs : List Value} {ns : List Int} (hi : IntsAre vs ns) (f : Int → Int)
    (turn : ∀ (i : Nat) k t I oI C oC D m₂ ys h tk (E' : Value → Shared → Prop), ns[i]? = some k → NsObj oC m₂ → m₂ x = some (.int k t) → Fr h₀ L h m → News h₀ L h ((I, oI) :: (C, oC) :: (D, lst ys) :: news) → Off3 I C D news → ((@Ne Nat I C) ∧ (@Ne Nat I D) ∧ (@Ne Nat C D)) →
      wpAny (model prog w) A (eval elt (compEnvC scope cl C env)) (CompEnd h₀ L m { s with heap := h, toks := tk } I oI C oC D (lst ys) S (fun y news' => news' = news ∧ ∃ t, y = .int (f k) t)) E' { s with heap := h, toks := tk })
    (fin : ∀ ys, IntsAre ys (ns.map f) → Fin ys news) : CompRest prog w A h₀ L m env elt x scope cl s S (fun i v => vs.toArray[i]? = some v) Fin vs.toArray.size 0 [] news := by
  have hl := hi.length
  have key : ∀ (j i : Nat) (ys : List Value), i + j = vs.toArray.size → IntsAre ys ((ns.take i).map f) → CompRest prog w A h₀ L m env elt x scope cl s S (fun i v => vs.toArray[i]? = some v) Fin j i ys news := by
    intro j
    induction j with
    | zero =>
      intro i ys h1 hy
      rw [List.size_toArray] at h1
      rw [List.take_of_length_le (by omega)] at hy
      exact CompRest.zero (fin ys hy)
    | succ j ih =>
      intro i ys h1 hy
      refine CompRest.succ ?_
      intro v I oI C oC D m₂ h tk E' hv hC hx F N off ne
      rw [List.getElem?_toArray] at hv
      obtain ⟨k, t, ev, hk⟩ := IntsAre.at hi i v hv
      subst ev
      refine wpAny_mono (turn i k t I oI C oC D m₂ ys h tk E' hk hC hx F N off ne) (fun y s₃ hr => ?_) fun _ _ e => e
      obtain ⟨h', tk', nw, e1, F', N', off', hS, hn, t', hy'⟩ := hr
      subst hn hy'
      refine ⟨h', tk', _, e1, F', N', off', hS, ih (i + 1) _ (by omega) ?_⟩
      have e9 : ns.take (i + 1) = ns.take i ++ [k] := by rw [List.take_add_one, hk]; rfl
      rw [e9, List.map_append]
      exact intsAre_snoc hy _ _
  exact key _ 0 [] (by omega) (by simp; exact .nil)
theorem tup_rest {elt : PySem.Expr} {x : Str} {scope : Scope} {cl : List (Str × Addr)} {S : List (Addr × Obj) → Prop} {Fin : List Value → List (Addr × Obj) → Prop} {news : List (Addr × Obj)} {vs : List Value} {ns : List Int} (hi : IntsAre vs ns) (f g : Int → Int)
    (turn : ∀ (i : Nat) k t I oI C oC D m₂ h tk (E' : Value → Shared → Prop) (tl : List TE), ns[i]? = some k → NsObj oC m₂ → m₂ x = some (.int k t) → Fr h₀ L h m → News h₀ L h ((I, oI) :: (C, oC) :: (D, lst (tupV tl)) :: (tupL tl.reverse ++ news)) → Off3 I C D (tupL tl.reverse ++ news) → ((@Ne Nat I C) ∧ (@Ne Nat I D) ∧ (@Ne Nat C D)) →
      wpAny (model prog w) A (eval elt (compEnvC scope cl C env)) (CompEnd h₀ L m { s with heap := h, toks := tk } I oI C oC D (lst (tupV tl)) S (fun y news' => ∃ (T : Nat) (ta tb : Tok), y = .ref T ∧ news' = (T, tupO ⟨T, f k, g k, ta, tb⟩) :: (tupL tl.reverse ++ news))) E' { s with heap := h, toks := tk })
    (fin : ∀ tl : List TE, edgF tl = ns.map (fun x => (f x, g x)) → Fin (tupV tl) (tupL tl.reverse ++ news)) : CompRest prog w A h₀ L m env elt x scope cl s S (fun i v => vs.toArray[i]? = some v) Fin vs.toArray.size 0 [] news := by
  have hl := hi.length
  have key : ∀ (j i : Nat) (tl : List TE), i + j = vs.toArray.size → edgF tl = (ns.take i).map (fun x => (f x, g x)) → CompRest prog w A h₀ L m env elt x scope cl s S (fun i v => vs.toArray[i]? = some v) Fin j i (tupV tl) (tupL tl.reverse ++ news) := by
    intro j
    induction j with
    | zero =>
      intro i tl h1 hy
      rw [List.size_toArray] at h1
      rw [List.take_of_length_le (by omega)] at hy
      exact CompRest.zero (fin tl hy)
    | succ j ih =>
      intro i tl h1 hy
      refine CompRest.succ ?_
      intro v I oI C oC D m₂ h tk E' hv hC hx F N off ne
      rw [List.getElem?_toArray] at hv
      obtain ⟨k, t, ev, hk⟩ := IntsAre.at hi i v hv
      subst ev
      refine wpAny_mono (turn i k t I oI C oC D m₂ h tk E' tl hk hC hx F N off ne) (fun y s₃ hr => ?_) fun _ _ e => e
      obtain ⟨h', tk', nw, e1, F', N', off', hS, T, ta, tb, hy', hn⟩ := hr
      subst hn hy'
      have e7 : tupV tl ++ [.ref T] = tupV (tl ++ [(⟨T, f k, g k, ta, tb⟩ : TE)]) := by simp [tupV]
      have e8 : ((T, tupO ⟨T, f k, g k, ta, tb⟩) : Addr × Obj) :: (tupL tl.reverse ++ news) = tupL (tl ++ [(⟨T, f k, g k, ta, tb⟩ : TE)]).reverse ++ news := by simp [tupL]
      have e9 : ns.take (i + 1) = ns.take i ++ [k] := by rw [List.take_add_one, hk]; rfl
      refine ⟨h', tk', _, e1, F', N', off', hS, ?_⟩
      show CompRest prog w A h₀ L m env elt x scope cl s S _ Fin j (i + 1) (tupV tl ++ [.ref T]) _
      rw [e7, e8]
      refine ih (i + 1) _ (by omega) ?_
      rw [e9, List.map_append, ← hy]
      simp [edgF]
  exact key _ 0 [] (by omega) rfl
end
end
theorem at_LawA : True := by
  w_top off
  k_with "k_srcG" => repeat' (first | ((fail_if_success (with_reducible show LCg.CompSrc _ _ _ _ _ _ _ _ _ _ _ _ _ _)); first | (k_unfold; (try dsimp only)) | walk1) | fail "no step")
  exact trivial
theorem tup_ex {g h : Heap} {L : Addr} {T : Nat} {a b : Int} {ta tb : Tok} {r : List (Addr × Obj)} (N : News g L h (((T : Addr), ({ cls := .type "tuple", data := .seq #[.int a ta, .int b tb] } : Obj)) :: r)) : ∃ ta' tb', News g L h (((T : Addr), tupO ⟨T, a, b, ta', tb'⟩) :: r) := ⟨ta, tb, N⟩
noncomputable def numsF (ns : List Int) : List Int := (ns.take 11).map fun x => x.fmod 3600
noncomputable def edgsF (nums : List Int) : List (Int × Int) := (nums.take 4).map fun x => (x.fmod 4, (x + 1 + (x.fdiv 4).fmod 3).fmod 4)
namespace S_law_numbers
noncomputable def stm (w : World) (mean : ExcName → Option Value) (mg mb : Str → Option Value) (h₀ h : Heap) (L fa : Addr) (cd : Value) (s : Shared) (tk : Nat) (Q : Flow → Shared → Prop) (E : Value → Shared → Prop) (u : Str → Option Value) (sc : Addr) (vs : List Value) (ns : List Int) (oN oM : Obj) (v1 v2 : Option Value) : Prop := ∀ (G : LawG w mean mg mb h₀) (hE : PassesOwn (model Challenge.rw_om0134_01.row.prog w) (lawA w L fa cd) (lawEnv w L fa cd) E) (hl : h₀.IsList sc vs.toArray) (hi : IntsAre vs ns) (hz : ns.length ≤ 63) (c1 : oN.data = .cell v1) (c2 : oM.data = .cell v2) (F : Fr h₀ L h (kstB u [(("script" : Str), .ref sc)])) (N : News h₀ L h [(L + 1 + 1, oM), (L + 1, oN)]) (hQ : ∀ (nb : Nat) (ys : List Value) (h' : Heap) (tk' : Nat) (u' : Str → Option Value), IntsAre ys (numsF ns) → Fr h₀ L h' (kstB u' [(("numbers" : Str), .ref nb)]) → News h₀ L h' [((nb : Addr), W.listOf (List.toArray ys) ys.length), (L + 1 + 1, oM), (L + 1, oN)] → Q .next { s with heap := h', toks := tk' }), wpAny (model Challenge.rw_om0134_01.row.prog w) (lawA w L fa cd) (exec (lawS w 0) (lawEnv w L fa cd)) Q E { s with heap := h, toks := tk }
noncomputable abbrev Dat := World × (ExcName → Option Value) × (Str → Option Value) × (Str → Option Value) × Heap × Heap × Addr × Addr × Value × Shared × Nat × (Flow → Shared → Prop) × (Value → Shared → Prop) × (Str → Option Value) × Addr × List Value × List Int × Obj × Obj × Option Value × Option Value
noncomputable def ok (p : Dat) : Prop := let q1 := p.2.2.2.2.2.2.2.2; let q2 := q1.2.2.2.2.2.2.2.2; stm p.1 p.2.1 p.2.2.1 p.2.2.2.1 p.2.2.2.2.1 p.2.2.2.2.2.1 p.2.2.2.2.2.2.1 p.2.2.2.2.2.2.2.1 q1.1 q1.2.1 q1.2.2.1 q1.2.2.2.1 q1.2.2.2.2.1 q1.2.2.2.2.2.1 q1.2.2.2.2.2.2.1 q1.2.2.2.2.2.2.2.1 q2.1 q2.2.1 q2.2.2.1 q2.2.2.2.1 q2.2.2.2.2
@[irreducible] noncomputable def cc : Dat := @Classical.epsilon Dat ⟨(world0, fun _ => none, fun _ => none, fun _ => none, {}, {}, (0 : Nat), (0 : Nat), .none, {}, 0, fun _ _ => True, fun _ _ => True, fun _ => none, (0 : Nat), [], [], default, default, none, none)⟩ fun p => ¬ ok p
noncomputable def c1 := cc.2.2.2.2.2.2.2.2
noncomputable def c2 := c1.2.2.2.2.2.2.2.2
@[irreducible] noncomputable def w : World := cc.1
@[irreducible] noncomputable def mean : ExcName → Option Value := cc.2.1
@[irreducible] noncomputable def mg : Str → Option Value := cc.2.2.1
@[irreducible] noncomputable def mb : Str → Option Value := cc.2.2.2.1
@[irreducible] noncomputable def h₀ : Heap := cc.2.2.2.2.1
@[irreducible] noncomputable def h : Heap := cc.2.2.2.2.2.1
@[irreducible] noncomputable def L : Addr := cc.2.2.2.2.2.2.1
@[irreducible] noncomputable def fa : Addr := cc.2.2.2.2.2.2.2.1
@[irreducible] noncomputable def cd : Value := c1.1
@[irreducible] noncomputable def s : Shared := c1.2.1
@[irreducible] noncomputable def tk : Nat := c1.2.2.1
@[irreducible] noncomputable def Q : Flow → Shared → Prop := c1.2.2.2.1
@[irreducible] noncomputable def E : Value → Shared → Prop := c1.2.2.2.2.1
@[irreducible] noncomputable def u : Str → Option Value := c1.2.2.2.2.2.1
@[irreducible] noncomputable def sc : Addr := c1.2.2.2.2.2.2.1
@[irreducible] noncomputable def vs : List Value := c1.2.2.2.2.2.2.2.1
@[irreducible] noncomputable def ns : List Int := c2.1
@[irreducible] noncomputable def oN : Obj := c2.2.1
@[irreducible] noncomputable def oM : Obj := c2.2.2.1
@[irreducible] noncomputable def v1 : Option Value := c2.2.2.2.1
@[irreducible] noncomputable def v2 : Option Value := c2.2.2.2.2
theorem core : stm w mean mg mb h₀ h L fa cd s tk Q E u sc vs ns oN oM v1 v2 := by
  intro G hE hl hi hz c1 c2 F N hQ
  revert hE
  unfold lawA lawEnv
  have eS := lawScope_eq w
  rw [show (hd.heap_1 w.params).lookup 203 = some ⟨_, _, .func (fnOf _ _ _ _ _ _ _ _ _ _ _ _), _⟩ from rfl] at eS
  dsimp only [scopeOf, fnOf] at eS
  have eT : lawS w 0 = Stmt.Assign _ _ _ := rfl
  rw [eS, eT]
  clear eS eT
  intro hE
  have B := G.below
  have X := G.inn
  have T := G.top
  dsimp only [kstB] at F
  walk_at "k_toL"
  rename Fr _ _ _ _ => F0
  refine LCg.Assign_ListComp_U (F₀ := F0) (by rfl) (by with_unfolding_all rfl) (by with_unfolding_all rfl) (by decide) (by rfl) (by decide) (by rfl) (by rfl) (by rfl) ?_
  walk_at "k_srcG"
  rename Fr _ _ _ _ => F1
  rename News _ _ _ _ => N1
  have hI9 := ‹IntsAre _ (List.take 11 ns)›
  have hl9 := hI9.length
  refine LCg.CompSrc.ledger (ax := _) rfl F1 N1 (List.Mem.head _) (by rw [List.size_toArray, hl9, sizeLine_eq, List.length_take]; omega) ?_
  intro g9
  refine int_rest hI9 (fun x => x.fmod 3600) ?_ ?_
  · intro i k t I' oI' C' oC' D' m' ys' h' tk' E' hk hC' hx' F' N' off' ne'
    have off0 := off'
    walk_at "k_comp"
    exact LCg.CompEnd.intro (by assumption) (by assumption) _ (fun p hp => hp) off0 (.inr ⟨_, List.Mem.head _, rfl, _, rfl⟩) ⟨rfl, _, rfl⟩
  · intro ys hys
    unfold LCg.FinA
    intro nb h9 tk9 F9 N9 off9
    exact hQ nb ys h9 tk9 _ hys F9 (news_sub N9 fun p hp => by
      rcases List.mem_cons.mp hp with rfl | hp
      · exact .head _
      · exact mt2 hp)
theorem all (p : Dat) : ok p := drink _ ok (by with_unfolding_all exact core) p
end S_law_numbers
theorem law_numbers {w : World} {mean : ExcName → Option Value} {mg mb : Str → Option Value} {h₀ h : Heap} {L fa : Addr} {cd : Value} {s : Shared} {tk : Nat} {Q : Flow → Shared → Prop} {E : Value → Shared → Prop} {u : Str → Option Value}
    (G : LawG w mean mg mb h₀) (hE : PassesOwn (model Challenge.rw_om0134_01.row.prog w) (lawA w L fa cd) (lawEnv w L fa cd) E)
    (sc : Addr) (vs : List Value) (ns : List Int) (hl : h₀.IsList sc vs.toArray) (hi : IntsAre vs ns) (hz : ns.length ≤ 63)
    (oN oM : Obj) (v1 v2 : Option Value) (c1 : oN.data = .cell v1) (c2 : oM.data = .cell v2)
    (F : Fr h₀ L h (kstB u [(("script" : Str), .ref sc)])) (N : News h₀ L h [(L + 1 + 1, oM), (L + 1, oN)])
    (hQ : ∀ (nb : Nat) (ys : List Value) (h' : Heap) (tk' : Nat) (u' : Str → Option Value), IntsAre ys (numsF ns) → Fr h₀ L h' (kstB u' [(("numbers" : Str), .ref nb)]) → News h₀ L h' [((nb : Addr), W.listOf (List.toArray ys) ys.length), (L + 1 + 1, oM), (L + 1, oN)] → Q .next { s with heap := h', toks := tk' }) : wpAny (model Challenge.rw_om0134_01.row.prog w) (lawA w L fa cd) (exec (lawS w 0) (lawEnv w L fa cd)) Q E { s with heap := h, toks := tk } :=
  S_law_numbers.all (w, mean, mg, mb, h₀, h, L, fa, cd, s, tk, Q, E, u, sc, vs, ns, oN, oM, v1, v2) G hE hl hi hz c1 c2 F N hQ
namespace S_law_edges
noncomputable def stm (w : World) (mean : ExcName → Option Value) (mg mb : Str → Option Value) (h₀ h : Heap) (L fa : Addr) (cd : Value) (s : Shared) (tk : Nat) (Q : Flow → Shared → Prop) (E : Value → Shared → Prop) (u : Str → Option Value) (nb : Nat) (vn : List Value) (kn : Nat) (ns : List Int) (oN oM : Obj) (v1 v2 : Option Value) : Prop := ∀ (G : LawG w mean mg mb h₀) (hE : PassesOwn (model Challenge.rw_om0134_01.row.prog w) (lawA w L fa cd) (lawEnv w L fa cd) E) (hi : IntsAre vn ns) (hz : ns.length ≤ 11) (hr : ∀ x ∈ ns, 0 ≤ x ∧ x < 3600) (c1 : oN.data = .cell v1) (c2 : oM.data = .cell v2) (F : Fr h₀ L h (kstB u [(("numbers" : Str), .ref nb)])) (N : News h₀ L h [((nb : Addr), W.listOf (List.toArray vn) kn), (L + 1 + 1, oM), (L + 1, oN)]) (hQ : ∀ (e : Nat) (tl : List TE) (h' : Heap) (tk' : Nat) (u' : Str → Option Value), edgF tl = edgsF ns → @Ne Nat nb e → Fr h₀ L h' (kstB u' [(("numbers" : Str), .ref nb), (("edges" : Str), .ref e)]) → News h₀ L h' (((e : Addr), W.listOf (List.toArray (tupV tl)) (tupV tl).length) :: ((nb : Addr), W.listOf (List.toArray vn) kn) :: (L + 1 + 1, oM) :: (L + 1, oN) :: tupL tl) → Q .next { s with heap := h', toks := tk' }), wpAny (model Challenge.rw_om0134_01.row.prog w) (lawA w L fa cd) (exec (lawS w 1) (lawEnv w L fa cd)) Q E { s with heap := h, toks := tk }
noncomputable abbrev Dat := World × (ExcName → Option Value) × (Str → Option Value) × (Str → Option Value) × Heap × Heap × Addr × Addr × Value × Shared × Nat × (Flow → Shared → Prop) × (Value → Shared → Prop) × (Str → Option Value) × Nat × List Value × Nat × List Int × Obj × Obj × Option Value × Option Value
noncomputable def ok (p : Dat) : Prop := let q1 := p.2.2.2.2.2.2.2.2; let q2 := q1.2.2.2.2.2.2.2.2; stm p.1 p.2.1 p.2.2.1 p.2.2.2.1 p.2.2.2.2.1 p.2.2.2.2.2.1 p.2.2.2.2.2.2.1 p.2.2.2.2.2.2.2.1 q1.1 q1.2.1 q1.2.2.1 q1.2.2.2.1 q1.2.2.2.2.1 q1.2.2.2.2.2.1 q1.2.2.2.2.2.2.1 q1.2.2.2.2.2.2.2.1 q2.1 q2.2.1 q2.2.2.1 q2.2.2.2.1 q2.2.2.2.2.1 q2.2.2.2.2.2
@[irreducible] noncomputable def cc : Dat := @Classical.epsilon Dat ⟨(world0, fun _ => none, fun _ => none, fun _ => none, {}, {}, (0 : Nat), (0 : Nat), .none, {}, 0, fun _ _ => True, fun _ _ => True, fun _ => none, 0, [], 0, [], default, default, none, none)⟩ fun p => ¬ ok p
noncomputable def c1 := cc.2.2.2.2.2.2.2.2
noncomputable def c2 := c1.2.2.2.2.2.2.2.2
@[irreducible] noncomputable def w : World := cc.1
@[irreducible] noncomputable def mean : ExcName → Option Value := cc.2.1
@[irreducible] noncomputable def mg : Str → Option Value := cc.2.2.1
@[irreducible] noncomputable def mb : Str → Option Value := cc.2.2.2.1
@[irreducible] noncomputable def h₀ : Heap := cc.2.2.2.2.1
@[irreducible] noncomputable def h : Heap := cc.2.2.2.2.2.1
@[irreducible] noncomputable def L : Addr := cc.2.2.2.2.2.2.1
@[irreducible] noncomputable def fa : Addr := cc.2.2.2.2.2.2.2.1
@[irreducible] noncomputable def cd : Value := c1.1
@[irreducible] noncomputable def s : Shared := c1.2.1
@[irreducible] noncomputable def tk : Nat := c1.2.2.1
@[irreducible] noncomputable def Q : Flow → Shared → Prop := c1.2.2.2.1
@[irreducible] noncomputable def E : Value → Shared → Prop := c1.2.2.2.2.1
@[irreducible] noncomputable def u : Str → Option Value := c1.2.2.2.2.2.1
@[irreducible] noncomputable def nb : Nat := c1.2.2.2.2.2.2.1
@[irreducible] noncomputable def vn : List Value := c1.2.2.2.2.2.2.2.1
@[irreducible] noncomputable def kn : Nat := c2.1
@[irreducible] noncomputable def ns : List Int := c2.2.1
@[irreducible] noncomputable def oN : Obj := c2.2.2.1
@[irreducible] noncomputable def oM : Obj := c2.2.2.2.1
@[irreducible] noncomputable def v1 : Option Value := c2.2.2.2.2.1
@[irreducible] noncomputable def v2 : Option Value := c2.2.2.2.2.2
theorem core : stm w mean mg mb h₀ h L fa cd s tk Q E u nb vn kn ns oN oM v1 v2 := by
  intro G hE hi hz hr c1 c2 F N hQ
  revert hE
  unfold lawA lawEnv
  have eS := lawScope_eq w
  rw [show (hd.heap_1 w.params).lookup 203 = some ⟨_, _, .func (fnOf _ _ _ _ _ _ _ _ _ _ _ _), _⟩ from rfl] at eS
  dsimp only [scopeOf, fnOf] at eS
  have eT : lawS w 1 = Stmt.Assign _ _ _ := rfl
  rw [eS, eT]
  clear eS eT
  intro hE
  have B := G.below
  have X := G.inn
  have T := G.top
  dsimp only [kstB] at F
  walk_at "k_toL"
  rename Fr _ _ _ _ => F0
  refine LCg.Assign_ListComp_U (F₀ := F0) (by rfl) (by with_unfolding_all rfl) (by with_unfolding_all rfl) (by decide) (by rfl) (by decide) (by rfl) (by rfl) (by rfl) ?_
  walk_at "k_srcG"
  rename Fr _ _ _ _ => F1
  rename News _ _ _ _ => N1
  have hI9 := ‹IntsAre _ (List.take 4 ns)›
  have hl9 := hI9.length
  refine LCg.CompSrc.ledger (ax := _) rfl F1 N1 (List.Mem.head _) (by rw [List.size_toArray, hl9, sizeLine_eq, List.length_take]; omega) ?_
  intro g9
  refine tup_rest hI9 (fun x => x.fmod 4) (fun x => (x + 1 + (x.fdiv 4).fmod 3).fmod 4) ?_ ?_
  · intro i k t I' oI' C' oC' D' m' h' tk' E' tl hk hC' hx' F' N' off' ne'
    have off0 := off'
    have hk3 := hr k (List.mem_of_mem_take (List.mem_of_getElem? hk))
    walk_at "k_comp"
    rename Fr _ _ _ _ => F8
    rename News _ _ _ _ => N8
    refine name1 N8 ?_
    intro T8 e8
    subst e8
    obtain ⟨ta, tb, N7⟩ := tup_ex N8
    refine LCg.CompEnd.intro F8 N7 ((T8, tupO ⟨T8, k.fmod 4, (k + 1 + (k.fdiv 4).fmod 3).fmod 4, ta, tb⟩) :: (tupL tl.reverse ++ _)) (fun p hp => ?_) ⟨⟨?_, ?_, ?_⟩, off0⟩ (.inr ⟨_, .tail _ (List.mem_append.mpr (.inr (.head _))), rfl, _, rfl⟩) ⟨T8, ta, tb, rfl, rfl⟩
    · simp only [List.mem_append, List.mem_cons] at hp ⊢; grind
    · exact fun q => absurd (‹_ ∧ _ ∧ _ ∧ _›.1 : @LT.lt Nat _ I' T8) (by rw [show @Eq Nat T8 I' from q]; exact Nat.lt_irrefl _)
    · exact fun q => absurd (‹_ ∧ _ ∧ _ ∧ _›.2.1 : @LT.lt Nat _ C' T8) (by rw [show @Eq Nat T8 C' from q]; exact Nat.lt_irrefl _)
    · exact fun q => absurd (‹_ ∧ _ ∧ _ ∧ _›.2.2.1 : @LT.lt Nat _ D' T8) (by rw [show @Eq Nat T8 D' from q]; exact Nat.lt_irrefl _)
  · intro tl htl
    unfold LCg.FinA
    intro e h9 tk9 F9 N9 off9
    refine hQ e tl h9 tk9 _ htl (off1_mem _ off9 ((nb : Addr), W.listOf (List.toArray vn) kn) (List.mem_append.mpr (.inr (.tail _ (.head _))))) (AllAt.fr (ps := [(("numbers" : Str), .ref nb), (("edges" : Str), .ref e)]) (by exact ⟨rfl, rfl, trivial⟩) F9) (news_sub N9 fun p hp => ?_)
    simp only [tupL, List.mem_append, List.mem_cons, List.map_reverse, List.mem_reverse] at hp ⊢; grind
theorem all (p : Dat) : ok p := drink _ ok (by with_unfolding_all exact core) p
end S_law_edges
theorem law_edges {w : World} {mean : ExcName → Option Value} {mg mb : Str → Option Value} {h₀ h : Heap} {L fa : Addr} {cd : Value} {s : Shared} {tk : Nat} {Q : Flow → Shared → Prop} {E : Value → Shared → Prop} {u : Str → Option Value}
    (G : LawG w mean mg mb h₀) (hE : PassesOwn (model Challenge.rw_om0134_01.row.prog w) (lawA w L fa cd) (lawEnv w L fa cd) E)
    (nb : Nat) (vn : List Value) (kn : Nat) (ns : List Int) (hi : IntsAre vn ns) (hz : ns.length ≤ 11) (hr : ∀ x ∈ ns, 0 ≤ x ∧ x < 3600)
    (oN oM : Obj) (v1 v2 : Option Value) (c1 : oN.data = .cell v1) (c2 : oM.data = .cell v2)
    (F : Fr h₀ L h (kstB u [(("numbers" : Str), .ref nb)])) (N : News h₀ L h [((nb : Addr), W.listOf (List.toArray vn) kn), (L + 1 + 1, oM), (L + 1, oN)])
    (hQ : ∀ (e : Nat) (tl : List TE) (h' : Heap) (tk' : Nat) (u' : Str → Option Value), edgF tl = edgsF ns → @Ne Nat nb e → Fr h₀ L h' (kstB u' [(("numbers" : Str), .ref nb), (("edges" : Str), .ref e)]) → News h₀ L h' (((e : Addr), W.listOf (List.toArray (tupV tl)) (tupV tl).length) :: ((nb : Addr), W.listOf (List.toArray vn) kn) :: (L + 1 + 1, oM) :: (L + 1, oN) :: tupL tl) → Q .next { s with heap := h', toks := tk' }) : wpAny (model Challenge.rw_om0134_01.row.prog w) (lawA w L fa cd) (exec (lawS w 1) (lawEnv w L fa cd)) Q E { s with heap := h, toks := tk } :=
  S_law_edges.all (w, mean, mg, mb, h₀, h, L, fa, cd, s, tk, Q, E, u, nb, vn, kn, ns, oN, oM, v1, v2) G hE hi hz hr c1 c2 F N hQ
theorem at_LawB : True := by
  w_top off
  exact trivial
namespace S_law_needs
noncomputable def stm (w : World) (mean : ExcName → Option Value) (mg mb : Str → Option Value) (h₀ h : Heap) (L fa : Addr) (cd : Value) (s : Shared) (tk : Nat) (Q : Flow → Shared → Prop) (E : Value → Shared → Prop) (u : Str → Option Value) (nb e nd : Nat) (vn : List Value) (kn ke kd : Nat) (tl : List TE) (oN oM : Obj) (mv : Option Value) (ds : List Value) : Prop := ∀ (G : LawG w mean mg mb h₀) (hE : PassesOwn (model Challenge.rw_om0134_01.row.prog w) (lawA w L fa cd) (lawEnv w L fa cd) E) (hle : tl.length ≤ 4) (hr : ∀ x ∈ tl, (0 ≤ x.a ∧ x.a ≤ 3) ∧ (0 ≤ x.b ∧ x.b ≤ 3) ∧ x.a ≠ x.b) (c1 : oN.data = .cell (some (.ref nd))) (c2 : oM.data = .cell mv) (hds : IntsAre ds [0, 0, 0, 0]) (ho : @LT.lt Nat _ (L + 1) nd ∧ @LT.lt Nat _ (L + 1 + 1) nd ∧ @LT.lt Nat _ nb nd ∧ @LT.lt Nat _ e nd) (hu : Under nd (tupL tl)) (F : Fr h₀ L h (kstB u [(("numbers" : Str), .ref nb), (("edges" : Str), .ref e)])) (N : News h₀ L h (((nd : Addr), W.listOf (List.toArray ds) kd) :: (L + 1, oN) :: (L + 1 + 1, oM) :: ((nb : Addr), W.listOf (List.toArray vn) kn) :: ((e : Addr), W.listOf (List.toArray (tupV tl)) ke) :: tupL tl)) (hQ : ∀ s', At h₀ L s (fun ps n => ∃ (ds' : List Value) (kd' : Nat), ps = [(("numbers" : Str), .ref nb), (("edges" : Str), .ref e)] ∧ n = ((nd : Addr), W.listOf (List.toArray ds') kd') :: (L + 1, oN) :: (L + 1 + 1, oM) :: ((nb : Addr), W.listOf (List.toArray vn) kn) :: ((e : Addr), W.listOf (List.toArray (tupV tl)) ke) :: tupL tl ∧ IntsAre ds' (ndsF (edgF tl))) s' → Q .next s'), wpAny (model Challenge.rw_om0134_01.row.prog w) (lawA w L fa cd) (exec (lawS w 3) (lawEnv w L fa cd)) Q E { s with heap := h, toks := tk }
noncomputable abbrev Dat := World × (ExcName → Option Value) × (Str → Option Value) × (Str → Option Value) × Heap × Heap × Addr × Addr × Value × Shared × Nat × (Flow → Shared → Prop) × (Value → Shared → Prop) × (Str → Option Value) × Nat × Nat × Nat × List Value × Nat × Nat × Nat × List TE × Obj × Obj × Option Value × List Value
noncomputable def ok (p : Dat) : Prop := let q1 := p.2.2.2.2.2.2.2.2; let q2 := q1.2.2.2.2.2.2.2.2; let q3 := q2.2.2.2.2.2.2.2.2; stm p.1 p.2.1 p.2.2.1 p.2.2.2.1 p.2.2.2.2.1 p.2.2.2.2.2.1 p.2.2.2.2.2.2.1 p.2.2.2.2.2.2.2.1 q1.1 q1.2.1 q1.2.2.1 q1.2.2.2.1 q1.2.2.2.2.1 q1.2.2.2.2.2.1 q1.2.2.2.2.2.2.1 q1.2.2.2.2.2.2.2.1 q2.1 q2.2.1 q2.2.2.1 q2.2.2.2.1 q2.2.2.2.2.1 q2.2.2.2.2.2.1 q2.2.2.2.2.2.2.1 q2.2.2.2.2.2.2.2.1 q3.1 q3.2
@[irreducible] noncomputable def cc : Dat := @Classical.epsilon Dat ⟨(world0, fun _ => none, fun _ => none, fun _ => none, {}, {}, (0 : Nat), (0 : Nat), .none, {}, 0, fun _ _ => True, fun _ _ => True, fun _ => none, 0, 0, 0, [], 0, 0, 0, [], default, default, none, [])⟩ fun p => ¬ ok p
noncomputable def c1 := cc.2.2.2.2.2.2.2.2
noncomputable def c2 := c1.2.2.2.2.2.2.2.2
noncomputable def c3 := c2.2.2.2.2.2.2.2.2
@[irreducible] noncomputable def w : World := cc.1
@[irreducible] noncomputable def mean : ExcName → Option Value := cc.2.1
@[irreducible] noncomputable def mg : Str → Option Value := cc.2.2.1
@[irreducible] noncomputable def mb : Str → Option Value := cc.2.2.2.1
@[irreducible] noncomputable def h₀ : Heap := cc.2.2.2.2.1
@[irreducible] noncomputable def h : Heap := cc.2.2.2.2.2.1
@[irreducible] noncomputable def L : Addr := cc.2.2.2.2.2.2.1
@[irreducible] noncomputable def fa : Addr := cc.2.2.2.2.2.2.2.1
@[irreducible] noncomputable def cd : Value := c1.1
@[irreducible] noncomputable def s : Shared := c1.2.1
@[irreducible] noncomputable def tk : Nat := c1.2.2.1
@[irreducible] noncomputable def Q : Flow → Shared → Prop := c1.2.2.2.1
@[irreducible] noncomputable def E : Value → Shared → Prop := c1.2.2.2.2.1
@[irreducible] noncomputable def u : Str → Option Value := c1.2.2.2.2.2.1
@[irreducible] noncomputable def nb : Nat := c1.2.2.2.2.2.2.1
@[irreducible] noncomputable def e : Nat := c1.2.2.2.2.2.2.2.1
@[irreducible] noncomputable def nd : Nat := c2.1
@[irreducible] noncomputable def vn : List Value := c2.2.1
@[irreducible] noncomputable def kn : Nat := c2.2.2.1
@[irreducible] noncomputable def ke : Nat := c2.2.2.2.1
@[irreducible] noncomputable def kd : Nat := c2.2.2.2.2.1
@[irreducible] noncomputable def tl : List TE := c2.2.2.2.2.2.1
@[irreducible] noncomputable def oN : Obj := c2.2.2.2.2.2.2.1
@[irreducible] noncomputable def oM : Obj := c2.2.2.2.2.2.2.2.1
@[irreducible] noncomputable def mv : Option Value := c3.1
@[irreducible] noncomputable def ds : List Value := c3.2
theorem core : stm w mean mg mb h₀ h L fa cd s tk Q E u nb e nd vn kn ke kd tl oN oM mv ds := by
  intro G hE hle hr c1 c2 hds ho hu F N hQ
  revert hE
  unfold lawA lawEnv
  have eS := lawScope_eq w
  rw [show (hd.heap_1 w.params).lookup 203 = some ⟨_, _, .func (fnOf _ _ _ _ _ _ _ _ _ _ _ _), _⟩ from rfl] at eS
  dsimp only [scopeOf, fnOf] at eS
  have eT : lawS w 3 = Stmt.For _ _ _ _ _ := rfl
  rw [eS, eT]
  clear eS eT
  intro hE
  have B := G.below
  have X := G.inn
  have T := G.top
  have rP : ∀ n', ((nd : Addr), n') ∈ ([] : List (Addr × Obj)) → True := fun _ _ => trivial
  refine for_listS (fun r ps n => ∃ pre post : List TE, tl = pre ++ post ∧ r = tupV post ∧ ps = [(("numbers" : Str), .ref nb), (("edges" : Str), .ref e)] ∧ ∃ (ds' : List Value) (kd' : Nat), n = ((nd : Addr), W.listOf (List.toArray ds') kd') :: (L + 1, oN) :: (L + 1 + 1, oM) :: ((nb : Addr), W.listOf (List.toArray vn) kn) :: ((e : Addr), W.listOf (List.toArray (tupV tl)) ke) :: tupL tl ∧ IntsAre ds' (ndsF (edgF pre)))
    [("numbers", _), ("edges", _)] rfl F N (mt4 (.head _)) rfl rfl (by exact ⟨rfl, rfl, trivial⟩) (by exact ⟨[], tl, rfl, rfl, rfl, ds, kd, rfl, hds⟩) (by rintro r ps n ⟨pre, post, _, _, _, ds', kd', rfl, _⟩; exact (mt4 (.head _))) ?_ ?_ hE ?_
  · rintro I v r ps₁ u news₁ it h tk Pp hI hit ⟨pre, post, htl, hv, rfl, ds', kd', rfl, hds'⟩ F1 N1 hN - - -
    (try dsimp only [kstB] at F1)
    clear F N
    cases post with
    | nil => cases hv
    | cons x post =>
    have hvv : v = .ref x.T := by injection hv
    have hrr : r = tupV post := by injection hv
    subst hvv hrr
    clear hv
    have hxm : x ∈ tl := by rw [htl]; exact List.mem_append.mpr (.inr (.head _))
    have N2 := news_sub N1 (news := (x.T, tupO x) :: (I, it) :: ((nd : Addr), W.listOf (List.toArray ds') kd') :: (L + 1, oN) :: (L + 1 + 1, oM) :: ((nb : Addr), W.listOf (List.toArray vn) kn) :: ((e : Addr), W.listOf (List.toArray (tupV tl)) ke) :: tupL tl) (fun p hp => by
      rcases List.mem_cons.mp hp with rfl | hp
      · exact mt4 (mt2 (List.mem_map_of_mem (f := fun x : TE => ((x.T : Addr), tupO x)) hxm))
      · exact hp)
    clear N1
    have hxT : @LT.lt Nat _ x.T nd := hu.lt _ (List.mem_map_of_mem (f := fun x : TE => ((x.T : Addr), tupO x)) hxm)
    have hId := hI
    k_lt hId
    obtain ⟨hx1, hx2, hx3⟩ := hr x hxm
    have hnd4 := (ndsF_ok _ (E := edgF pre) rfl (fun e he => by
      obtain ⟨y, hy, rfl⟩ := List.mem_map.mp he
      have := hr y (by rw [htl]; exact List.mem_append.mpr (.inl hy))
      exact ⟨this.1, this.2.1⟩)).len
    have hdl := hds'.length
    walk_at "k_run"
    rename Fr _ _ _ _ => F5
    rename News _ _ _ _ => N5
    have hi9 := ‹IntsAre (ds'.set _ _) _›
    have e9 : ndsF (edgF (pre ++ [x])) = ndStep (ndsF (edgF pre)) (x.a, x.b) := by
      rw [← ndsF_snoc]; simp [edgF]
    refine hN _ ?_
    refine AtI.intro F5 N5 [("numbers", _), ("edges", _)] _ (by exact ⟨rfl, rfl, trivial⟩) (.tail _ (.head _)) (fun p hp => mt2 hp) ?_ ⟨pre ++ [x], post, by rw [htl]; simp, rfl, rfl, _, _, rfl, by rw [e9]; exact hi9⟩
    intro p hp
    rcases List.mem_cons.mp hp with rfl | hp
    · exact Nat.ne_of_lt (hI ((nd : Addr), W.listOf (List.toArray ds) kd) (.head _))
    · exact Nat.ne_of_lt (hI p (.tail _ hp))
  · rintro ps₁ u news₁ h tk ⟨pre, post, htl, hv, rfl, ds', kd', rfl, hds'⟩ F1 N1
    have hpost : post = [] := by
      cases post with
      | nil => rfl
      | cons x r => cases hv
    subst hpost
    rw [List.append_nil] at htl
    subst htl
    refine hQ _ ?_
    exact At.intro' F1 N1 [("numbers", _), ("edges", _)] (by exact ⟨rfl, rfl, trivial⟩) ⟨ds', kd', rfl, rfl, hds'⟩
  · walk_at "k_run"
    assumption
theorem all (p : Dat) : ok p := drink _ ok (by with_unfolding_all exact core) p
end S_law_needs
theorem law_needs {w : World} {mean : ExcName → Option Value} {mg mb : Str → Option Value} {h₀ h : Heap} {L fa : Addr} {cd : Value} {s : Shared} {tk : Nat} {Q : Flow → Shared → Prop} {E : Value → Shared → Prop} {u : Str → Option Value}
    (G : LawG w mean mg mb h₀) (hE : PassesOwn (model Challenge.rw_om0134_01.row.prog w) (lawA w L fa cd) (lawEnv w L fa cd) E)
    (nb e nd : Nat) (vn : List Value) (kn ke kd : Nat) (tl : List TE) (oN oM : Obj) (mv : Option Value) (ds : List Value)
    (hle : tl.length ≤ 4) (hr : ∀ x ∈ tl, (0 ≤ x.a ∧ x.a ≤ 3) ∧ (0 ≤ x.b ∧ x.b ≤ 3) ∧ x.a ≠ x.b)
    (c1 : oN.data = .cell (some (.ref nd))) (c2 : oM.data = .cell mv) (hds : IntsAre ds [0, 0, 0, 0])
    (ho : @LT.lt Nat _ (L + 1) nd ∧ @LT.lt Nat _ (L + 1 + 1) nd ∧ @LT.lt Nat _ nb nd ∧ @LT.lt Nat _ e nd) (hu : Under nd (tupL tl))
    (F : Fr h₀ L h (kstB u [(("numbers" : Str), .ref nb), (("edges" : Str), .ref e)]))
    (N : News h₀ L h (((nd : Addr), W.listOf (List.toArray ds) kd) :: (L + 1, oN) :: (L + 1 + 1, oM) :: ((nb : Addr), W.listOf (List.toArray vn) kn) :: ((e : Addr), W.listOf (List.toArray (tupV tl)) ke) :: tupL tl))
    (hQ : ∀ s', At h₀ L s (fun ps n => ∃ (ds' : List Value) (kd' : Nat), ps = [(("numbers" : Str), .ref nb), (("edges" : Str), .ref e)] ∧ n = ((nd : Addr), W.listOf (List.toArray ds') kd') :: (L + 1, oN) :: (L + 1 + 1, oM) :: ((nb : Addr), W.listOf (List.toArray vn) kn) :: ((e : Addr), W.listOf (List.toArray (tupV tl)) ke) :: tupL tl ∧ IntsAre ds' (ndsF (edgF tl))) s' → Q .next s') : wpAny (model Challenge.rw_om0134_01.row.prog w) (lawA w L fa cd) (exec (lawS w 3) (lawEnv w L fa cd)) Q E { s with heap := h, toks := tk } :=
  S_law_needs.all (w, mean, mg, mb, h₀, h, L, fa, cd, s, tk, Q, E, u, nb, e, nd, vn, kn, ke, kd, tl, oN, oM, mv, ds) G hE hle hr c1 c2 hds ho hu F N hQ
theorem at_LawC : True := by
  w_top off
  exact trivial
theorem cell_off {g h : Heap} {L c : Addr} {oc : Obj} {v : Option Value} {all : List (Addr × Obj)} {p : Addr × Obj} {its : Array Value} {k : Nat} (N : News g L h all) (hc : (c, oc) ∈ all) (hd : oc.data = .cell v) (hp : p ∈ all) (hs : p.2.data = .seq its k) : @Ne Nat p.1 c := fun e => by
  have h1 := (N _ hc).1
  have h2 := (N _ hp).1
  have e' : p.1 = c := e
  rw [e', h1] at h2
  injection h2 with h2
  rw [← h2, hd] at hs
  cases hs
theorem zeros_ex {g h : Heap} {L a : Addr} {t0 t1 t2 t3 : Tok} {k : Nat} {r : List (Addr × Obj)} (N : News g L h ((a, W.listOf #[.int 0 t0, .int 0 t1, .int 0 t2, .int 0 t3] k) :: r)) : ∃ ds, IntsAre ds [0, 0, 0, 0] ∧ News g L h ((a, W.listOf (List.toArray ds) k) :: r) :=
  ⟨[.int 0 t0, .int 0 t1, .int 0 t2, .int 0 t3], .cons _ _ (.cons _ _ (.cons _ _ (.cons _ _ .nil))), N⟩
theorem law_nd {w : World} {mean : ExcName → Option Value} {mg mb : Str → Option Value} {h₀ h : Heap} {L fa : Addr} {cd : Value} {s : Shared} {tk : Nat} {Q : Flow → Shared → Prop} {E : Value → Shared → Prop} {u : Str → Option Value}
    (G : LawG w mean mg mb h₀) (nb e : Nat) (vn : List Value) (kn ke : Nat) (tl : List TE) (oN oM : Obj) (v1 v2 : Option Value) (c1 : oN.data = .cell v1) (c2 : oM.data = .cell v2) (r : List Stmt)
    (F : Fr h₀ L h (kstB u [(("numbers" : Str), .ref nb), (("edges" : Str), .ref e)])) (N : News h₀ L h (((e : Addr), W.listOf (List.toArray (tupV tl)) ke) :: ((nb : Addr), W.listOf (List.toArray vn) kn) :: (L + 1 + 1, oM) :: (L + 1, oN) :: tupL tl))
    (hQ : ∀ (nd : Nat) (ds : List Value) (kd : Nat) (oN' : Obj) (h' : Heap) (tk' : Nat) (u' : Str → Option Value), oN'.data = .cell (some (.ref nd)) → IntsAre ds [0, 0, 0, 0] → (@LT.lt Nat _ (L + 1) nd ∧ @LT.lt Nat _ (L + 1 + 1) nd ∧ @LT.lt Nat _ nb nd ∧ @LT.lt Nat _ e nd) → Under nd (tupL tl) →
      Fr h₀ L h' (kstB u' [(("numbers" : Str), .ref nb), (("edges" : Str), .ref e)]) → News h₀ L h' (((nd : Addr), W.listOf (List.toArray ds) kd) :: (L + 1, oN') :: (L + 1 + 1, oM) :: ((nb : Addr), W.listOf (List.toArray vn) kn) :: ((e : Addr), W.listOf (List.toArray (tupV tl)) ke) :: tupL tl) →
      wpAny (model Challenge.rw_om0134_01.row.prog w) (lawA w L fa cd) (execs r (lawEnv w L fa cd)) Q E { s with heap := h', toks := tk' }) :
    wpAny (model Challenge.rw_om0134_01.row.prog w) (lawA w L fa cd) (execs (lawS w 2 :: r) (lawEnv w L fa cd)) Q E { s with heap := h, toks := tk } := by
  revert hQ
  unfold lawA lawEnv
  have eS := lawScope_eq w
  rw [show (hd.heap_1 w.params).lookup 203 = some ⟨_, _, .func (fnOf _ _ _ _ _ _ _ _ _ _ _ _), _⟩ from rfl] at eS
  dsimp only [scopeOf, fnOf] at eS
  have eT : lawS w 2 = Stmt.Assign _ _ _ := rfl
  rw [eS, eT]
  clear eS eT
  intro hQ
  have B := G.below
  have X := G.inn
  revert X; k_fill; intro X
  have T := G.top
  have n1 : @Ne Nat nb (L + 1) := cell_off N (mt2 (.tail _ (.head _))) c1 (.tail _ (.head _)) rfl
  have n2 : @Ne Nat e (L + 1) := cell_off N (mt2 (.tail _ (.head _))) c1 (.head _) rfl
  have n3 : OffT (L + 1) (tupL tl) := ⟨fun p hp => by
    obtain ⟨x, hx, rfl⟩ := List.mem_map.mp hp
    exact cell_off N (mt2 (.tail _ (.head _))) c1 (mt4 (List.mem_map_of_mem (f := fun x : TE => ((x.T : Addr), tupO x)) hx)) rfl⟩
  dsimp only [kstB] at F
  walk_at "k_run"
  rename Fr _ _ _ _ => F5
  rename News _ _ _ _ => N5
  refine name1 N5 ?_
  intro nd e9
  subst e9
  have l9 := ‹_ ∧ _ ∧ _ ∧ _ ∧ AllLt nd (tupL tl)›
  obtain ⟨ds, hds, N6⟩ := zeros_ex N5
  refine hQ nd ds 0 _ _ _ _ (by assumption) hds ⟨by omega, by omega, by omega, by omega⟩ (by assumption) (AllAt.fr (ps := [(("numbers" : Str), .ref nb), (("edges" : Str), .ref e)]) (by exact ⟨rfl, rfl, trivial⟩) F5) (news_sub N6 fun p hp => ?_)
  simp only [List.mem_cons] at hp ⊢; grind
theorem law_flags {w : World} {mean : ExcName → Option Value} {mg mb : Str → Option Value} {h₀ h : Heap} {L fa : Addr} {cd : Value} {s : Shared} {tk : Nat} {Q : Flow → Shared → Prop} {E : Value → Shared → Prop} {u : Str → Option Value}
    (G : LawG w mean mg mb h₀) (nb e nd : Nat) (vn ds : List Value) (kn ke kd : Nat) (tl : List TE) (oN oM : Obj) (v2 : Option Value) (c1 : oN.data = .cell (some (.ref nd))) (c2 : oM.data = .cell v2) (r : List Stmt)
    (ns : List Int) (hds : IntsAre ds ns) (hl : ns.length = 4) (hr : ∀ x ∈ ns, 0 ≤ x ∧ x ≤ 15) (hne : @Ne Nat nb nd ∧ @Ne Nat e nd ∧ OffT nd (tupL tl) ∧ @Ne Nat (L + 1) nd ∧ @Ne Nat (L + 1 + 1) nd)
    (F : Fr h₀ L h (kstB u [(("numbers" : Str), .ref nb), (("edges" : Str), .ref e)])) (N : News h₀ L h (((nd : Addr), W.listOf (List.toArray ds) kd) :: (L + 1, oN) :: (L + 1 + 1, oM) :: ((nb : Addr), W.listOf (List.toArray vn) kn) :: ((e : Addr), W.listOf (List.toArray (tupV tl)) ke) :: tupL tl))
    (hQ : ∀ (fl kf : Nat) (h' : Heap) (tk' : Nat) (u' : Str → Option Value), Fr h₀ L h' (kstB u' [(("numbers" : Str), .ref nb), (("edges" : Str), .ref e), (("flags" : Str), .ref fl)]) → (∀ q ∈ ((nd : Addr), W.listOf (List.toArray ds) kd) :: (L + 1, oN) :: (L + 1 + 1, oM) :: ((nb : Addr), W.listOf (List.toArray vn) kn) :: ((e : Addr), W.listOf (List.toArray (tupV tl)) ke) :: tupL tl, @Ne Nat fl q.1) →
      News h₀ L h' (((fl : Addr), W.listOf (List.toArray ((flagsI ns 15).map Value.bool)) kf) :: ((nd : Addr), W.listOf (List.toArray ds) kd) :: (L + 1, oN) :: (L + 1 + 1, oM) :: ((nb : Addr), W.listOf (List.toArray vn) kn) :: ((e : Addr), W.listOf (List.toArray (tupV tl)) ke) :: tupL tl) →
      wpAny (model Challenge.rw_om0134_01.row.prog w) (lawA w L fa cd) (execs r (lawEnv w L fa cd)) Q E { s with heap := h', toks := tk' }) :
    wpAny (model Challenge.rw_om0134_01.row.prog w) (lawA w L fa cd) (execs (lawS w 4 :: r) (lawEnv w L fa cd)) Q E { s with heap := h, toks := tk } := by
  revert hQ
  unfold lawA lawEnv
  have eS := lawScope_eq w
  rw [show (hd.heap_1 w.params).lookup 203 = some ⟨_, _, .func (fnOf _ _ _ _ _ _ _ _ _ _ _ _), _⟩ from rfl] at eS
  dsimp only [scopeOf, fnOf] at eS
  have eT : lawS w 4 = Stmt.Assign _ _ _ := rfl
  rw [eS, eT]
  clear eS eT
  intro hQ
  have B := G.below
  have X := G.inn
  revert X; k_fill; intro X
  have T := G.top
  dsimp only [kstB] at F
  walk_at "k_callR"
  rename Fr _ _ _ _ => F5
  rename News _ _ _ _ => N5
  have hrr : ∀ p ∈ (L + 1, oN) :: (L + 1 + 1, oM) :: ((nb : Addr), W.listOf (List.toArray vn) kn) :: ((e : Addr), W.listOf (List.toArray (tupV tl)) ke) :: tupL tl, p.1 ∉ ([((nd : Addr), W.listOf (List.toArray ds) kd)] : List (Addr × Obj)).map (·.1) := fun p hp hx => by
    have hx' : p.1 = nd := by simpa using hx
    obtain ⟨a1, a2, a3, a4, a5⟩ := hne
    rcases List.mem_cons.mp hp with rfl | hp
    · exact a4 hx'
    · rcases List.mem_cons.mp hp with rfl | hp
      · exact a5 hx'
      · rcases List.mem_cons.mp hp with rfl | hp
        · exact a1 hx'
        · rcases List.mem_cons.mp hp with rfl | hp
          · exact a2 hx'
          · exact a3.ne p hp hx'
  refine use_con (newsC := [((nd : Addr), W.listOf (List.toArray ds) kd)]) (rest := (L + 1, oN) :: (L + 1 + 1, oM) :: ((nb : Addr), W.listOf (List.toArray vn) kn) :: ((e : Addr), W.listOf (List.toArray (tupV tl)) ke) :: tupL tl) (reached_con w mean mg mb nd ds ns kd hds hl hr) B F5 X N5 T rfl (by first | assumption | rfl) rfl (Nat.le_of_ble_eq_true rfl) (Nat.le_of_ble_eq_true rfl) rfl hrr ?_
  rintro r' news' h' tk' F6 N6 fr6 ⟨fl, kf, rfl, rfl, hlt⟩
  have sep := sep_rest rfl hrr fr6
  clear F5 N5
  walk_at "k_run"
  rename Fr _ _ _ _ => F7
  rename News _ _ _ _ => N7
  refine hQ fl kf _ _ _ (AllAt.fr (ps := [(("numbers" : Str), .ref nb), (("edges" : Str), .ref e), (("flags" : Str), .ref fl)]) (by exact ⟨rfl, rfl, rfl, trivial⟩) F7) (fun q hq => ?_) N7
  rcases List.mem_cons.mp hq with rfl | hq
  · exact fun z => absurd hlt (by rw [show @Eq Nat fl nd from z]; exact Nat.lt_irrefl _)
  · exact sep _ (.head _) q hq
theorem at_LawL : True := by
  w_top off
  exact trivial
theorem law_lists {w : World} {mean : ExcName → Option Value} {mg mb : Str → Option Value} {h₀ h : Heap} {L fa : Addr} {cd : Value} {s : Shared} {tk : Nat} {Q : Flow → Shared → Prop} {E : Value → Shared → Prop} {u : Str → Option Value}
    (G : LawG w mean mg mb h₀) (nb e fl : Nat) (old : List (Addr × Obj)) (r : List Stmt)
    (F : Fr h₀ L h (kstB u [(("numbers" : Str), .ref nb), (("edges" : Str), .ref e), (("flags" : Str), .ref fl)])) (N : News h₀ L h old)
    (hQ : ∀ (pl of r0 r1 r2 rs : Nat) (h' : Heap) (tk' : Nat) (u' : Str → Option Value), Fr h₀ L h' (kstB u' [(("numbers" : Str), .ref nb), (("edges" : Str), .ref e), (("flags" : Str), .ref fl), (("plans" : Str), .ref pl), (("offers" : Str), .ref of), (("runs" : Str), .ref rs)]) →
      (@LT.lt Nat _ pl of ∧ @LT.lt Nat _ of r0 ∧ @LT.lt Nat _ r0 r1 ∧ @LT.lt Nat _ r1 r2 ∧ @LT.lt Nat _ r2 rs) → Under pl old →
      News h₀ L h' (((rs : Addr), W.listOf (List.toArray [.ref r0, .ref r1, .ref r2]) 0) :: ((r2 : Addr), W.listOf (List.toArray []) 0) :: ((r1 : Addr), W.listOf (List.toArray []) 0) :: ((r0 : Addr), W.listOf (List.toArray []) 0) :: ((of : Addr), W.listOf (List.toArray []) 0) :: ((pl : Addr), W.listOf (List.toArray []) 0) :: old) →
      wpAny (model Challenge.rw_om0134_01.row.prog w) (lawA w L fa cd) (execs r (lawEnv w L fa cd)) Q E { s with heap := h', toks := tk' }) :
    wpAny (model Challenge.rw_om0134_01.row.prog w) (lawA w L fa cd) (execs (lawS w 5 :: lawS w 6 :: lawS w 7 :: r) (lawEnv w L fa cd)) Q E { s with heap := h, toks := tk } := by
  revert hQ
  unfold lawA lawEnv
  have eS := lawScope_eq w
  rw [show (hd.heap_1 w.params).lookup 203 = some ⟨_, _, .func (fnOf _ _ _ _ _ _ _ _ _ _ _ _), _⟩ from rfl] at eS
  dsimp only [scopeOf, fnOf] at eS
  have eT5 : lawS w 5 = Stmt.Assign _ _ _ := rfl
  have eT6 : lawS w 6 = Stmt.Assign _ _ _ := rfl
  have eT7 : lawS w 7 = Stmt.Assign _ _ _ := rfl
  rw [eS, eT5, eT6, eT7]
  clear eS eT5 eT6 eT7
  intro hQ
  have B := G.below
  have X := G.inn
  revert X; k_fill; intro X
  have T := G.top
  dsimp only [kstB] at F
  walk_at "k_run"
  rename Fr _ _ _ _ => F5
  rename News _ _ _ _ => N5
  refine hQ _ _ _ _ _ _ _ _ _ (AllAt.fr (ps := [(("numbers" : Str), .ref nb), (("edges" : Str), .ref e), (("flags" : Str), .ref fl), (("plans" : Str), .ref _), (("offers" : Str), .ref _), (("runs" : Str), .ref _)]) (by exact ⟨rfl, rfl, rfl, rfl, rfl, rfl, trivial⟩) F5) ⟨by omega, by omega, by omega, by omega, by omega⟩ ⟨by assumption⟩ N5
theorem at_LawDBase : True := by
  w_top off
  exact trivial
structure SD where
  A : SA
  V : SV
  n : Int → Int
  o : Nat
  ov : List Value
  ok : Nat
noncomputable def chunkD (w : World) : List SD → List (Addr × Obj)
  | [] => []
  | x :: r => ((x.o : Addr), W.listOf (List.toArray x.ov) x.ok) :: (sorN w x.A x.V x.n ++ chunkD w r)
noncomputable def adrD (x : SD) : List Nat := x.o :: x.A.R :: adrN x.A
noncomputable def SepD (w : World) : List SD → List (Addr × Obj) → Prop
  | [], _ => True
  | x :: r, l => ((∀ a ∈ adrD x, ∀ q ∈ chunkD w r ++ l, @Ne Nat a q.1) ∧ x.o ∉ x.A.R :: adrN x.A) ∧ SepD w r l
theorem SepD.off {w : World} (sl : List SD) {l : List (Addr × Obj)} (h : SepD w sl l) : ∀ p ∈ chunkD w sl, ∀ q ∈ l, @Ne Nat p.1 q.1 := by
  induction sl with
  | nil => intro p hp; cases hp
  | cons x r ih =>
    intro p hp q hq
    have key : ∀ a ∈ adrD x, @Ne Nat a q.1 := fun a ha => h.1.1 a ha q (List.mem_append.mpr (.inr hq))
    rcases List.mem_cons.mp hp with e | hp
    · rw [e]; exact key _ (List.mem_cons_self ..)
    · rcases List.mem_append.mp hp with hp | hp
      · refine key _ (List.mem_cons_of_mem _ ?_)
        have h9 := List.mem_map_of_mem (f := fun p : Addr × Obj => p.1) hp
        rw [sorN_adr] at h9
        exact h9
      · exact ih h.2 p hp q hq
theorem SepD.sub {w : World} : ∀ {sl : List SD} {l l' : List (Addr × Obj)}, SepD w sl l → (∀ q ∈ l', ∃ q' ∈ l, q'.1 = q.1) → SepD w sl l'
  | [], _, _, _, _ => trivial
  | x :: r, l, l', h, k => ⟨⟨fun a ha q hq => by
      rcases List.mem_append.mp hq with z | z
      · exact h.1.1 a ha q (List.mem_append.mpr (.inl z))
      · obtain ⟨q', hq', e⟩ := k q z
        rw [← e]
        exact h.1.1 a ha q' (List.mem_append.mpr (.inr hq')), h.1.2⟩, SepD.sub h.2 k⟩
theorem ring_flag {E : List (Int × Int)} {ns : List Int} (h : NdOk E ns) (eo : EOk E) {b : Bool} (hb : b = false ∧ (∃ dn, Topo (suq E) dn ∧ ∀ y, 0 ≤ y ∧ y ≤ 3 → y ∈ dn) ∨ b = true ∧ Cyc (suq E)) : atB (flagsI ns 15) 15 = !b := by
  have e : atB (flagsI ns 15) 15 = flN ns 15 := rfl
  rw [e]
  rcases hb with ⟨rfl, h1⟩ | ⟨rfl, h1⟩
  · exact ring_no h eo h1
  · exact ring_yes h eo h1
noncomputable def n0F (E : List (Int × Int)) : Int → Int := (rdF (cntF E 0) (cntF E 1) (cntF E 2) (cntF E 3)).foldl outF (nq (cntF E))
noncomputable abbrev rd0 (E : List (Int × Int)) : List Int := rdF (cntF E 0) (cntF E 1) (cntF E 2) (cntF E 3)
structure SDok (w : World) (E : List (Int × Int)) (x : SD) : Prop where
  ok : SorOk w x.A x.V E []
  n : x.n = n0F E
  ov : IntsAre x.ov (rd0 E)
theorem dict_cls {prog : Program} {w : World} {o : Obj} {kvs : List (Int × Value)} (h : Obj.IsDictOf (intKind prog w) o kvs) : o.cls = .type "dict" := by
  obtain ⟨es, ep, h1, _⟩ := h
  exact h1.1
theorem type_ne {a b : String} (h : a ≠ b) : (Value.type a) ≠ .type b := fun q => by injection q with q; exact h q
theorem sorN_cls {w : World} {A : SA} {V : SV} {n : Int → Int} (hd : A.Dict w) : ∀ p ∈ sorN w A V n, p.2.cls ≠ .type "range_iterator" := by
  intro p hp
  have hD := dict_cls hd.d
  have node : ∀ i, ∀ p ∈ nodeL A V n i, p.2.cls ≠ .type "range_iterator" := fun i p hp => by
    simp only [nodeL, niL, niO, List.mem_cons, List.not_mem_nil, or_false] at hp
    rcases hp with rfl | rfl | rfl
    · intro q; cases q
    · exact type_ne (by decide)
    · exact type_ne (by decide)
  revert p
  refine al_cons ?_ (al_cons ?_ (al_cons ?_ (al_cons ?_ (fun p hp => ?_))))
  · exact type_ne (by decide)
  · intro q; cases q
  · exact type_ne (by decide)
  · show A.oD.cls ≠ _; rw [hD]; exact type_ne (by decide)
  rw [nodes_flat] at hp
  obtain ⟨i, _, hi⟩ := List.mem_flatMap.mp hp
  exact node i p hi
theorem chunkD_cls {w : World} {E : List (Int × Int)} (sl : List SD) (h : ∀ x ∈ sl, SDok w E x) : ∀ p ∈ chunkD w sl, p.2.cls ≠ .type "range_iterator" := by
  induction sl with
  | nil => intro p hp; cases hp
  | cons x r ih =>
    intro p hp
    rcases List.mem_cons.mp hp with e | hp
    · rw [e]; exact type_ne (by decide)
    · rcases List.mem_append.mp hp with hp | hp
      · exact sorN_cls (h x (List.mem_cons_self ..)).ok.dict p hp
      · exact ih (fun y hy => h y (List.mem_cons_of_mem _ hy)) p hp
theorem sorted_same {l r : List Int} (hl : l.Pairwise (fun x y => x ≤ y)) (hr : r.Pairwise (fun x y => x ≤ y)) (nl : l.Nodup) (nr : r.Nodup) (h : ∀ x, x ∈ l ↔ x ∈ r) : l = r := by
  have sl : l.Pairwise (fun x y => x < y) := (hl.and nl).imp fun ⟨a, b⟩ => by omega
  have sr : r.Pairwise (fun x y => x < y) := (hr.and nr).imp fun ⟨a, b⟩ => by omega
  clear hl hr nl nr
  induction l generalizing r with
  | nil =>
    cases r with
    | nil => rfl
    | cons y r => exact absurd ((h y).mpr (.head _)) (by simp)
  | cons x l ih =>
    cases r with
    | nil => exact absurd ((h x).mp (.head _)) (by simp)
    | cons y r =>
      obtain ⟨a1, a2⟩ := List.pairwise_cons.mp sl
      obtain ⟨b1, b2⟩ := List.pairwise_cons.mp sr
      have e : x = y := by
        have h1 := (h x).mp (.head _)
        have h2 := (h y).mpr (.head _)
        rcases List.mem_cons.mp h1 with q | q
        · exact q
        · rcases List.mem_cons.mp h2 with z | z
          · exact z.symm
          · have := b1 x q
            have := a1 y z
            omega
      subst e
      congr 1
      refine ih (fun z => ?_) a2 b2
      constructor
      · intro hz
        rcases List.mem_cons.mp ((h z).mp (.tail _ hz)) with q | q
        · have := a1 z hz; omega
        · exact q
      · intro hz
        rcases List.mem_cons.mp ((h z).mpr (.tail _ hz)) with q | q
        · have := b1 z hz; omega
        · exact q
noncomputable def pick4 (p : Int → Bool) : List Int := ((List.range 4).filter fun (i : Nat) => p (0 + (i : Int))).map fun (i : Nat) => 0 + (i : Int)
theorem mem_pick4 {p : Int → Bool} {t : Int} : t ∈ pick4 p ↔ In3 t ∧ p t = true := by
  unfold pick4
  rw [List.mem_map]
  constructor
  · rintro ⟨i, hi, rfl⟩
    rw [List.mem_filter, List.mem_range] at hi
    exact ⟨⟨by omega, by omega⟩, hi.2⟩
  · rintro ⟨⟨h1, h2⟩, h3⟩
    obtain ⟨i, rfl⟩ := Int.eq_ofNat_of_zero_le h1
    exact ⟨i, List.mem_filter.mpr ⟨List.mem_range.mpr (by omega), by rw [Int.zero_add]; exact h3⟩, by omega⟩
theorem pick4_up (p : Int → Bool) : (pick4 p).Pairwise (fun x y => x < y) := by
  unfold pick4
  rw [List.pairwise_map]
  exact ((List.pairwise_lt_range).filter _).imp (by intro a b h; omega)
theorem pick4_le (p : Int → Bool) : (pick4 p).Pairwise (fun x y => x ≤ y) := (pick4_up p).imp (by intro a b h; omega)
theorem pick4_nodup (p : Int → Bool) : (pick4 p).Nodup := (pick4_up p).imp (by intro a b h; omega)
theorem sorted_pick {l : List Int} {p : Int → Bool} (hp : l.Pairwise (fun x y => x ≤ y)) (hn : l.Nodup) (h : ∀ t, t ∈ l ↔ In3 t ∧ p t = true) : l = pick4 p :=
  sorted_same hp (pick4_le p) hn (pick4_nodup p) fun t => by rw [h t, mem_pick4]
theorem zero_bits : ∀ v < 16, (v = 0) = ∀ a < 4, bitN v a = false := by decide +kernel
theorem rd_zero {E : List (Int × Int)} {ns : List Int} (h : NdOk E ns) (eo : EOk E) {t : Int} (ht : In3 t) : cntF E t = 0 ↔ atI ns t = 0 := by
  obtain ⟨j, rfl⟩ := Int.eq_ofNat_of_zero_le ht.1
  have hj : j < 4 := by have := ht.2; omega
  obtain ⟨v, hv, ev, hb⟩ := h.at_ j hj
  rw [ev]
  have e1 : cntF E (j : Int) = 0 ↔ ∀ a, ((j : Int), a) ∈ E → False := by
    rw [← cntL_nil, Int.natCast_eq_zero, cntL_zero]
    simp
  rw [e1]
  have e2 : ((v : Nat) : Int) = 0 ↔ v = 0 := by omega
  rw [e2, zero_bits v hv]
  constructor
  · intro q a ha
    by_cases z : bitN v a = true
    · exact (q a ((hb a ha).mp z)).elim
    · simpa using z
  · intro q a ha
    have h9 := (eo.rng _ ha).2.1
    obtain ⟨b, rfl⟩ := Int.eq_ofNat_of_zero_le h9.1
    have hb4 : b < 4 := by have := h9.2; simp only at this; omega
    have := (hb b hb4).mpr ha
    rw [q b hb4] at this
    cases this
theorem at_LawD : True := by
  w_top off
  k_with "k_toS" => repeat' (first | ((fail_if_success (with_reducible show wpAny _ _ (subscriptTail _ _ (Value.ref _) (Value.int _ _)) _ _ _)); (fail_if_success (with_reducible show wpAny _ _ (call (Value.ref _) _) _ _ _)); (fail_if_success (with_reducible show wpAny _ _ (eval (Expr.ListComp _ _ _ _) _) _ _ _)); (fail_if_success (with_reducible show wpAny _ _ (exec (Stmt.Assign [_] (Expr.ListComp _ _ _ _) _) _) _ _ _)); first | (k_unfold; (try dsimp only)) | walk1) | (dsimp only; (fail_if_success (with_reducible show wpAny _ _ (subscriptTail _ _ (Value.ref _) (Value.int _ _)) _ _ _)); (fail_if_success (with_reducible show wpAny _ _ (call (Value.ref _) _) _ _ _)); (fail_if_success (with_reducible show wpAny _ _ (eval (Expr.ListComp _ _ _ _) _) _ _ _)); (fail_if_success (with_reducible show wpAny _ _ (exec (Stmt.Assign [_] (Expr.ListComp _ _ _ _) _) _) _ _ _)); walk1) | fail "no step")
  exact trivial
noncomputable abbrev psD (nb e fl pl of rs : Nat) : List (Str × Value) := [(("numbers" : Str), .ref nb), (("edges" : Str), .ref e), (("flags" : Str), .ref fl), (("plans" : Str), .ref pl), (("offers" : Str), .ref of), (("runs" : Str), .ref rs)]
namespace S_law_plans
noncomputable def stm (w : World) (mean : ExcName → Option Value) (mg mb : Str → Option Value) (h₀ h : Heap) (L fa : Addr) (cd : Value) (s : Shared) (tk : Nat) (Q : Flow → Shared → Prop) (E : Value → Shared → Prop) (u : Str → Option Value) (nb e fl nd pl of rs : Nat) (ds : List Value) (ke kd kf : Nat) (tl : List TE) (oN : Obj) (rest0 : List (Addr × Obj)) : Prop := ∀ (G : LawG w mean mg mb h₀) (hE : PassesOwn (model Challenge.rw_om0134_01.row.prog w) (lawA w L fa cd) (lawEnv w L fa cd) E) (hle : tl.length ≤ 4) (hr : ∀ x ∈ tl, (0 ≤ x.a ∧ x.a ≤ 3) ∧ (0 ≤ x.b ∧ x.b ≤ 3) ∧ x.a ≠ x.b) (c1 : oN.data = .cell (some (.ref nd))) (hds : IntsAre ds (ndsF (edgF tl))) (hpo : @LT.lt Nat _ pl of ∧ (@LT.lt Nat _ fl pl ∧ @LT.lt Nat _ nd pl ∧ @LT.lt Nat _ (L + 1) pl)) (hown : ∀ p ∈ ((e : Addr), W.listOf (List.toArray (tupV tl)) ke) :: tupL tl, @LT.lt Nat _ p.1 pl) (hr0 : ∀ p ∈ rest0, @Ne Nat p.1 pl ∧ @Ne Nat p.1 of) (hsep : ∀ p ∈ ((e : Addr), W.listOf (List.toArray (tupV tl)) ke) :: tupL tl, ∀ q ∈ ((fl : Addr), W.listOf (List.toArray ((flagsI (ndsF (edgF tl)) 15).map Value.bool)) kf) :: ((nd : Addr), W.listOf (List.toArray ds) kd) :: (L + 1, oN) :: rest0, @Ne Nat p.1 q.1) (F : Fr h₀ L h (kstB u (psD nb e fl pl of rs))) (N : News h₀ L h (((pl : Addr), W.listOf (List.toArray []) 0) :: ((of : Addr), W.listOf (List.toArray []) 0) :: ((fl : Addr), W.listOf (List.toArray ((flagsI (ndsF (edgF tl)) 15).map Value.bool)) kf) :: ((nd : Addr), W.listOf (List.toArray ds) kd) :: (L + 1, oN) :: ((((e : Addr), W.listOf (List.toArray (tupV tl)) ke) :: tupL tl) ++ rest0))) (hQ : ∀ (sl : List SD) (kp ko : Nat) (h' : Heap) (tk' : Nat) (u' : Str → Option Value), sl.length = 3 → Fr h₀ L h' (kstB u' (psD nb e fl pl of rs)) → News h₀ L h' (((pl : Addr), W.listOf (List.toArray (sl.reverse.map fun x => Value.ref x.A.P)) kp) :: ((of : Addr), W.listOf (List.toArray (sl.reverse.map fun x => Value.ref x.o)) ko) :: ((fl : Addr), W.listOf (List.toArray ((flagsI (ndsF (edgF tl)) 15).map Value.bool)) kf) :: ((nd : Addr), W.listOf (List.toArray ds) kd) :: (L + 1, oN) :: (chunkD w sl ++ ((((e : Addr), W.listOf (List.toArray (tupV tl)) ke) :: tupL tl) ++ rest0))) → (∀ x ∈ sl, SDok w (edgF tl) x) → SepD w sl (((pl : Addr), W.listOf (List.toArray (sl.reverse.map fun x => Value.ref x.A.P)) kp) :: ((of : Addr), W.listOf (List.toArray (sl.reverse.map fun x => Value.ref x.o)) ko) :: ((fl : Addr), W.listOf (List.toArray ((flagsI (ndsF (edgF tl)) 15).map Value.bool)) kf) :: ((nd : Addr), W.listOf (List.toArray ds) kd) :: (L + 1, oN) :: ((((e : Addr), W.listOf (List.toArray (tupV tl)) ke) :: tupL tl) ++ rest0)) → Q .next { s with heap := h', toks := tk' }), wpAny (model Challenge.rw_om0134_01.row.prog w) (lawA w L fa cd) (exec (lawS w 8) (lawEnv w L fa cd)) Q E { s with heap := h, toks := tk }
noncomputable abbrev Dat := World × (ExcName → Option Value) × (Str → Option Value) × (Str → Option Value) × Heap × Heap × Addr × Addr × Value × Shared × Nat × (Flow → Shared → Prop) × (Value → Shared → Prop) × (Str → Option Value) × Nat × Nat × Nat × Nat × Nat × Nat × Nat × List Value × Nat × Nat × Nat × List TE × Obj × (List (Addr × Obj))
noncomputable def ok (p : Dat) : Prop := let q1 := p.2.2.2.2.2.2.2.2; let q2 := q1.2.2.2.2.2.2.2.2; let q3 := q2.2.2.2.2.2.2.2.2; stm p.1 p.2.1 p.2.2.1 p.2.2.2.1 p.2.2.2.2.1 p.2.2.2.2.2.1 p.2.2.2.2.2.2.1 p.2.2.2.2.2.2.2.1 q1.1 q1.2.1 q1.2.2.1 q1.2.2.2.1 q1.2.2.2.2.1 q1.2.2.2.2.2.1 q1.2.2.2.2.2.2.1 q1.2.2.2.2.2.2.2.1 q2.1 q2.2.1 q2.2.2.1 q2.2.2.2.1 q2.2.2.2.2.1 q2.2.2.2.2.2.1 q2.2.2.2.2.2.2.1 q2.2.2.2.2.2.2.2.1 q3.1 q3.2.1 q3.2.2.1 q3.2.2.2
@[irreducible] noncomputable def cc : Dat := @Classical.epsilon Dat ⟨(world0, fun _ => none, fun _ => none, fun _ => none, {}, {}, (0 : Nat), (0 : Nat), .none, {}, 0, fun _ _ => True, fun _ _ => True, fun _ => none, 0, 0, 0, 0, 0, 0, 0, [], 0, 0, 0, [], default, [])⟩ fun p => ¬ ok p
noncomputable def c1 := cc.2.2.2.2.2.2.2.2
noncomputable def c2 := c1.2.2.2.2.2.2.2.2
noncomputable def c3 := c2.2.2.2.2.2.2.2.2
@[irreducible] noncomputable def w : World := cc.1
@[irreducible] noncomputable def mean : ExcName → Option Value := cc.2.1
@[irreducible] noncomputable def mg : Str → Option Value := cc.2.2.1
@[irreducible] noncomputable def mb : Str → Option Value := cc.2.2.2.1
@[irreducible] noncomputable def h₀ : Heap := cc.2.2.2.2.1
@[irreducible] noncomputable def h : Heap := cc.2.2.2.2.2.1
@[irreducible] noncomputable def L : Addr := cc.2.2.2.2.2.2.1
@[irreducible] noncomputable def fa : Addr := cc.2.2.2.2.2.2.2.1
@[irreducible] noncomputable def cd : Value := c1.1
@[irreducible] noncomputable def s : Shared := c1.2.1
@[irreducible] noncomputable def tk : Nat := c1.2.2.1
@[irreducible] noncomputable def Q : Flow → Shared → Prop := c1.2.2.2.1
@[irreducible] noncomputable def E : Value → Shared → Prop := c1.2.2.2.2.1
@[irreducible] noncomputable def u : Str → Option Value := c1.2.2.2.2.2.1
@[irreducible] noncomputable def nb : Nat := c1.2.2.2.2.2.2.1
@[irreducible] noncomputable def e : Nat := c1.2.2.2.2.2.2.2.1
@[irreducible] noncomputable def fl : Nat := c2.1
@[irreducible] noncomputable def nd : Nat := c2.2.1
@[irreducible] noncomputable def pl : Nat := c2.2.2.1
@[irreducible] noncomputable def of : Nat := c2.2.2.2.1
@[irreducible] noncomputable def rs : Nat := c2.2.2.2.2.1
@[irreducible] noncomputable def ds : List Value := c2.2.2.2.2.2.1
@[irreducible] noncomputable def ke : Nat := c2.2.2.2.2.2.2.1
@[irreducible] noncomputable def kd : Nat := c2.2.2.2.2.2.2.2.1
@[irreducible] noncomputable def kf : Nat := c3.1
@[irreducible] noncomputable def tl : List TE := c3.2.1
@[irreducible] noncomputable def oN : Obj := c3.2.2.1
@[irreducible] noncomputable def rest0 : List (Addr × Obj) := c3.2.2.2
theorem core : stm w mean mg mb h₀ h L fa cd s tk Q E u nb e fl nd pl of rs ds ke kd kf tl oN rest0 := by
  intro G hE hle hr c1 hds hpo hown hr0 hsep F N hQ
  have eo : EOk (edgF tl) := ⟨fun x hx => by obtain ⟨y, hy, rfl⟩ := List.mem_map.mp hx; exact hr y hy, by rw [edgF_len]; exact hle⟩
  have hnd : NdOk (edgF tl) (ndsF (edgF tl)) := ndsF_ok _ rfl fun x hx => ⟨(eo.rng x hx).1, (eo.rng x hx).2.1⟩
  revert hE
  unfold lawA lawEnv
  have eS := lawScope_eq w
  rw [show (hd.heap_1 w.params).lookup 203 = some ⟨_, _, .func (fnOf _ _ _ _ _ _ _ _ _ _ _ _), _⟩ from rfl] at eS
  dsimp only [scopeOf, fnOf] at eS
  have eT : lawS w 8 = Stmt.For _ _ _ _ _ := rfl
  rw [eS, eT]
  clear eS eT
  intro hE
  have B := G.below
  have X := G.inn
  revert X; k_fill; intro X
  have T := G.top
  dsimp only [kstB, psD] at F
  generalize hown9 : ((e : Addr), W.listOf (List.toArray (tupV tl)) ke) :: tupL tl = own at *
  generalize hfs : flagsI (ndsF (edgF tl)) 15 = fs at *
  have hfl := flagsI_len (ndsF (edgF tl)) 15
  rw [hfs] at hfl
  refine For_turns (by assumption) ?_
  walk_at "k_to"
  rename Fr _ _ _ _ => F0
  rename News _ _ _ _ => N0
  refine for_range0 (n := 3) (fun i ps n => ∃ (sl : List SD) (kp ko : Nat), sl.length = i ∧ ps = psD nb e fl pl of rs ∧ n = ((pl : Addr), W.listOf (List.toArray (sl.reverse.map fun x => Value.ref x.A.P)) kp) :: ((of : Addr), W.listOf (List.toArray (sl.reverse.map fun x => Value.ref x.o)) ko) :: ((fl : Addr), W.listOf (List.toArray (fs.map Value.bool)) kf) :: ((nd : Addr), W.listOf (List.toArray ds) kd) :: (L + 1, oN) :: (chunkD w sl ++ (own ++ rest0)) ∧
      (∀ x ∈ sl, SDok w (edgF tl) x) ∧ SepD w sl (((pl : Addr), W.listOf (List.toArray (sl.reverse.map fun x => Value.ref x.A.P)) kp) :: ((of : Addr), W.listOf (List.toArray (sl.reverse.map fun x => Value.ref x.o)) ko) :: ((fl : Addr), W.listOf (List.toArray (fs.map Value.bool)) kf) :: ((nd : Addr), W.listOf (List.toArray ds) kd) :: (L + 1, oN) :: (own ++ rest0)))
    (psD nb e fl pl of rs) rfl (by assumption) (by decide) F0 N0 (by exact ⟨rfl, rfl, rfl, rfl, rfl, rfl, trivial⟩) (by exact ⟨[], 0, 0, rfl, rfl, rfl, (fun _ h => nomatch h), trivial⟩) ?_ ?_
  · rintro I i t ps₁ u news₁ it h tk Pp hi hI hit ⟨sl, kp, ko, rfl, rfl, rfl, hok, hsl⟩ F1 N1 hN - - hret
    (try dsimp only [kstB, psD] at F1)
    clear F0 N0; (try clear F); (try clear N)
    have offI : ∀ p ∈ chunkD w sl, @Ne Nat p.1 I := fun p hp q => by
      have y1 := (N1 (I, it) (.head _)).1
      have y2 := (N1 p (mt4 (mt2 (List.mem_append.mpr (.inl hp))))).1
      have q' : p.1 = I := q
      rw [q', y1] at y2
      injection y2 with y2
      exact chunkD_cls sl hok p hp (y2 ▸ hit)
    have hI2 : ∀ p ∈ own ++ rest0, @LT.lt Nat _ p.1 I := fun p hp => hI p (mt4 (.tail _ hp))
    walk_at "k_callR"
    rename Fr _ _ _ _ => F3
    rename News _ _ _ _ => N3
    have hI0 : ∀ p ∈ own, @LT.lt Nat _ p.1 I := fun p hp => hI p (mt4 (.tail _ (List.mem_append.mpr (.inl hp))))
    have hrP : ∀ p ∈ (I, it) :: ((pl : Addr), W.listOf (List.toArray (sl.reverse.map fun x => Value.ref x.A.P)) kp) :: ((of : Addr), W.listOf (List.toArray (sl.reverse.map fun x => Value.ref x.o)) ko) :: ((fl : Addr), W.listOf (List.toArray (fs.map Value.bool)) kf) :: ((nd : Addr), W.listOf (List.toArray ds) kd) :: (L + 1, oN) :: (chunkD w sl ++ rest0), p.1 ∉ own.map (·.1) := fun p hp hx => by
      obtain ⟨q, hq, e9⟩ := List.mem_map.mp hx
      have e9' : @Eq Nat q.1 p.1 := e9
      rcases List.mem_cons.mp hp with rfl | hp
      · have := hI0 q hq; have : @Eq Nat q.1 I := e9'; omega
      · rcases List.mem_cons.mp hp with rfl | hp
        · have := hown q hq; have : @Eq Nat q.1 pl := e9'; omega
        · rcases List.mem_cons.mp hp with rfl | hp
          · have := hown q hq; have : @Eq Nat q.1 of := e9'; omega
          · rcases List.mem_cons.mp hp with rfl | hp
            · exact hsep q hq _ (.head _) e9'
            · rcases List.mem_cons.mp hp with rfl | hp
              · exact hsep q hq _ (.tail _ (.head _)) e9'
              · rcases List.mem_cons.mp hp with rfl | hp
                · exact hsep q hq _ (mt2 (.head _)) e9'
                · rcases List.mem_append.mp hp with hp | hp
                  · exact hsl.off _ p hp q (mt4 (.tail _ (List.mem_append.mpr (.inl hq)))) e9'.symm
                  · exact hsep q hq p (mt2 (.tail _ hp)) e9'
    refine use_conL (newsC := own) (rest := (I, it) :: ((pl : Addr), W.listOf (List.toArray (sl.reverse.map fun x => Value.ref x.A.P)) kp) :: ((of : Addr), W.listOf (List.toArray (sl.reverse.map fun x => Value.ref x.o)) ko) :: ((fl : Addr), W.listOf (List.toArray (fs.map Value.bool)) kf) :: ((nd : Addr), W.listOf (List.toArray ds) kd) :: (L + 1, oN) :: (chunkD w sl ++ rest0)) (hown9 ▸ plan_con w mean mg mb e tl ke hle hr) G F3 (news_sub N3 fun p hp => ?_) (news_sub N3 fun p hp => ?_) rfl (by first | assumption | rfl) rfl (Nat.le_of_ble_eq_true rfl) (Nat.le_of_ble_eq_true rfl) hrP ?_
    · simp only [List.mem_append, List.mem_cons]
      grind
    · simp only [List.mem_append, List.mem_cons] at hp ⊢; grind
    rintro r news' h' tk' F5 N5 sep5 ⟨Tp, A, V, b, rfl, rfl, ok, hT1, hsepO, hT2, hb⟩
    clear F3 N3
    have hfb : atB fs 15 = !b := by rw [← hfs]; exact ring_flag hnd eo hb
    clear hb
    change News _ _ _ ((Tp, _) :: (sorN w A V (cntF (edgF tl)) ++ own) ++ _) at N5
    have oA : OffA A ((I, it) :: ((pl : Addr), W.listOf (List.toArray (sl.reverse.map fun x => Value.ref x.A.P)) kp) :: ((of : Addr), W.listOf (List.toArray (sl.reverse.map fun x => Value.ref x.o)) ko) :: ((fl : Addr), W.listOf (List.toArray (fs.map Value.bool)) kf) :: ((nd : Addr), W.listOf (List.toArray ds) kd) :: (L + 1, oN) :: (chunkD w sl ++ rest0)) := OffA.of (w := w) (V := V) (n := cntF (edgF tl)) (fun p hp q hq => sep5 p (.tail _ (List.mem_append.mpr (.inl hp))) q hq)
    have oAo : OffA A own := OffA.of (w := w) (V := V) (n := cntF (edgF tl)) hsepO
    have hIp : @LT.lt Nat _ pl I := hI _ (.head _)
    have hIo : @LT.lt Nat _ of I := hI _ (.tail _ (.head _))
    have t1 : @Ne Nat Tp pl := sep5 _ (.head _) _ (.tail _ (.head _))
    have t2 : @Ne Nat Tp of := sep5 _ (.head _) _ (mt2 (.head _))
    have t3 : @Ne Nat A.P pl := oA.ne _ (.tail _ (.head _)) _ (.tail _ (.head _))
    have t4 : @Ne Nat A.P of := oA.ne _ (.tail _ (.head _)) _ (mt2 (.head _))
    have tA : ∀ (V' : SV) (n' : Int → Int), OffT pl (sorN w A V' n' ++ (chunkD w sl ++ (own ++ rest0))) ∧ OffT of (sorN w A V' n' ++ (chunkD w sl ++ (own ++ rest0))) := fun V' n' => by
      constructor
      · refine offT_sor (o := W.listOf (List.toArray (sl.reverse.map fun x => Value.ref x.A.P)) kp) (oA.sub fun p hp => by rw [List.mem_singleton.mp hp]; exact .tail _ (.head _)) ⟨fun p hp => ?_⟩
        rcases List.mem_append.mp hp with hp | hp
        · exact hsl.off _ p hp _ (.head _)
        · rcases List.mem_append.mp hp with hp | hp
          · exact Nat.ne_of_lt (hown p hp)
          · exact (hr0 p hp).1
      · refine offT_sor (o := W.listOf (List.toArray (sl.reverse.map fun x => Value.ref x.o)) ko) (oA.sub fun p hp => by rw [List.mem_singleton.mp hp]; exact mt2 (.head _)) ⟨fun p hp => ?_⟩
        rcases List.mem_append.mp hp with hp | hp
        · exact hsl.off _ p hp _ (.tail _ (.head _))
        · rcases List.mem_append.mp hp with hp | hp
          · exact Nat.ne_of_lt (Nat.lt_trans (hown p hp) hpo.1)
          · exact (hr0 p hp).2
    obtain ⟨tA1, tA2⟩ := tA V (cntF (edgF tl))
    have N6 := news_sub N5 (news := ((Tp : Addr), ({ cls := .type "tuple", data := .seq #[.ref A.P, .bool b] } : Obj)) :: ((A.P : Addr), instObj 151 A.dP) :: (I, it) :: ((pl : Addr), W.listOf (List.toArray (sl.reverse.map fun x => Value.ref x.A.P)) kp) :: ((of : Addr), W.listOf (List.toArray (sl.reverse.map fun x => Value.ref x.o)) ko) :: ((fl : Addr), W.listOf (List.toArray (fs.map Value.bool)) kf) :: ((nd : Addr), W.listOf (List.toArray ds) kd) :: (L + 1, oN) :: (sorN w A V (cntF (edgF tl)) ++ (chunkD w sl ++ (own ++ rest0)))) (fun p hp => by
      have h9 : ((A.P : Addr), instObj 151 A.dP) ∈ sorN w A V (cntF (edgF tl)) := sorN_P
      rcases List.mem_cons.mp hp with rfl | hp
      · exact .head _
      · rcases List.mem_cons.mp hp with rfl | hp
        · exact .tail _ (List.mem_append.mpr (.inl (List.mem_append.mpr (.inl h9))))
        · simp only [List.mem_append, List.mem_cons] at hp ⊢; grind)
    clear N5
    have hsll : (sl.reverse.map fun x => Value.ref x.A.P).length = sl.length := by simp
    have hslo : (sl.reverse.map fun x => Value.ref x.o).length = sl.length := by simp
    walk_at "k_callR"
    rename Fr _ _ _ _ => F8
    rename News _ _ _ _ => N8
    have nr4 := nodup_four (Inv.init (edgF tl)).nod (Inv.init (edgF tl)).rng
    have hrl := ok.rd.length
    have oA2 : OffA A ((I, it) :: ((pl : Addr), W.listOf (List.toArray ((sl.reverse.map fun x => Value.ref x.A.P) ++ [.ref A.P])) (kp + 1)) :: ((of : Addr), W.listOf (List.toArray (sl.reverse.map fun x => Value.ref x.o)) ko) :: ((fl : Addr), W.listOf (List.toArray (fs.map Value.bool)) kf) :: ((nd : Addr), W.listOf (List.toArray ds) kd) :: (L + 1, oN) :: (chunkD w sl ++ (own ++ rest0))) := ⟨fun x hx q hq => by
      have k9 := oA.ne x hx
      have k8 := oAo.ne x hx
      simp only [List.mem_append, List.mem_cons] at hq k9
      rcases hq with rfl | rfl | rfl | rfl | rfl | rfl | hq | hq | hq
      · exact k9 _ (.inl rfl)
      · exact k9 ((pl : Addr), W.listOf (List.toArray (sl.reverse.map fun x => Value.ref x.A.P)) kp) (.inr (.inl rfl))
      · exact k9 _ (.inr (.inr (.inl rfl)))
      · exact k9 _ (.inr (.inr (.inr (.inl rfl))))
      · exact k9 _ (.inr (.inr (.inr (.inr (.inl rfl)))))
      · exact k9 _ (.inr (.inr (.inr (.inr (.inr (.inl rfl))))))
      · exact k9 _ (.inr (.inr (.inr (.inr (.inr (.inr (.inl hq)))))))
      · exact k8 _ hq
      · exact k9 _ (.inr (.inr (.inr (.inr (.inr (.inr (.inr hq)))))))⟩
    refine use_con (newsC := sorN w A V (cntF (edgF tl))) (rest := (I, it) :: ((pl : Addr), W.listOf (List.toArray ((sl.reverse.map fun x => Value.ref x.A.P) ++ [.ref A.P])) (kp + 1)) :: ((of : Addr), W.listOf (List.toArray (sl.reverse.map fun x => Value.ref x.o)) ko) :: ((fl : Addr), W.listOf (List.toArray (fs.map Value.bool)) kf) :: ((nd : Addr), W.listOf (List.toArray ds) kd) :: (L + 1, oN) :: (chunkD w sl ++ (own ++ rest0))) (ready_w w mean mg mb A V (edgF tl) (cntF (edgF tl)) _ ok nr4 (Inv.init (edgF tl)).rng) B F8 X (news_sub N8 (by
      walk_at "sub_z")) T rfl (by first | assumption | rfl) rfl (Nat.le_of_ble_eq_true rfl) (Nat.le_of_ble_eq_true rfl) rfl oA2.hr ?_
    rintro r news' h9 tk9 F9 N9 fr9 ⟨T2, V2, rfl, rfl, ok2⟩
    have sep9 := sep_rest rfl oA2.hr fr9
    clear F8 N8 fr9
    change News _ _ _ (((T2 : Addr), _) :: sorN w A V2 (n0F (edgF tl)) ++ _) at N9
    have u1 : @Ne Nat T2 of := sep9 _ (.head _) _ (mt2 (.head _))
    obtain ⟨tB1, tB2⟩ := tA V2 (n0F (edgF tl))
    have N10 := news_sub N9 (news := ((T2 : Addr), ({ cls := .type "tuple", data := .seq V.rd.toArray } : Obj)) :: (I, it) :: ((pl : Addr), W.listOf (List.toArray ((sl.reverse.map fun x => Value.ref x.A.P) ++ [.ref A.P])) (kp + 1)) :: ((of : Addr), W.listOf (List.toArray (sl.reverse.map fun x => Value.ref x.o)) ko) :: ((fl : Addr), W.listOf (List.toArray (fs.map Value.bool)) kf) :: ((nd : Addr), W.listOf (List.toArray ds) kd) :: (L + 1, oN) :: (sorN w A V2 (n0F (edgF tl)) ++ (chunkD w sl ++ (own ++ rest0)))) (by
      walk_at "sub_z")
    clear N9
    walk_at "k_toS"
    rename Fr _ _ _ _ => F11
    rename News _ _ _ _ => N11
    refine name1 N11 ?_
    intro on eon
    subst eon
    refine item_val (v := .ref on) N11 (mt4 (.head _)) (by omega) (by rw [List.length_append, hslo, List.length_singleton]; omega) (by rw [Int.toNat_natCast, List.getElem?_append_right (by rw [hslo]; exact Nat.le_refl _), hslo, Nat.sub_self]; rfl) ?_ (by with_unfolding_all rfl)
    have hrdI := ok.rd
    walk_at "k_toS"
    have hndl := hnd.len
    have hso := ‹List.Pairwise (fun x1 x2 => x1 ≤ x2) _›
    have hpe := ‹List.Perm _ (rdF (cntF (edgF tl) 0) (cntF (edgF tl) 1) (cntF (edgF tl) 2) (cntF (edgF tl) 3))›
    rename Fr _ _ _ _ => F12
    refine LCt.ListComp_T F12 (by with_unfolding_all rfl) (by decide) (by rfl) (by decide) (by rfl) ?_
    walk_at "k_srcT"
    rename Fr _ _ _ _ => F13
    rename News _ _ _ _ => N13
    refine LCt.CompSrcT.range (n := 4) rfl F13 N13 (by assumption) (by decide) (by decide) (by exact Nat.le_of_ble_eq_true rfl) ?_
    intro g14
    refine filt_rest (fun j => decide (atI (ndsF (edgF tl)) (0 + (j : Int)) = 0)) (fun j => 0 + (j : Int)) ?_ ?_
    · intro j v I' oI' C' oC' D' m' ys' h' tk' E' hj hv hC' hx' F' N' off' ne'
      obtain ⟨t9, hv⟩ := hv
      subst hv
      have off0 := off'
      walk_at "k_comp"
      · exact LCg.CompEnd.intro (by assumption) (by assumption) _ (fun p hp => hp) off0 trivial ⟨rfl, decide_eq_true (by assumption), _, rfl⟩
      · exact LCg.CompEnd.intro (by assumption) (by assumption) _ (fun p hp => hp) off0 trivial ⟨rfl, decide_eq_false (by assumption)⟩
    · intro zs hzs hzl
      unfold LCg.FinE
      intro D8 h8 tk8 F14 N14 off14
      (try clear F12); (try clear F13); (try clear N13)
      change IntsAre zs (pick4 fun t => decide (atI (ndsF (edgF tl)) t = 0)) at hzs
      generalize hpk : (pick4 fun t => decide (atI (ndsF (edgF tl)) t = 0)) = pk at hzs
      have hpk2 := hzs.length
      walk_at "k_toS"
      rotate_left
      · exfalso
        have hne9 := ‹_ ≠ pk›
        refine hne9 ?_
        rw [← hpk]
        refine sorted_pick hso (hpe.symm.nodup (Inv.init (edgF tl)).nod) (fun t => ?_)
        rw [hpe.mem_iff, mem_rdF, decide_eq_true_eq]
        constructor
        · rintro ⟨q1, q2⟩
          exact ⟨q1, (rd_zero hnd eo q1).mp ((nq_at q1).symm.trans q2)⟩
        · rintro ⟨q1, q2⟩
          exact ⟨q1, (nq_at q1).trans ((rd_zero hnd eo q1).mpr q2)⟩
      · have lon := ‹_ ∧ _ ∧ _ ∧ _ ∧ _ ∧ _ ∧ _ ∧ AllLt on (sorN w A V2 (n0F (edgF tl)) ++ (chunkD w sl ++ (own ++ rest0)))›
        have uon := under_of lon.2.2.2.2.2.2.2
        obtain ⟨ck, Nc⟩ : ∃ c, News h₀ L h8 [((on : Addr), W.listOf (List.toArray V.rd) c)] := ⟨_, news_sub N14 (fun p hp => by rw [List.mem_singleton.mp hp]; exact mt2 (.head _))⟩
        obtain ⟨co, No⟩ : ∃ c, News h₀ L h8 [((of : Addr), W.listOf (List.toArray ((sl.reverse.map fun x => Value.ref x.o) ++ [.ref on])) c)] := ⟨_, news_sub N14 (fun p hp => by rw [List.mem_singleton.mp hp]; exact mt4 (mt2 (.head _)))⟩
        have N16 : News h₀ L h8 ((T2, ({ cls := .type "tuple", data := .seq V.rd.toArray } : Obj)) :: (I, it) :: ((pl : Addr), W.listOf (List.toArray ((sl.reverse.map fun x => Value.ref x.A.P) ++ [.ref A.P])) (kp + 1)) :: (of, _) :: ((fl : Addr), W.listOf (List.toArray (fs.map Value.bool)) kf) :: ((nd : Addr), W.listOf (List.toArray ds) kd) :: (L + 1, oN) :: (sorN w A V2 (n0F (edgF tl)) ++ (chunkD w sl ++ (own ++ rest0)))) := news_sub N14 (fun p hp => mt2 (.tail _ hp))
        obtain ⟨x9, hx9⟩ : ∃ x : SD, x = ⟨A, V2, n0F (edgF tl), on, V.rd, ck⟩ := ⟨_, rfl⟩
        have e1 : ((x9 :: sl).reverse.map fun x => Value.ref x.A.P) = (sl.reverse.map fun x => Value.ref x.A.P) ++ [.ref A.P] := by rw [hx9]; simp
        have e2 : ((x9 :: sl).reverse.map fun x => Value.ref x.o) = (sl.reverse.map fun x => Value.ref x.o) ++ [.ref on] := by rw [hx9]; simp
        have e3 : chunkD w (x9 :: sl) = ((on : Addr), W.listOf (List.toArray V.rd) ck) :: (sorN w A V2 (n0F (edgF tl)) ++ chunkD w sl) := by rw [hx9]; rfl
        refine hN _ ?_
        refine AtI.intro F14 (all := (I, it) :: ((pl : Addr), W.listOf (List.toArray ((x9 :: sl).reverse.map fun x => Value.ref x.A.P)) (kp + 1)) :: ((of : Addr), W.listOf (List.toArray ((x9 :: sl).reverse.map fun x => Value.ref x.o)) co) :: ((fl : Addr), W.listOf (List.toArray (fs.map Value.bool)) kf) :: ((nd : Addr), W.listOf (List.toArray ds) kd) :: (L + 1, oN) :: (chunkD w (x9 :: sl) ++ (own ++ rest0))) ?_ (psD nb e fl pl of rs) _ (by exact ⟨rfl, rfl, rfl, rfl, rfl, rfl, trivial⟩) (.head _) (fun p hp => .tail _ hp) ?_ ⟨x9 :: sl, kp + 1, co, rfl, rfl, rfl, ?_, ?_⟩
        · rw [e1, e2, e3]
          intro p hp
          revert p
          refine al_cons ?_ (al_cons ?_ (al_cons ?_ (al_cons ?_ (al_cons ?_ (al_cons ?_ (fun p hp => ?_))))))
          · exact N16 _ (.tail _ (.head _))
          · exact N16 _ (mt2 (.head _))
          · exact No _ (.head _)
          · exact N16 _ (mt4 (.head _))
          · exact N16 _ (mt4 (.tail _ (.head _)))
          · exact N16 _ (mt4 (mt2 (.head _)))
          rcases List.mem_append.mp hp with hp | hp
          · rcases List.mem_cons.mp hp with rfl | hp
            · exact Nc _ (.head _)
            · refine N16 _ (mt4 (mt2 (.tail _ ?_)))
              rcases List.mem_append.mp hp with hp | hp
              · exact List.mem_append.mpr (.inl hp)
              · exact List.mem_append.mpr (.inr (List.mem_append.mpr (.inl hp)))
          · refine N16 _ (mt4 (mt2 (.tail _ ?_)))
            exact List.mem_append.mpr (.inr (List.mem_append.mpr (.inr hp)))
        · rw [e1, e2, e3]
          intro p hp
          revert p
          refine al_cons ?_ (al_cons ?_ (al_cons ?_ (al_cons ?_ (al_cons ?_ (fun p hp => ?_)))))
          · exact Nat.ne_of_lt hIp
          · exact Nat.ne_of_lt hIo
          · exact Nat.ne_of_lt (hI ((fl : Addr), W.listOf (List.toArray (fs.map Value.bool)) kf) (mt2 (.head _)))
          · exact Nat.ne_of_lt (hI ((nd : Addr), W.listOf (List.toArray ds) kd) (mt2 (.tail _ (.head _))))
          · exact Nat.ne_of_lt (hI (L + 1, oN) (mt4 (.head _)))
          rcases List.mem_append.mp hp with hp | hp
          · rcases List.mem_cons.mp hp with rfl | hp
            · exact Nat.ne_of_gt lon.2.1
            · rcases List.mem_append.mp hp with hp | hp
              · have h9 := List.mem_map_of_mem (f := fun p : Addr × Obj => p.1) hp
                rw [sorN_adr] at h9
                exact oA2.ne _ h9 _ (.head _)
              · exact offI p hp
          · exact Nat.ne_of_lt (hI2 p hp)
        · intro x hx
          rcases List.mem_cons.mp hx with e9 | hx
          · rw [e9, hx9]
            exact ⟨ok2, rfl, ok.rd⟩
          · exact hok x hx
        · rw [e1, e2]
          refine ⟨⟨fun a ha q hq => ?_, ?_⟩, hsl.sub fun q hq => ?_⟩
          · rw [hx9] at ha
            rcases List.mem_cons.mp ha with e9 | ha
            · rw [e9]
              refine Nat.ne_of_gt ?_
              rcases List.mem_append.mp hq with hq | hq
              · exact uon.lt q (List.mem_append.mpr (.inr (List.mem_append.mpr (.inl hq))))
              · rename_i hq9; clear hq9; revert q
                refine al_cons ?_ (al_cons ?_ (al_cons ?_ (al_cons ?_ (al_cons ?_ (fun q hq => ?_)))))
                · exact lon.2.2.1
                · exact lon.2.2.2.1
                · exact lon.2.2.2.2.1
                · exact lon.2.2.2.2.2.1
                · exact lon.2.2.2.2.2.2.1
                exact uon.lt q (List.mem_append.mpr (.inr (List.mem_append.mpr (.inr hq))))
            · have k9 := oA2.ne a ha
              rcases List.mem_append.mp hq with hq | hq
              · exact k9 q (mt4 (mt2 (List.mem_append.mpr (.inl hq))))
              · rename_i hq9; clear hq9; revert q
                refine al_cons ?_ (al_cons ?_ (al_cons ?_ (al_cons ?_ (al_cons ?_ (fun q hq => ?_)))))
                · exact k9 _ (.tail _ (.head _))
                · exact k9 ((of : Addr), W.listOf (List.toArray (sl.reverse.map fun x => Value.ref x.o)) ko) (mt2 (.head _))
                · exact k9 _ (mt2 (.tail _ (.head _)))
                · exact k9 _ (mt4 (.head _))
                · exact k9 _ (mt4 (.tail _ (.head _)))
                exact k9 q (mt4 (mt2 (List.mem_append.mpr (.inr hq))))
          · rw [hx9]
            intro hx
            have h8 : on ∈ (sorN w A V2 (n0F (edgF tl))).map (·.1) := by rw [sorN_adr]; exact hx
            obtain ⟨p, hp, e9⟩ := List.mem_map.mp h8
            have h7 := uon.lt p (List.mem_append.mpr (.inl hp))
            have e8 : @Eq Nat p.1 on := e9
            omega
          · revert q
            refine al_cons ?_ (al_cons ?_ (fun q hq => ?_))
            · exact ⟨_, .head _, rfl⟩
            · exact ⟨_, .tail _ (.head _), rfl⟩
            exact ⟨q, mt2 hq, rfl⟩
  · rintro ps₁ u news₁ h tk ⟨sl, kp, ko, hl3, rfl, rfl, hok, hsl⟩ F1 N1
    exact hQ sl kp ko h tk _ hl3 F1 N1 hok hsl
theorem all (p : Dat) : ok p := drink _ ok (by with_unfolding_all exact core) p
end S_law_plans
theorem law_plans {w : World} {mean : ExcName → Option Value} {mg mb : Str → Option Value} {h₀ h : Heap} {L fa : Addr} {cd : Value} {s : Shared} {tk : Nat} {Q : Flow → Shared → Prop} {E : Value → Shared → Prop} {u : Str → Option Value}
    (G : LawG w mean mg mb h₀) (hE : PassesOwn (model Challenge.rw_om0134_01.row.prog w) (lawA w L fa cd) (lawEnv w L fa cd) E)
    (nb e fl nd pl of rs : Nat) (ds : List Value) (ke kd kf : Nat) (tl : List TE) (oN : Obj) (rest0 : List (Addr × Obj))
    (hle : tl.length ≤ 4) (hr : ∀ x ∈ tl, (0 ≤ x.a ∧ x.a ≤ 3) ∧ (0 ≤ x.b ∧ x.b ≤ 3) ∧ x.a ≠ x.b)
    (c1 : oN.data = .cell (some (.ref nd))) (hds : IntsAre ds (ndsF (edgF tl)))
    (hpo : @LT.lt Nat _ pl of ∧ (@LT.lt Nat _ fl pl ∧ @LT.lt Nat _ nd pl ∧ @LT.lt Nat _ (L + 1) pl))
    (hown : ∀ p ∈ ((e : Addr), W.listOf (List.toArray (tupV tl)) ke) :: tupL tl, @LT.lt Nat _ p.1 pl) (hr0 : ∀ p ∈ rest0, @Ne Nat p.1 pl ∧ @Ne Nat p.1 of)
    (hsep : ∀ p ∈ ((e : Addr), W.listOf (List.toArray (tupV tl)) ke) :: tupL tl, ∀ q ∈ ((fl : Addr), W.listOf (List.toArray ((flagsI (ndsF (edgF tl)) 15).map Value.bool)) kf) :: ((nd : Addr), W.listOf (List.toArray ds) kd) :: (L + 1, oN) :: rest0, @Ne Nat p.1 q.1)
    (F : Fr h₀ L h (kstB u (psD nb e fl pl of rs)))
    (N : News h₀ L h (((pl : Addr), W.listOf (List.toArray []) 0) :: ((of : Addr), W.listOf (List.toArray []) 0) :: ((fl : Addr), W.listOf (List.toArray ((flagsI (ndsF (edgF tl)) 15).map Value.bool)) kf) :: ((nd : Addr), W.listOf (List.toArray ds) kd) :: (L + 1, oN) :: ((((e : Addr), W.listOf (List.toArray (tupV tl)) ke) :: tupL tl) ++ rest0)))
    (hQ : ∀ (sl : List SD) (kp ko : Nat) (h' : Heap) (tk' : Nat) (u' : Str → Option Value), sl.length = 3 → Fr h₀ L h' (kstB u' (psD nb e fl pl of rs)) → News h₀ L h' (((pl : Addr), W.listOf (List.toArray (sl.reverse.map fun x => Value.ref x.A.P)) kp) :: ((of : Addr), W.listOf (List.toArray (sl.reverse.map fun x => Value.ref x.o)) ko) :: ((fl : Addr), W.listOf (List.toArray ((flagsI (ndsF (edgF tl)) 15).map Value.bool)) kf) :: ((nd : Addr), W.listOf (List.toArray ds) kd) :: (L + 1, oN) :: (chunkD w sl ++ ((((e : Addr), W.listOf (List.toArray (tupV tl)) ke) :: tupL tl) ++ rest0))) → (∀ x ∈ sl, SDok w (edgF tl) x) → SepD w sl (((pl : Addr), W.listOf (List.toArray (sl.reverse.map fun x => Value.ref x.A.P)) kp) :: ((of : Addr), W.listOf (List.toArray (sl.reverse.map fun x => Value.ref x.o)) ko) :: ((fl : Addr), W.listOf (List.toArray ((flagsI (ndsF (edgF tl)) 15).map Value.bool)) kf) :: ((nd : Addr), W.listOf (List.toArray ds) kd) :: (L + 1, oN) :: ((((e : Addr), W.listOf (List.toArray (tupV tl)) ke) :: tupL tl) ++ rest0)) → Q .next { s with heap := h', toks := tk' }) : wpAny (model Challenge.rw_om0134_01.row.prog w) (lawA w L fa cd) (exec (lawS w 8) (lawEnv w L fa cd)) Q E { s with heap := h, toks := tk } :=
  S_law_plans.all (w, mean, mg, mb, h₀, h, L, fa, cd, s, tk, Q, E, u, nb, e, fl, nd, pl, of, rs, ds, ke, kd, kf, tl, oN, rest0) G hE hle hr c1 hds hpo hown hr0 hsep F N hQ
theorem at_LawR : True := by
  w_top off
  exact trivial
theorem news_more {g h : Heap} {L : Addr} {front all : List (Addr × Obj)} (N : News g L h all) (sub : ∀ p ∈ front, p ∈ all) : News g L h (front ++ all) := fun p hp => by
  rcases List.mem_append.mp hp with hp | hp
  · exact N p (sub p hp)
  · exact N p hp
theorem ConS.mono {w : World} {mean : ExcName → Option Value} {mg mb : Str → Option Value} {dp un : Nat} {f : Addr} {args : List Value} {news : List (Addr × Obj)} {R R' : Value → List (Addr × Obj) → Prop}
    (C : ConS w mean mg mb dp un f args news R) (h : ∀ r n, R r n → R' r n) : ConS w mean mg mb dp un f args news R' :=
  fun gd cn cs L a ccd cl outer A₀ base h₀ m s RR B F X N T hk XB TB D hret => C gd cn cs L a ccd cl outer A₀ base h₀ m s RR B F X N T hk XB TB D fun r n h' tk' l r' => hret r n h' tk' l (h _ _ r')
theorem use_conR {w : World} {mean : ExcName → Option Value} {mg mb : Str → Option Value} {dp un : Nat} {f : Addr} {args : List Value} {newsC all : List (Addr × Obj)} {R : Value → List (Addr × Obj) → Prop} (C : ConS w mean mg mb dp un f args newsC R)
    (ro : ∀ r n, R r n → ∀ p ∈ newsC, p ∈ n)
    {A : Around} {cn : Str} {cs : Scope} {L a : Addr} {ccd : Value} {cl : List (Str × Addr)} {h₀ : Heap} {m : Str → Option Value} {s : Shared} {Q E : Value → Shared → Prop} (G : LawG w mean mg mb h₀)
    (F : Fr h₀ L s.heap m) (N : News h₀ L s.heap all) (sub : ∀ p ∈ newsC, p ∈ all)
    (hA : A.frames = some [envX cn cs L a ccd cl]) (hk : cs.kind = .function) (hh : A.handled = none) (hd : A.depth ≤ dp) (hu : A.units ≤ un)
    (h : ∀ r news' h' tk', Fr h₀ L h' m → News h₀ L h' (news' ++ all) → (∀ p ∈ news', p.1 ∉ newsC.map (·.1) → ∀ q ∈ all, @Ne Nat q.1 p.1) → R r news' → Q r { s with heap := h', toks := tk' }) :
    wpAny (model Challenge.rw_om0134_01.row.prog w) A (call (.ref f) args) Q E s := by
  have key : ∀ (l : List (Addr × Obj)) (h' : Heap) (n : List (Addr × Obj)), News h₀ L h' (n ++ l) → (∀ p ∈ newsC, p ∈ n) → (∀ p ∈ all, p.1 ∉ newsC.map (·.1) → p ∈ l) → News h₀ L h' (n ++ all) := by
    intro l h' n N' hn hl p hp
    rcases List.mem_append.mp hp with hp | hp
    · exact N' p (List.mem_append.mpr (.inl hp))
    · by_cases q : p.1 ∈ newsC.map (·.1)
      · obtain ⟨p', hp', e⟩ := List.mem_map.mp q
        have h1 := (N p hp).1
        have h2 := (N p' (sub p' hp')).1
        rw [← e, h2] at h1
        injection h1 with h1
        have : p = p' := Prod.ext e.symm h1.symm
        exact N' p (List.mem_append.mpr (.inl (this ▸ hn p' hp')))
      · exact N' p (List.mem_append.mpr (.inr (hl p hp q)))
  classical
  refine use_conS (rest := all.filter fun p => decide (p.1 ∉ newsC.map (·.1))) C G.below F G.inn (news_sub N sub) (news_sub N fun p hp => (List.mem_filter.mp hp).1) G.top G.inn G.top (dicts_nil _) hA hk hh hd hu (fun p hp => of_decide_eq_true (List.mem_filter.mp hp).2) fun r n h' tk' g' G' F' N' fr y => ?_
  obtain ⟨F2, N2⟩ := G'.outermost F' N'
  refine h r n h' tk' F2 (key _ h' n N2 (ro r n y) fun p hp q => List.mem_filter.mpr ⟨hp, decide_eq_true q⟩) (fun p hp hn q hq e => ?_) y
  rcases fr p hp with z | z
  · exact hn z
  · exact z q (List.mem_filter.mpr ⟨hq, decide_eq_true (show q.1 ∉ newsC.map (·.1) from (show @Eq Nat q.1 p.1 from e) ▸ hn)⟩) e
theorem at_LawF : True := by
  w_top off
  exact trivial
structure LE where
  T : Nat
  vs : List Value
  k : Nat
noncomputable def leO (x : LE) : Addr × Obj := ((x.T : Addr), W.listOf (List.toArray x.vs) x.k)
noncomputable def leL (l : List LE) : List (Addr × Obj) := l.map leO
noncomputable def leV (l : List LE) : List Value := l.map fun x => Value.ref x.T
open LCg in
theorem lst_rest {prog : Program} {w : World} {A : Around} {s : Shared} {h₀ : Heap} {L : Addr} {m : Str → Option Value} {env : Env} {elt : PySem.Expr} {x : Str} {scope : Scope} {cl : List (Str × Addr)} {S : List (Addr × Obj) → Prop} {P : Nat → Value → Prop} {Fin : List Value → List (Addr × Obj) → Prop} {news : List (Addr × Obj)} (n : Nat) (R : Nat → LE → Prop)
    (turn : ∀ i v I oI C oC D m₂ h tk (E' : Value → Shared → Prop) (tl : List LE), i < n → P i v → NsObj oC m₂ → m₂ x = some v → Fr h₀ L h m → News h₀ L h ((I, oI) :: (C, oC) :: (D, lst (leV tl)) :: (leL tl.reverse ++ news)) → Off3 I C D (leL tl.reverse ++ news) → ((@Ne Nat I C) ∧ (@Ne Nat I D) ∧ (@Ne Nat C D)) →
      wpAny (model prog w) A (eval elt (compEnvC scope cl C env)) (CompEnd h₀ L m { s with heap := h, toks := tk } I oI C oC D (lst (leV tl)) S (fun y news' => ∃ x : LE, y = .ref x.T ∧ R i x ∧ (∀ z ∈ tl, @LT.lt Nat _ z.T x.T) ∧ news' = leO x :: (leL tl.reverse ++ news))) E' { s with heap := h, toks := tk })
    (fin : ∀ tl : List LE, tl.length = n → (∀ j x, tl[j]? = some x → R j x) → tl.Pairwise (fun x y => @LT.lt Nat _ x.T y.T) → Fin (leV tl) (leL tl.reverse ++ news)) : CompRest prog w A h₀ L m env elt x scope cl s S P Fin n 0 [] news := by
  have key : ∀ (j i : Nat) (tl : List LE), i + j = n → tl.length = i → (∀ j x, tl[j]? = some x → R j x) → tl.Pairwise (fun x y => @LT.lt Nat _ x.T y.T) → CompRest prog w A h₀ L m env elt x scope cl s S P Fin j i (leV tl) (leL tl.reverse ++ news) := by
    intro j
    induction j with
    | zero =>
      intro i tl h1 h2 hy hpw
      exact CompRest.zero (fin tl (by omega) hy hpw)
    | succ j ih =>
      intro i tl h1 h2 hy hpw
      refine CompRest.succ ?_
      intro v I oI C oC D m₂ h tk E' hv hC hx F N off ne
      refine wpAny_mono (turn i v I oI C oC D m₂ h tk E' tl (by omega) hv hC hx F N off ne) (fun y s₃ hr => ?_) fun _ _ e => e
      obtain ⟨h', tk', nw, e1, F', N', off', hS, x, hy', hR, hlt, hn⟩ := hr
      subst hn hy'
      have e7 : leV tl ++ [.ref x.T] = leV (tl ++ [x]) := by simp [leV]
      have e8 : leO x :: (leL tl.reverse ++ news) = leL (tl ++ [x]).reverse ++ news := by simp [leL]
      refine ⟨h', tk', _, e1, F', N', off', hS, ?_⟩
      show CompRest prog w A h₀ L m env elt _ scope cl s S _ Fin j (i + 1) (leV tl ++ [.ref x.T]) _
      rw [e7, e8]
      refine ih (i + 1) _ (by omega) (by rw [List.length_append, h2]; rfl) (fun j' x' hx' => ?_) (List.pairwise_append.mpr ⟨hpw, List.pairwise_singleton _ _, fun z hz y hy => by rw [List.mem_singleton.mp hy]; exact hlt z hz⟩)
      by_cases q : j' < i
      · exact hy j' x' (by rw [← hx', List.getElem?_append_left (by omega)])
      · rw [List.getElem?_append_right (by omega)] at hx'
        have : j' - tl.length = 0 := by
          by_cases z : j' - tl.length = 0
          · exact z
          · rw [List.getElem?_eq_none (by simp; omega)] at hx'; cases hx'
        rw [this] at hx'
        injection hx' with hx'
        subst hx'
        have : j' = i := by omega
        subst this
        exact hR
  exact key _ 0 [] (by omega) rfl (fun j x h => nomatch h) .nil
theorem le_ex {g h : Heap} {L T : Addr} {v : List Value} {k : Nat} {r : List (Addr × Obj)} (N : News g L h ((T, W.listOf (List.toArray v) k) :: r)) : ∃ x : LE, x.T = T ∧ x.vs = v ∧ News g L h (leO x :: r) := ⟨⟨T, v, k⟩, rfl, rfl, N⟩
theorem law_ends {w : World} {mean : ExcName → Option Value} {mg mb : Str → Option Value} {h₀ h : Heap} {L fa : Addr} {cd : Value} {s : Shared} {tk : Nat} {Q : Flow → Shared → Prop} {E : Value → Shared → Prop} {u : Str → Option Value}
    (G : LawG w mean mg mb h₀) (hE : PassesOwn (model Challenge.rw_om0134_01.row.prog w) (lawA w L fa cd) (lawEnv w L fa cd) E)
    (e fl rs : Nat) (r0 r1 r2 : LE) (kr : Nat) (n0 n1 n2 : List Int) (rest : List (Addr × Obj))
    (i0 : IntsAre r0.vs n0) (i1 : IntsAre r1.vs n1) (i2 : IntsAre r2.vs n2) (z0 : n0.length ≤ 8) (z1 : n1.length ≤ 8) (z2 : n2.length ≤ 8)
    (F : Fr h₀ L h (kstB u [(("edges" : Str), .ref e), (("flags" : Str), .ref fl), (("runs" : Str), .ref rs)]))
    (N : News h₀ L h (((rs : Addr), W.listOf (List.toArray [.ref r0.T, .ref r1.T, .ref r2.T]) kr) :: leO r0 :: leO r1 :: leO r2 :: rest))
    (hQ : ∀ (en : Nat) (x0 x1 x2 : LE) (l0 l1 l2 : List Int) (kn : Nat) (h' : Heap) (tk' : Nat) (u' : Str → Option Value), IntsAre x0.vs l0 → l0.Perm n0 → l0.Pairwise (fun x y => x ≤ y) → IntsAre x1.vs l1 → l1.Perm n1 → l1.Pairwise (fun x y => x ≤ y) → IntsAre x2.vs l2 → l2.Perm n2 → l2.Pairwise (fun x y => x ≤ y) → (@LT.lt Nat _ x0.T x1.T ∧ @LT.lt Nat _ x1.T x2.T) →
      Fr h₀ L h' (kstB u' [(("edges" : Str), .ref e), (("flags" : Str), .ref fl), (("ends" : Str), .ref en)]) → News h₀ L h' (((en : Addr), W.listOf (List.toArray [.ref x0.T, .ref x1.T, .ref x2.T]) kn) :: leO x0 :: leO x1 :: leO x2 :: rest) → Q .next { s with heap := h', toks := tk' }) :
    wpAny (model Challenge.rw_om0134_01.row.prog w) (lawA w L fa cd) (exec (lawS w 10) (lawEnv w L fa cd)) Q E { s with heap := h, toks := tk } := by
  revert hE
  unfold lawA lawEnv
  have eS := lawScope_eq w
  rw [show (hd.heap_1 w.params).lookup 203 = some ⟨_, _, .func (fnOf _ _ _ _ _ _ _ _ _ _ _ _), _⟩ from rfl] at eS
  dsimp only [scopeOf, fnOf] at eS
  have eT : lawS w 10 = Stmt.Assign _ _ _ := rfl
  rw [eS, eT]
  clear eS eT
  intro hE
  have B := G.below
  have X := G.inn
  revert X; k_fill; intro X
  have T := G.top
  dsimp only [kstB, leO] at F N
  walk_at "k_toL"
  rename Fr _ _ _ _ => F0
  refine LCg.Assign_ListComp_U (F₀ := F0) (by rfl) (by with_unfolding_all rfl) (by with_unfolding_all rfl) (by decide) (by rfl) (by decide) (by rfl) (by rfl) (by rfl) ?_
  walk_at "k_srcG"
  rename Fr _ _ _ _ => F1
  rename News _ _ _ _ => N1
  refine LCg.CompSrc.ledger (ax := _) rfl F1 N1 (List.Mem.head _) (by rw [sizeLine_eq]; exact Nat.le_of_ble_eq_true rfl) ?_
  intro g9
  refine lst_rest 3 (fun i x => ∃ l, IntsAre x.vs l ∧ l.Perm (if i = 0 then n0 else if i = 1 then n1 else n2) ∧ l.Pairwise (fun x y => x ≤ y)) ?_ ?_
  · intro i v I' oI' C' oC' D' m' h' tk' E' tl hi hv hC' hx' F' N' off' ne'
    have off0 := off'
    obtain ⟨x, nx, rfl, hxm, hxi, hxz, hxn⟩ : ∃ (x : LE) (nx : List Int), v = .ref x.T ∧ leO x ∈ ((rs : Addr), W.listOf (List.toArray [.ref r0.T, .ref r1.T, .ref r2.T]) kr) :: leO r0 :: leO r1 :: leO r2 :: rest ∧ IntsAre x.vs nx ∧ nx.length ≤ 8 ∧ (if i = 0 then n0 else if i = 1 then n1 else n2) = nx := by
      match i, hi with
      | 0, _ => exact ⟨r0, n0, by injection hv with hv; exact hv.symm, .tail _ (.head _), i0, z0, rfl⟩
      | 1, _ => exact ⟨r1, n1, by injection hv with hv; exact hv.symm, mt2 (.head _), i1, z1, rfl⟩
      | 2, _ => exact ⟨r2, n2, by injection hv with hv; exact hv.symm, mt2 (.tail _ (.head _)), i2, z2, rfl⟩
    have N2 := news_sub N' (news := leO x :: (I', oI') :: (C', oC') :: (D', LCg.lst (leV tl)) :: (leL tl.reverse ++ (((rs : Addr), W.listOf (List.toArray [.ref r0.T, .ref r1.T, .ref r2.T]) kr) :: leO r0 :: leO r1 :: leO r2 :: rest))) (fun p hp => by
      rcases List.mem_cons.mp hp with rfl | hp
      · exact mt2 (.tail _ (List.mem_append.mpr (.inr hxm)))
      · exact hp)
    clear N'
    dsimp only [leO] at N2
    have hxl := hxi.length
    walk_at "k_comp"
    rename Fr _ _ _ _ => F8
    rename News _ _ _ _ => N8
    have l8 := ‹_ ∧ _ ∧ _ ∧ _ ∧ AllLt _ _›
    have u8 := ‹Under _ (leL tl.reverse ++ _)›
    have p8 := ‹List.Perm _ nx›
    have o8 := ‹List.Pairwise (fun x1 x2 => x1 ≤ x2) _›
    obtain ⟨x8, e1, e2, N7⟩ := le_ex N8
    refine LCg.CompEnd.intro F8 N7 (leO x8 :: (leL tl.reverse ++ _)) (fun p hp => ?_) ⟨⟨?_, ?_, ?_⟩, off0⟩ (.inr ⟨_, .tail _ (List.mem_append.mpr (.inr (.head _))), rfl, _, rfl⟩) ⟨x8, by rw [e1], ⟨_, by rw [e2]; assumption, by rw [hxn]; exact p8, o8⟩, fun z hz => ?_, rfl⟩
    · simp only [List.mem_append, List.mem_cons] at hp ⊢; grind
    · exact fun q => absurd (e1 ▸ l8.2.1 : @LT.lt Nat _ I' x8.T) (by rw [show @Eq Nat x8.T I' from q]; exact Nat.lt_irrefl _)
    · exact fun q => absurd (e1 ▸ l8.2.2.1 : @LT.lt Nat _ C' x8.T) (by rw [show @Eq Nat x8.T C' from q]; exact Nat.lt_irrefl _)
    · exact fun q => absurd (e1 ▸ l8.2.2.2.1 : @LT.lt Nat _ D' x8.T) (by rw [show @Eq Nat x8.T D' from q]; exact Nat.lt_irrefl _)
    · rw [e1]
      exact u8.lt (leO z) (List.mem_append.mpr (.inl (List.mem_map_of_mem (List.mem_reverse.mpr hz))))
  · intro tl htl hR hpw
    unfold LCg.FinA
    intro en h9 tk9 F9 N9 off9
    obtain ⟨x0, x1, x2, rfl⟩ : ∃ x0 x1 x2, tl = [x0, x1, x2] := by
      match tl, htl with
      | [a, b, c], _ => exact ⟨a, b, c, rfl⟩
    obtain ⟨l0, a0, b0, c0⟩ := hR 0 x0 rfl
    obtain ⟨l1, a1, b1, c1⟩ := hR 1 x1 rfl
    obtain ⟨l2, a2, b2, c2⟩ := hR 2 x2 rfl
    replace N9 : News h₀ L h9 (((en : Addr), W.listOf (List.toArray [.ref x0.T, .ref x1.T, .ref x2.T]) 3) :: _) := N9
    have q1 := List.pairwise_cons.mp hpw
    have q2 := List.pairwise_cons.mp q1.2
    refine hQ en x0 x1 x2 l0 l1 l2 3 h9 tk9 _ a0 b0 c0 a1 b1 c1 a2 b2 c2 ⟨q1.1 _ (.head _), q2.1 _ (.head _)⟩ (AllAt.fr (ps := [(("edges" : Str), .ref e), (("flags" : Str), .ref fl), (("ends" : Str), .ref en)]) (by exact ⟨rfl, rfl, rfl, trivial⟩) F9) (news_sub N9 fun p hp => ?_)
    simp only [leL, leV, List.map_cons, List.map_nil, List.reverse_cons, List.reverse_nil, List.nil_append, List.cons_append, List.mem_append, List.mem_cons] at hp ⊢; grind
theorem at_LawF2 : True := by
  w_top off
  exact trivial
theorem law_words {w : World} {mean : ExcName → Option Value} {mg mb : Str → Option Value} {h₀ h : Heap} {L fa : Addr} {cd : Value} {s : Shared} {tk : Nat} {Q : Flow → Shared → Prop} {E : Value → Shared → Prop} {u : Str → Option Value}
    (G : LawG w mean mg mb h₀) (hE : PassesOwn (model Challenge.rw_om0134_01.row.prog w) (lawA w L fa cd) (lawEnv w L fa cd) E)
    (e fl en : Nat) (x0 x1 x2 : LE) (kn : Nat) (n0 n1 n2 : List Int) (rest : List (Addr × Obj))
    (i0 : IntsAre x0.vs n0) (i1 : IntsAre x1.vs n1) (i2 : IntsAre x2.vs n2) (z0 : n0.length ≤ 4) (z1 : n1.length ≤ 4) (z2 : n2.length ≤ 4)
    (F : Fr h₀ L h (kstB u [(("edges" : Str), .ref e), (("flags" : Str), .ref fl), (("ends" : Str), .ref en)]))
    (N : News h₀ L h (((en : Addr), W.listOf (List.toArray [.ref x0.T, .ref x1.T, .ref x2.T]) kn) :: leO x0 :: leO x1 :: leO x2 :: rest))
    (hQ : ∀ (wd : Nat) (ws : List Value) (kw : Nat) (h' : Heap) (tk' : Nat) (u' : Str → Option Value), StrsAre ws [wordF n0, wordF n1, wordF n2] →
      Fr h₀ L h' (kstB u' [(("edges" : Str), .ref e), (("flags" : Str), .ref fl), (("ends" : Str), .ref en), (("words" : Str), .ref wd)]) → News h₀ L h' (((wd : Addr), W.listOf (List.toArray ws) kw) :: ((en : Addr), W.listOf (List.toArray [.ref x0.T, .ref x1.T, .ref x2.T]) kn) :: leO x0 :: leO x1 :: leO x2 :: rest) → Q .next { s with heap := h', toks := tk' }) :
    wpAny (model Challenge.rw_om0134_01.row.prog w) (lawA w L fa cd) (exec (lawS w 11) (lawEnv w L fa cd)) Q E { s with heap := h, toks := tk } := by
  revert hE
  unfold lawA lawEnv
  have eS := lawScope_eq w
  rw [show (hd.heap_1 w.params).lookup 203 = some ⟨_, _, .func (fnOf _ _ _ _ _ _ _ _ _ _ _ _), _⟩ from rfl] at eS
  dsimp only [scopeOf, fnOf] at eS
  have eT : lawS w 11 = Stmt.Assign _ _ _ := rfl
  rw [eS, eT]
  clear eS eT
  intro hE
  have B := G.below
  have X := G.inn
  revert X; k_fill; intro X
  have T := G.top
  dsimp only [kstB] at F
  walk_at "k_toL"
  rename Fr _ _ _ _ => F0
  refine LCg.Assign_ListComp_U (F₀ := F0) (by rfl) (by with_unfolding_all rfl) (by with_unfolding_all rfl) (by decide) (by rfl) (by decide) (by rfl) (by rfl) (by rfl) ?_
  walk_at "k_srcG"
  rename Fr _ _ _ _ => F1
  rename News _ _ _ _ => N1
  refine LCg.CompSrc.ledger (ax := _) rfl F1 N1 (List.Mem.head _) (by rw [sizeLine_eq]; exact Nat.le_of_ble_eq_true rfl) ?_
  intro g9
  refine str_rest (n := 3) (fun i => wordF (if i = 0 then n0 else if i = 1 then n1 else n2)) ?_ ?_
  · intro i v I' oI' C' oC' D' m' ys' h' tk' E' hi hv hC' hx' F' N' off' ne'
    have off0 := off'
    obtain ⟨x, nx, rfl, hxm, hxi, hxz, hxn⟩ : ∃ (x : LE) (nx : List Int), v = .ref x.T ∧ leO x ∈ ((en : Addr), W.listOf (List.toArray [.ref x0.T, .ref x1.T, .ref x2.T]) kn) :: leO x0 :: leO x1 :: leO x2 :: rest ∧ IntsAre x.vs nx ∧ nx.length ≤ 4 ∧ (if i = 0 then n0 else if i = 1 then n1 else n2) = nx := by
      match i, hi with
      | 0, _ => exact ⟨x0, n0, by injection hv with hv; exact hv.symm, .tail _ (.head _), i0, z0, rfl⟩
      | 1, _ => exact ⟨x1, n1, by injection hv with hv; exact hv.symm, mt2 (.head _), i1, z1, rfl⟩
      | 2, _ => exact ⟨x2, n2, by injection hv with hv; exact hv.symm, mt2 (.tail _ (.head _)), i2, z2, rfl⟩
    walk_at "k_callR"
    rename Fr _ _ _ _ => F5
    rename News _ _ _ _ => N5
    refine use_conR (newsC := [leO x]) (word_con w mean mg mb x.T x.vs nx x.k hxi hxz).toS (by rintro r n ⟨rfl, _⟩ p hp; exact hp) G F5 N5 (fun p hp => by rw [List.mem_singleton.mp hp]; exact mt2 (.tail _ hxm)) rfl (by first | assumption | rfl) rfl (Nat.le_of_ble_eq_true rfl) (Nat.le_of_ble_eq_true rfl) ?_
    rintro r n h7 tk7 F7 N7 - ⟨rfl, t7, rfl⟩
    exact LCg.CompEnd.intro F7 (news_sub N7 fun p hp => .tail _ hp) _ (fun p hp => hp) off0 (.inr ⟨_, (.head _), rfl, _, rfl⟩) ⟨rfl, t7, by rw [hxn]⟩
  · intro ys hys
    unfold LCg.FinA
    intro wd h9 tk9 F9 N9 off9
    exact hQ wd ys _ h9 tk9 _ hys (AllAt.fr (ps := [(("edges" : Str), .ref e), (("flags" : Str), .ref fl), (("ends" : Str), .ref en), (("words" : Str), .ref wd)]) (by exact ⟨rfl, rfl, rfl, rfl, trivial⟩) F9) N9
theorem law_total {w : World} {mean : ExcName → Option Value} {mg mb : Str → Option Value} {h₀ h : Heap} {L fa : Addr} {cd : Value} {s : Shared} {tk : Nat} {Q : Flow → Shared → Prop} {E : Value → Shared → Prop} {u : Str → Option Value}
    (G : LawG w mean mg mb h₀) (e fl en wd : Nat) (all : List (Addr × Obj))
    (F : Fr h₀ L h (kstB u [(("edges" : Str), .ref e), (("flags" : Str), .ref fl), (("ends" : Str), .ref en), (("words" : Str), .ref wd)])) (N : News h₀ L h all)
    (hQ : ∀ (t : Tok) (h' : Heap) (tk' : Nat) (u' : Str → Option Value), Fr h₀ L h' (kstB u' [(("edges" : Str), .ref e), (("flags" : Str), .ref fl), (("ends" : Str), .ref en), (("words" : Str), .ref wd), (("total" : Str), .int 0 t)]) → News h₀ L h' all → Q .next { s with heap := h', toks := tk' }) :
    wpAny (model Challenge.rw_om0134_01.row.prog w) (lawA w L fa cd) (exec (lawS w 12) (lawEnv w L fa cd)) Q E { s with heap := h, toks := tk } := by
  unfold lawA lawEnv
  have eS := lawScope_eq w
  rw [show (hd.heap_1 w.params).lookup 203 = some ⟨_, _, .func (fnOf _ _ _ _ _ _ _ _ _ _ _ _), _⟩ from rfl] at eS
  dsimp only [scopeOf, fnOf] at eS
  have eT : lawS w 12 = Stmt.Assign _ _ _ := rfl
  rw [eS, eT]
  clear eS eT
  have B := G.below
  have X := G.inn
  revert X; k_fill; intro X
  have T := G.top
  dsimp only [kstB] at F
  walk_at "k_run"
  rename Fr _ _ _ _ => F9
  rename News _ _ _ _ => N9
  exact hQ _ _ _ _ (AllAt.fr (ps := [(("edges" : Str), .ref e), (("flags" : Str), .ref fl), (("ends" : Str), .ref en), (("words" : Str), .ref wd), (("total" : Str), .int 0 _)]) (by exact ⟨rfl, rfl, rfl, rfl, rfl, trivial⟩) F9) N9
theorem at_PureW : True := by
  w_top off
  exact trivial
noncomputable def setN (m : Nat) : List Int := pick4 (bitI (m : Int))
noncomputable def andnN (a b : Nat) : Nat := a - (a &&& b)
noncomputable def hamN (a b : Nat) : Nat := ((List.range 4).filter fun i => bitN a i != bitN b i).length
noncomputable def wordN (m : Nat) : Str := wordF (setN m)
theorem set_ris : ∀ m < 16, (setN m).length ≤ 4 ∧ ∀ i < 4, i + 1 < (setN m).length → (setN m).getD ((i : Nat) : Int).toNat 0 < (setN m).getD (((i : Nat) : Int) + 1).toNat 0 := by decide +kernel
theorem ris_set {m : Nat} (h : m < 16) : Ris (setN m) := ⟨fun i hi => (set_ris m h).2 i (by have := (set_ris m h).1; omega) hi, by have := (set_ris m h).1; omega⟩
theorem set_len {m : Nat} (h : m < 16) : (setN m).length ≤ 4 := (set_ris m h).1
theorem set_sld : ∀ a < 16, ∀ b < 16, sldF (setN a) (setN b) = (setN (andnN a b), setN (andnN b a)) := by decide +kernel
theorem andn_lt {a b : Nat} (h : a < 16) : andnN a b < 16 := Nat.lt_of_le_of_lt (Nat.sub_le ..) h
theorem set_ham : ∀ a < 16, ∀ b < 16, (setN (andnN a b)).length + (setN (andnN b a)).length = hamN a b := by decide +kernel
theorem set_both : ∀ a < 16, ∀ b < 16, (sldF (setN a) (sldF (setN a) (setN b)).1).1 = setN (a &&& b) := by decide +kernel
theorem and_lt16 : ∀ a < 16, ∀ b < 16, a &&& b < 16 ∧ a ||| b < 16 := by decide +kernel
theorem bits_op : ∀ a < 16, ∀ b < 16, ∀ i < 4, bitN (a &&& b) i = (bitN a i && bitN b i) ∧ bitN (a ||| b) i = (bitN a i || bitN b i) ∧ bitN (andnN b a) i = (bitN b i && !bitN a i) := by decide +kernel
theorem mem_setN {m : Nat} (h : m < 16) {t : Int} : t ∈ setN m ↔ ∃ i : Nat, i < 4 ∧ t = (i : Int) ∧ bitN m i = true := by
  unfold setN
  rw [mem_pick4]
  constructor
  · rintro ⟨⟨h1, h2⟩, h3⟩
    obtain ⟨i, rfl⟩ := Int.eq_ofNat_of_zero_le h1
    have hi : i < 4 := by omega
    exact ⟨i, hi, rfl, by rw [← bitI_is h hi]; exact h3⟩
  · rintro ⟨i, hi, rfl, h3⟩
    exact ⟨⟨by omega, by omega⟩, by rw [bitI_is h hi]; exact h3⟩
theorem setN_of {l : List Int} {m : Nat} (h : m < 16) (hp : l.Pairwise (fun x y => x ≤ y)) (hn : l.Nodup) (hm : ∀ t, t ∈ l ↔ ∃ i : Nat, i < 4 ∧ t = (i : Int) ∧ bitN m i = true) : l = setN m :=
  sorted_pick hp hn fun t => by rw [hm t, ← mem_setN h, setN, mem_pick4]
theorem sorted_run {E : List (Int × Int)} {D l : List Int} (hr : Run E D) (hp : l.Perm D.reverse) (hs : l.Pairwise (fun x y => x ≤ y)) : l = setN (mkN D) := by
  obtain ⟨h1, h2⟩ := mkN_ok hr.nodup hr.in3
  refine setN_of h1 hs ((hp.trans (List.reverse_perm D)).nodup_iff.mpr hr.nodup) fun t => ?_
  rw [(hp.trans (List.reverse_perm D)).mem_iff]
  constructor
  · intro ht
    have h3 := hr.in3 t ht
    obtain ⟨i, rfl⟩ := Int.eq_ofNat_of_zero_le h3.1
    have hi : i < 4 := by have := h3.2; omega
    exact ⟨i, hi, rfl, (h2 i hi).mpr ht⟩
  · rintro ⟨i, hi, rfl, hb⟩
    exact (h2 i hi).mp hb
theorem set_either {a b : Nat} (ha : a < 16) (hb : b < 16) {ns : List Int} (hp : ns.Perm (setN a ++ (sldF (setN a) (setN b)).2)) (hs : ns.Pairwise (fun x y => x ≤ y)) : ns = setN (a ||| b) := by
  rw [set_sld a ha b hb] at hp
  dsimp only at hp
  refine setN_of (and_lt16 a ha b hb).2 hs (hp.nodup_iff.mpr (List.nodup_append.mpr ⟨pick4_nodup _, pick4_nodup _, ?_⟩)) fun t => ?_
  · rintro x hx y hy rfl
    obtain ⟨i, hi, rfl, h1⟩ := (mem_setN ha).mp hx
    obtain ⟨j, hj, e, h2⟩ := (mem_setN (andn_lt hb)).mp hy
    have : i = j := by omega
    subst this
    rw [(bits_op a ha b hb i hi).2.2, h1] at h2
    simp at h2
  · rw [hp.mem_iff, List.mem_append, mem_setN ha, mem_setN (andn_lt hb)]
    constructor
    · rintro (⟨i, hi, rfl, h1⟩ | ⟨i, hi, rfl, h1⟩)
      · exact ⟨i, hi, rfl, by rw [(bits_op a ha b hb i hi).2.1, h1]; rfl⟩
      · refine ⟨i, hi, rfl, ?_⟩
        rw [(bits_op a ha b hb i hi).2.2, Bool.and_eq_true] at h1
        rw [(bits_op a ha b hb i hi).2.1, h1.1, Bool.or_true]
    · rintro ⟨i, hi, rfl, h1⟩
      rw [(bits_op a ha b hb i hi).2.1] at h1
      by_cases q : bitN a i = true
      · exact .inl ⟨i, hi, rfl, q⟩
      · refine .inr ⟨i, hi, rfl, ?_⟩
        have q' : bitN a i = false := by simpa using q
        rw [q', Bool.false_or] at h1
        rw [(bits_op a ha b hb i hi).2.2, q', h1]; rfl
theorem lev_lo : ∀ a < 16, ∀ b < 16, ∀ c < 5, (if hamN a b ≤ c then levF (wordN a) (wordN b) (c : Int) = (hamN a b : Int) else (c : Int) < levF (wordN a) (wordN b) (c : Int)) := by decide +kernel
theorem lev_ten : ∀ a < 16, ∀ b < 16, levF (wordN a) (wordN b) 10 = (hamN a b : Int) := by decide +kernel
noncomputable def majN (a b c : Nat) : Nat := ((a &&& b) ||| (b &&& c)) ||| (c &&& a)
theorem joined_maj : ∀ a < 16, ∀ b < 16, ∀ c < 16, ((a ||| b) &&& (b ||| c)) &&& (c ||| a) = majN a b c := by decide +kernel
theorem majN_lt {a b c : Nat} (ha : a < 16) (hb : b < 16) (hc : c < 16) : majN a b c < 16 := (and_lt16 _ (and_lt16 _ (and_lt16 _ ha _ hb).1 _ (and_lt16 _ hb _ hc).1).2 _ (and_lt16 _ hc _ ha).1).2
theorem bits_maj {a b c : Nat} (ha : a < 16) (hb : b < 16) (hc : c < 16) {i : Nat} (hi : i < 4) : bitN (majN a b c) i = ((bitN a i && bitN b i) || (bitN b i && bitN c i) || (bitN c i && bitN a i)) := by
  have h1 := (and_lt16 _ ha _ hb).1
  have h2 := (and_lt16 _ hb _ hc).1
  have h3 := (and_lt16 _ hc _ ha).1
  unfold majN
  rw [(bits_op _ (and_lt16 _ h1 _ h2).2 _ h3 i hi).2.1, (bits_op _ h1 _ h2 i hi).2.1, (bits_op _ ha _ hb i hi).1, (bits_op _ hb _ hc i hi).1, (bits_op _ hc _ ha i hi).1]
noncomputable def dB (x y : Bool) : Nat := if x != y then 1 else 0
theorem ham_bits : ∀ a < 16, ∀ b < 16, hamN a b = dB (bitN a 0) (bitN b 0) + dB (bitN a 1) (bitN b 1) + dB (bitN a 2) (bitN b 2) + dB (bitN a 3) (bitN b 3) := by decide +kernel
theorem bit_way : ∀ x p q r : Bool, (x = ((p && q) || (q && r) || (r && p)) ∧ 2 * (dB x p + dB x q + dB x r) = dB p r + dB q p + dB r q) ∨ (x ≠ ((p && q) || (q && r) || (r && p)) ∧ dB p r + dB q p + dB r q + 2 ≤ 2 * (dB x p + dB x q + dB x r)) := by decide
theorem bit_far : ∀ p q r : Bool, dB p r + dB q p + dB r q ≤ 2 := by decide
theorem ham_far {a b c : Nat} (ha : a < 16) (hb : b < 16) (hc : c < 16) : hamN a c + hamN b a + hamN c b ≤ 8 := by
  rw [ham_bits a ha c hc, ham_bits b hb a ha, ham_bits c hc b hb]
  have h0 := bit_far (bitN a 0) (bitN b 0) (bitN c 0)
  have h1 := bit_far (bitN a 1) (bitN b 1) (bitN c 1)
  have h2 := bit_far (bitN a 2) (bitN b 2) (bitN c 2)
  have h3 := bit_far (bitN a 3) (bitN b 3) (bitN c 3)
  omega
theorem sum12 (x0 x1 x2 x3 y0 y1 y2 y3 z0 z1 z2 z3 : Nat) : (x0 + x1 + x2 + x3) + (y0 + y1 + y2 + y3) + (z0 + z1 + z2 + z3) = (x0 + y0 + z0) + (x1 + y1 + z1) + (x2 + y2 + z2) + (x3 + y3 + z3) := by omega
theorem half_sum {u0 u1 u2 u3 v0 v1 v2 v3 : Nat} (h0 : v0 ≤ 2 * u0) (h1 : v1 ≤ 2 * u1) (h2 : v2 ≤ 2 * u2) (h3 : v3 ≤ 2 * u3) (h : u0 + u1 + u2 + u3 ≤ (v0 + v1 + v2 + v3) / 2) : 2 * u0 ≤ v0 ∧ 2 * u1 ≤ v1 ∧ 2 * u2 ≤ v2 ∧ 2 * u3 ≤ v3 := by omega
theorem half_eq {u0 u1 u2 u3 v0 v1 v2 v3 : Nat} (h0 : 2 * u0 = v0) (h1 : 2 * u1 = v1) (h2 : 2 * u2 = v2) (h3 : 2 * u3 = v3) : u0 + u1 + u2 + u3 ≤ (v0 + v1 + v2 + v3) / 2 := by omega
theorem bit_le {A : Prop} {u v : Nat} (k : (A ∧ u = v) ∨ (¬ A ∧ v + 2 ≤ u)) : v ≤ u := k.elim (fun x => Nat.le_of_eq x.2.symm) fun x => Nat.le_trans (Nat.le_add_right _ _) x.2
theorem bitK {A : Prop} {u v : Nat} (k : (A ∧ u = v) ∨ (¬ A ∧ v + 2 ≤ u)) (h : u ≤ v) : A := k.elim (·.1) fun x => absurd (Nat.le_trans x.2 h) (by omega)
theorem bit_eq {A : Prop} {u v : Nat} (k : (A ∧ u = v) ∨ (¬ A ∧ v + 2 ≤ u)) (h : A) : u = v := k.elim (·.2) fun x => absurd h x.1
theorem near_maj {a b c m : Nat} (ha : a < 16) (hb : b < 16) (hc : c < 16) (hm : m < 16) : hamN m a + hamN m b + hamN m c ≤ (hamN a c + hamN b a + hamN c b) / 2 ↔ m = majN a b c := by
  have key : ∀ i < 4, (bitN m i = bitN (majN a b c) i ∧ 2 * (dB (bitN m i) (bitN a i) + dB (bitN m i) (bitN b i) + dB (bitN m i) (bitN c i)) = dB (bitN a i) (bitN c i) + dB (bitN b i) (bitN a i) + dB (bitN c i) (bitN b i)) ∨ (bitN m i ≠ bitN (majN a b c) i ∧ dB (bitN a i) (bitN c i) + dB (bitN b i) (bitN a i) + dB (bitN c i) (bitN b i) + 2 ≤ 2 * (dB (bitN m i) (bitN a i) + dB (bitN m i) (bitN b i) + dB (bitN m i) (bitN c i))) := fun i hi => by
    rw [bits_maj ha hb hc hi]
    exact bit_way _ _ _ _
  rw [ham_bits m hm a ha, ham_bits m hm b hb, ham_bits m hm c hc, ham_bits a ha c hc, ham_bits b hb a ha, ham_bits c hc b hb, sum12, sum12]
  constructor
  · intro h
    have q := half_sum (bit_le (key 0 (by decide))) (bit_le (key 1 (by decide))) (bit_le (key 2 (by decide))) (bit_le (key 3 (by decide))) h
    refine bit_ext m hm _ (majN_lt ha hb hc) fun i hi => ?_
    match i, hi with
    | 0, hi => exact bitK (key 0 hi) q.1
    | 1, hi => exact bitK (key 1 hi) q.2.1
    | 2, hi => exact bitK (key 2 hi) q.2.2.1
    | 3, hi => exact bitK (key 3 hi) q.2.2.2
  · intro e
    exact half_eq (bit_eq (key 0 (by decide)) (by rw [e])) (bit_eq (key 1 (by decide)) (by rw [e])) (bit_eq (key 2 (by decide)) (by rw [e])) (bit_eq (key 3 (by decide)) (by rw [e]))
noncomputable def leftF (x y : Str) (l : Int) : Int := if 0 ≤ l then l - levF x y l else l
noncomputable def leftWs (x : Str) (ws : List Str) (l : Int) : Int := ws.foldl (fun l y => leftF x y l) l
theorem left_step {m a : Nat} (hm : m < 16) (ha : a < 16) {l : Int} (hl : l ≤ 4) : (0 ≤ l → (hamN m a : Int) ≤ l → leftF (wordN m) (wordN a) l = l - hamN m a) ∧ ((l < 0 ∨ l < hamN m a) → leftF (wordN m) (wordN a) l < 0) := by
  unfold leftF
  by_cases h0 : 0 ≤ l
  · rw [if_pos h0]
    obtain ⟨c, rfl⟩ := Int.eq_ofNat_of_zero_le h0
    have hv := lev_lo m hm a ha c (by omega)
    constructor
    · intro _ h
      rw [if_pos (by omega)] at hv
      omega
    · rintro (h | h)
      · omega
      · rw [if_neg (by omega)] at hv
        omega
  · rw [if_neg h0]
    exact ⟨fun h => absurd h h0, fun _ => by omega⟩
theorem left_three {m a b c : Nat} (hm : m < 16) (ha : a < 16) (hb : b < 16) (hc : c < 16) {l : Int} (h0 : 0 ≤ l) (hl : l ≤ 4) : 0 ≤ leftWs (wordN m) [wordN a, wordN b, wordN c] l ↔ ((hamN m a + hamN m b + hamN m c : Nat) : Int) ≤ l := by
  show 0 ≤ leftF (wordN m) (wordN c) (leftF (wordN m) (wordN b) (leftF (wordN m) (wordN a) l)) ↔ _
  obtain ⟨p1, p2⟩ := left_step hm ha hl
  by_cases h1 : (hamN m a : Int) ≤ l
  · have e1 := p1 h0 h1
    generalize leftF (wordN m) (wordN a) l = l1 at e1 ⊢
    obtain ⟨q1, q2⟩ := left_step (l := l1) hm hb (by omega)
    by_cases h2 : (hamN m b : Int) ≤ l1
    · have e2 := q1 (by omega) h2
      generalize leftF (wordN m) (wordN b) l1 = l2 at e2 ⊢
      obtain ⟨r1, r2⟩ := left_step (l := l2) hm hc (by omega)
      by_cases h3 : (hamN m c : Int) ≤ l2
      · have e3 := r1 (by omega) h3
        generalize leftF (wordN m) (wordN c) l2 = l3 at e3 ⊢
        omega
      · have e3 := r2 (.inr (by omega))
        omega
    · have e2 := q2 (.inr (by omega))
      generalize leftF (wordN m) (wordN b) l1 = l2 at e2 ⊢
      have e3 := (left_step (l := l2) hm hc (by omega)).2 (.inl e2)
      omega
  · have e1 := p2 (.inr (by omega))
    generalize leftF (wordN m) (wordN a) l = l1 at e1 ⊢
    have e2 := (left_step (l := l1) hm hb (by omega)).2 (.inl e1)
    generalize leftF (wordN m) (wordN b) l1 = l2 at e2 ⊢
    have e3 := (left_step (l := l2) hm hc (by omega)).2 (.inl e2)
    omega
noncomputable def halfI (a b c : Nat) : Int := ((0 : Int) + (hamN a c : Int) + (hamN b a : Int) + (hamN c b : Int)).fdiv 2
theorem half_is (a b c : Nat) : halfI a b c = (((hamN a c + hamN b a + hamN c b) / 2 : Nat) : Int) := by
  unfold halfI
  rw [Int.fdiv_eq_ediv_of_nonneg _ (by decide)]
  omega
noncomputable def okM (ns : List Int) (a b c m : Nat) : Bool := flN ns m && decide (0 ≤ leftWs (wordN m) [wordN a, wordN b, wordN c] (halfI a b c))
noncomputable def foundN (ns : List Int) (a b c k : Nat) : List Nat := (List.range k).filter (okM ns a b c)
theorem one_of : ∀ k < 16, (List.range 16).filter (fun m => m == k) = [k] := by decide +kernel
theorem found_is {ns : List Int} {a b c : Nat} (ha : a < 16) (hb : b < 16) (hc : c < 16) (hf : flN ns (majN a b c) = true) : foundN ns a b c 16 = [majN a b c] := by
  unfold foundN
  rw [← one_of _ (majN_lt ha hb hc)]
  refine List.filter_congr fun m hm => ?_
  have hm16 := List.mem_range.mp hm
  have hfar := ham_far ha hb hc
  have e : decide (0 ≤ leftWs (wordN m) [wordN a, wordN b, wordN c] (halfI a b c)) = (m == majN a b c) := by
    rw [Bool.eq_iff_iff, decide_eq_true_eq, beq_iff_eq, left_three hm16 ha hb hc (by rw [half_is]; omega) (by rw [half_is]; omega), half_is, ← near_maj ha hb hc hm16]
    omega
  unfold okM
  rw [e]
  by_cases q : m = majN a b c
  · rw [q, hf]; simp
  · have : (m == majN a b c) = false := by simpa using q
    rw [this, Bool.and_false]
theorem flag_maj {E : List (Int × Int)} {ns : List Int} (h : NdOk E ns) (eo : EOk E) {A B C : List Int} (ha : Run E A) (hb : Run E B) (hc : Run E C) : ∃ D, Run E D ∧ mkN D = majN (mkN A) (mkN B) (mkN C) := by
  obtain ⟨D, hD, hm⟩ := ha.maj hb hc
  obtain ⟨a1, a2⟩ := mkN_ok ha.nodup ha.in3
  obtain ⟨b1, b2⟩ := mkN_ok hb.nodup hb.in3
  obtain ⟨c1, c2⟩ := mkN_ok hc.nodup hc.in3
  obtain ⟨d1, d2⟩ := mkN_ok hD.nodup hD.in3
  refine ⟨D, hD, bit_ext _ d1 _ (majN_lt a1 b1 c1) fun i hi => ?_⟩
  rw [bits_maj a1 b1 c1 hi, Bool.eq_iff_iff, d2 i hi, hm]
  simp only [Bool.or_eq_true, Bool.and_eq_true, a2 i hi, b2 i hi, c2 i hi]
  exact or_assoc.symm
theorem led_is {E : List (Int × Int)} {m : Nat} {D ns : List Int} (hr : Run E D) (hm : mkN D = m) (h : LedR E (setN m) ns) : ns = setN m := by
  subst hm
  obtain ⟨h1, h2⟩ := mkN_ok hr.nodup hr.in3
  obtain ⟨D', n, hl, hp, hs⟩ := h.ex
  have hmem : ∀ t, t ∈ D ↔ t ∈ setN (mkN D) := fun t => by
    rw [mem_setN h1]
    constructor
    · intro ht
      have h3 := hr.in3 t ht
      obtain ⟨i, rfl⟩ := Int.eq_ofNat_of_zero_le h3.1
      have hi : i < 4 := by have := h3.2; omega
      exact ⟨i, hi, rfl, (h2 i hi).mpr ht⟩
    · rintro ⟨i, hi, rfl, hb⟩
      exact (h2 i hi).mp hb
  have he := hl.end_ hr hmem
  exact sorted_same hs (pick4_le _) (hp.nodup_iff.mpr hl.dn) (pick4_nodup _) fun t => by rw [hp.mem_iff, he t]
theorem at_LawG : True := by
  w_top off
  exact trivial
noncomputable def totI (a b c : Nat) : Nat → Int
  | 0 => 0
  | 1 => 0 + (hamN a c : Int)
  | 2 => 0 + (hamN a c : Int) + (hamN b a : Int)
  | _ => 0 + (hamN a c : Int) + (hamN b a : Int) + (hamN c b : Int)
noncomputable abbrev psG (e fl en wd : Nat) (T : Int) (t : Tok) : List (Str × Value) := [(("edges" : Str), .ref e), (("flags" : Str), .ref fl), (("ends" : Str), .ref en), (("words" : Str), .ref wd), (("total" : Str), .int T t)]
theorem word_len : ∀ m < 16, (wordN m).length = 4 := by decide +kernel
theorem sld_set (w : World) (mean) (mg mb) (x y : LE) (p q : Nat) (hp : p < 16) (hq : q < 16) (hx : IntsAre x.vs (setN p)) (hy : IntsAre y.vs (setN q)) :
    ConS w mean mg mb 440 1900 162 [.ref x.T, .ref y.T] [leO x, leO y] (fun r n => ∃ (t M U : Nat) (ms us : List Value) (km ku : Nat), r = .ref t ∧ n = [((t : Addr), ({ cls := .type "tuple", data := .seq #[.ref M, .ref U] } : Obj)), ((U : Addr), W.listOf (List.toArray us) ku), ((M : Addr), W.listOf (List.toArray ms) km), leO x, leO y] ∧ IntsAre ms (setN (andnN p q)) ∧ IntsAre us (setN (andnN q p)) ∧ ms.length + us.length = hamN p q ∧ ms.length ≤ 4 ∧ us.length ≤ 4) :=
  ConS.mono (sld_con w mean mg mb x.T y.T x.vs y.vs (setN p) (setN q) x.k y.k hx hy (ris_set hp).up (ris_set hq).up (ris_set hp).short (ris_set hq).short) fun r n ⟨t, M, U, ms, us, km, ku, e1, e2, _, i1, i2⟩ => by
    rw [set_sld p hp q hq] at i1 i2
    exact ⟨t, M, U, ms, us, km, ku, e1, e2, i1, i2, by rw [i1.length, i2.length]; exact set_ham p hp q hq, by rw [i1.length]; exact set_len (andn_lt hp), by rw [i2.length]; exact set_len (andn_lt hq)⟩
theorem lev_set (w : World) (mean) (mg mb) (p q : Nat) (hp : p < 16) (hq : q < 16) (tx ty tm : Tok) : Con w mean mg mb 440 1900 35 [.str (wordN p) tx, .str (wordN q) ty, .int 10 tm] [] (fun r n => n = [] ∧ ∃ t, r = .int (hamN p q : Int) t) :=
  Con.mono (lev_con w mean mg mb (wordN p) (wordN q) tx ty tm 10 (by rw [word_len p hp]; decide) (by rw [word_len q hq]; decide) (by rw [word_len p hp, word_len q hq]) (by decide)) fun r n ⟨e, t, er⟩ => ⟨e, t, by rw [er, lev_ten p hp q hq]⟩
theorem skip32 {a b c x y p : Addr × Obj} {r : List (Addr × Obj)} (h : p ∈ a :: b :: c :: r) : p ∈ a :: b :: c :: x :: y :: r := by
  rcases h with _ | ⟨_, _ | ⟨_, _ | ⟨_, h⟩⟩⟩
  · exact .head _
  · exact .tail _ (.head _)
  · exact mt2 (.head _)
  · exact mt4 (.tail _ h)
namespace S_law_dist
noncomputable def stm (w : World) (mean : ExcName → Option Value) (mg mb : Str → Option Value) (h₀ h : Heap) (L fa : Addr) (cd : Value) (s : Shared) (tk : Nat) (Q : Flow → Shared → Prop) (E : Value → Shared → Prop) (u : Str → Option Value) (a b c : Nat) (t0 : Tok) (rest : List (Addr × Obj)) : Prop := ∀ (G : LawG w mean mg mb h₀) (hE : PassesOwn (model Challenge.rw_om0134_01.row.prog w) (lawA w L fa cd) (lawEnv w L fa cd) E) (e fl en wd : Nat) (x0 x1 x2 : LE) (ws : List Value) (kn kw : Nat) (ha : a < 16) (hb : b < 16) (hc : c < 16) (i0 : IntsAre x0.vs (setN a)) (i1 : IntsAre x1.vs (setN b)) (i2 : IntsAre x2.vs (setN c)) (hws : StrsAre ws [wordN a, wordN b, wordN c]) (F : Fr h₀ L h (kstB u (psG e fl en wd 0 t0))) (N : News h₀ L h (((wd : Addr), W.listOf (List.toArray ws) kw) :: ((en : Addr), W.listOf (List.toArray [.ref x0.T, .ref x1.T, .ref x2.T]) kn) :: leO x0 :: leO x1 :: leO x2 :: rest)) (hQ : ∀ (t : Tok) (h' : Heap) (tk' : Nat) (u' : Str → Option Value), Fr h₀ L h' (kstB u' (psG e fl en wd (totI a b c 3) t)) → News h₀ L h' (((wd : Addr), W.listOf (List.toArray ws) kw) :: ((en : Addr), W.listOf (List.toArray [.ref x0.T, .ref x1.T, .ref x2.T]) kn) :: leO x0 :: leO x1 :: leO x2 :: rest) → Q .next { s with heap := h', toks := tk' }), wpAny (model Challenge.rw_om0134_01.row.prog w) (lawA w L fa cd) (exec (lawS w 13) (lawEnv w L fa cd)) Q E { s with heap := h, toks := tk }
noncomputable abbrev Dat := World × (ExcName → Option Value) × (Str → Option Value) × (Str → Option Value) × Heap × Heap × Addr × Addr × Value × Shared × Nat × (Flow → Shared → Prop) × (Value → Shared → Prop) × (Str → Option Value) × Nat × Nat × Nat × Tok × (List (Addr × Obj))
noncomputable def ok (p : Dat) : Prop := let q1 := p.2.2.2.2.2.2.2.2; let q2 := q1.2.2.2.2.2.2.2.2; stm p.1 p.2.1 p.2.2.1 p.2.2.2.1 p.2.2.2.2.1 p.2.2.2.2.2.1 p.2.2.2.2.2.2.1 p.2.2.2.2.2.2.2.1 q1.1 q1.2.1 q1.2.2.1 q1.2.2.2.1 q1.2.2.2.2.1 q1.2.2.2.2.2.1 q1.2.2.2.2.2.2.1 q1.2.2.2.2.2.2.2.1 q2.1 q2.2.1 q2.2.2
@[irreducible] noncomputable def cc : Dat := @Classical.epsilon Dat ⟨(world0, fun _ => none, fun _ => none, fun _ => none, {}, {}, (0 : Nat), (0 : Nat), .none, {}, 0, fun _ _ => True, fun _ _ => True, fun _ => none, 0, 0, 0, (0 : Nat), [])⟩ fun p => ¬ ok p
noncomputable def c1 := cc.2.2.2.2.2.2.2.2
noncomputable def c2 := c1.2.2.2.2.2.2.2.2
@[irreducible] noncomputable def w : World := cc.1
@[irreducible] noncomputable def mean : ExcName → Option Value := cc.2.1
@[irreducible] noncomputable def mg : Str → Option Value := cc.2.2.1
@[irreducible] noncomputable def mb : Str → Option Value := cc.2.2.2.1
@[irreducible] noncomputable def h₀ : Heap := cc.2.2.2.2.1
@[irreducible] noncomputable def h : Heap := cc.2.2.2.2.2.1
@[irreducible] noncomputable def L : Addr := cc.2.2.2.2.2.2.1
@[irreducible] noncomputable def fa : Addr := cc.2.2.2.2.2.2.2.1
@[irreducible] noncomputable def cd : Value := c1.1
@[irreducible] noncomputable def s : Shared := c1.2.1
@[irreducible] noncomputable def tk : Nat := c1.2.2.1
@[irreducible] noncomputable def Q : Flow → Shared → Prop := c1.2.2.2.1
@[irreducible] noncomputable def E : Value → Shared → Prop := c1.2.2.2.2.1
@[irreducible] noncomputable def u : Str → Option Value := c1.2.2.2.2.2.1
@[irreducible] noncomputable def a : Nat := c1.2.2.2.2.2.2.1
@[irreducible] noncomputable def b : Nat := c1.2.2.2.2.2.2.2.1
@[irreducible] noncomputable def c : Nat := c2.1
@[irreducible] noncomputable def t0 : Tok := c2.2.1
@[irreducible] noncomputable def rest : List (Addr × Obj) := c2.2.2
theorem core : stm w mean mg mb h₀ h L fa cd s tk Q E u a b c t0 rest := by
  intro G hE e fl en wd x0 x1 x2 ws kn kw ha hb hc i0 i1 i2 hws F N hQ
  revert hE
  unfold lawA lawEnv
  have eS := lawScope_eq w
  rw [show (hd.heap_1 w.params).lookup 203 = some ⟨_, _, .func (fnOf _ _ _ _ _ _ _ _ _ _ _ _), _⟩ from rfl] at eS
  dsimp only [scopeOf, fnOf] at eS
  have eT : lawS w 13 = Stmt.For _ _ _ _ _ := rfl
  rw [eS, eT]
  clear eS eT
  intro hE
  have B := G.below
  have X := G.inn
  revert X; k_fill; intro X
  have T := G.top
  dsimp only [kstB, psG] at F
  obtain ⟨w0, w1, w2, rfl⟩ : ∃ t0 t1 t2, ws = [.str (wordN a) t0, .str (wordN b) t1, .str (wordN c) t2] := by
    cases hws with
    | cons _ t0 h => cases h with
      | cons _ t1 h => cases h with
        | cons _ t2 h => cases h with
          | nil => exact ⟨t0, t1, t2, rfl⟩
  clear hws
  have hr : ∀ {x y : LE} {p q : Nat}, p < 16 → q < 16 → IntsAre x.vs (setN p) → IntsAre y.vs (setN q) → ∀ (all : List (Addr × Obj)), True := fun _ _ _ _ _ => trivial
  clear hr
  generalize hL0 : ((wd : Addr), W.listOf (List.toArray [.str (wordN a) w0, .str (wordN b) w1, .str (wordN c) w2]) kw) :: ((en : Addr), W.listOf (List.toArray [.ref x0.T, .ref x1.T, .ref x2.T]) kn) :: leO x0 :: leO x1 :: leO x2 :: rest = L0 at *
  refine For_turns (by assumption) ?_
  walk_at "k_to"
  rename Fr _ _ _ _ => F0
  rename News _ _ _ _ => N0
  refine for_range0 (n := 3) (fun i ps n => n = L0 ∧ ∃ t, ps = psG e fl en wd (totI a b c i) t)
    (psG e fl en wd 0 t0) rfl (by assumption) (by decide) F0 N0 (by exact ⟨rfl, rfl, rfl, rfl, rfl, trivial⟩) (by exact ⟨rfl, t0, rfl⟩) ?_ ?_
  · rintro I i t ps₁ u news₁ it h tk Pp hi hI hit ⟨rfl, t1, rfl⟩ F1 N1 hN - - hret
    (try dsimp only [kstB, psG] at F1)
    clear F0 N0; (try clear F); (try clear N)
    have hi3 : i = 0 ∨ i = 1 ∨ i = 2 := by omega
    subst hL0
    rcases hi3 with rfl | rfl | rfl
    all_goals
      walk_at "k_callR"
      rename Fr _ _ _ _ => F5
      rename News _ _ _ _ => N5
      refine use_conR (sld_set w mean mg mb _ _ _ _ ?_ ?_ (by assumption) (by assumption)) (by rintro r n ⟨t, M, U, ms, us, km, ku, _, rfl, _⟩ p hp; exact mt2 (.tail _ hp)) G F5 N5 (fun p hp => ?_) rfl (by first | assumption | rfl) rfl (Nat.le_of_ble_eq_true rfl) (Nat.le_of_ble_eq_true rfl) ?_
      · assumption
      · assumption
      · simp only [List.mem_cons, List.not_mem_nil, or_false] at hp ⊢; grind
      rintro r n h7 tk7 F7 N7 - ⟨tt, M, U, ms, us, km, ku, rfl, rfl, im, iu, hsum, zm, zu⟩
      clear F1 N1 F5 N5
      simp only [List.cons_append, List.nil_append] at N7
      replace N7 := news_sub N7 (fun p hp => skip32 hp)
      clear im iu
      walk_at "k_callR"
      rename Fr _ _ _ _ => F8
      rename News _ _ _ _ => N8
      refine use_conR (newsC := []) (lev_set w mean mg mb _ _ ?_ ?_ _ _ _).toS (fun _ _ _ _ q => nomatch q) G F8 N8 (fun _ q => nomatch q) (by rfl) (by first | assumption | rfl) (by rfl) (by exact Nat.le_of_ble_eq_true rfl) (by exact Nat.le_of_ble_eq_true rfl) ?_
      · assumption
      · assumption
      rintro r n h9 tk9 F9 N9 - ⟨rfl, t9, rfl⟩
      simp only [List.nil_append] at N9
      (try clear F7); (try clear N7); (try clear F8); (try clear N8)
      walk_at "k_run"
      rename Fr _ _ _ _ => F8
      rename News _ _ _ _ => N8
      refine hN _ ?_
      first
        | refine AtI.intro F8 N8 (psG e fl en wd (totI a b c (0 + 1)) _) _ (by exact ⟨rfl, rfl, rfl, rfl, rfl, trivial⟩) (mt2 (.tail _ (.head _))) (fun p hp => mt4 hp) (fun p hp => Nat.ne_of_lt (hI p hp)) ⟨rfl, _, rfl⟩
        | refine AtI.intro F8 N8 (psG e fl en wd (totI a b c (1 + 1)) _) _ (by exact ⟨rfl, rfl, rfl, rfl, rfl, trivial⟩) (mt2 (.tail _ (.head _))) (fun p hp => mt4 hp) (fun p hp => Nat.ne_of_lt (hI p hp)) ⟨rfl, _, rfl⟩
        | refine AtI.intro F8 N8 (psG e fl en wd (totI a b c (2 + 1)) _) _ (by exact ⟨rfl, rfl, rfl, rfl, rfl, trivial⟩) (mt2 (.tail _ (.head _))) (fun p hp => mt4 hp) (fun p hp => Nat.ne_of_lt (hI p hp)) ⟨rfl, _, rfl⟩
  · rintro ps₁ u news₁ h tk ⟨rfl, t, rfl⟩ F1 N1
    exact hQ t h tk _ F1 N1
theorem all (p : Dat) : ok p := drink _ ok (by with_unfolding_all exact core) p
end S_law_dist
theorem law_dist {w : World} {mean : ExcName → Option Value} {mg mb : Str → Option Value} {h₀ h : Heap} {L fa : Addr} {cd : Value} {s : Shared} {tk : Nat} {Q : Flow → Shared → Prop} {E : Value → Shared → Prop} {u : Str → Option Value}
    (G : LawG w mean mg mb h₀) (hE : PassesOwn (model Challenge.rw_om0134_01.row.prog w) (lawA w L fa cd) (lawEnv w L fa cd) E)
    (e fl en wd : Nat) (x0 x1 x2 : LE) (ws : List Value) (kn kw : Nat) (a b c : Nat) (t0 : Tok) (rest : List (Addr × Obj))
    (ha : a < 16) (hb : b < 16) (hc : c < 16)
    (i0 : IntsAre x0.vs (setN a)) (i1 : IntsAre x1.vs (setN b)) (i2 : IntsAre x2.vs (setN c)) (hws : StrsAre ws [wordN a, wordN b, wordN c])
    (F : Fr h₀ L h (kstB u (psG e fl en wd 0 t0)))
    (N : News h₀ L h (((wd : Addr), W.listOf (List.toArray ws) kw) :: ((en : Addr), W.listOf (List.toArray [.ref x0.T, .ref x1.T, .ref x2.T]) kn) :: leO x0 :: leO x1 :: leO x2 :: rest))
    (hQ : ∀ (t : Tok) (h' : Heap) (tk' : Nat) (u' : Str → Option Value), Fr h₀ L h' (kstB u' (psG e fl en wd (totI a b c 3) t)) → News h₀ L h' (((wd : Addr), W.listOf (List.toArray ws) kw) :: ((en : Addr), W.listOf (List.toArray [.ref x0.T, .ref x1.T, .ref x2.T]) kn) :: leO x0 :: leO x1 :: leO x2 :: rest) → Q .next { s with heap := h', toks := tk' }) : wpAny (model Challenge.rw_om0134_01.row.prog w) (lawA w L fa cd) (exec (lawS w 13) (lawEnv w L fa cd)) Q E { s with heap := h, toks := tk } :=
  S_law_dist.all (w, mean, mg, mb, h₀, h, L, fa, cd, s, tk, Q, E, u, a, b, c, t0, rest) G hE e fl en wd x0 x1 x2 ws kn kw ha hb hc i0 i1 i2 hws F N hQ
theorem at_LawI : True := by
  w_top off
  exact trivial
section
variable {w : World} {mean : ExcName → Option Value} {mg mb : Str → Option Value} {A : Around} {cn : Str} {cs : Scope} {L a : Addr} {ccd : Value} {cl : List (Str × Addr)} {h₀ : Heap} {m : Str → Option Value} {s : Shared} {Q E : Value → Shared → Prop} {all : List (Addr × Obj)} {x y : LE} {p q : Nat}
theorem use_both (G : LawG w mean mg mb h₀) (F : Fr h₀ L s.heap m) (N : News h₀ L s.heap all) (mx : leO x ∈ all) (my : leO y ∈ all) (hxy : @Ne Nat x.T y.T) (hp : p < 16) (hq : q < 16) (hx : IntsAre x.vs (setN p)) (hy : IntsAre y.vs (setN q))
    (hA : A.frames = some [envX cn cs L a ccd cl]) (hk : cs.kind = .function) (hh : A.handled = none) (hd : A.depth ≤ 430) (hu : A.units ≤ 1800)
    (h : ∀ (M : LE) h' tk', Fr h₀ L h' m → News h₀ L h' (leO M :: all) → (∀ z ∈ all, @Ne Nat z.1 M.T) → IntsAre M.vs (setN (p &&& q)) → Q (.ref M.T) { s with heap := h', toks := tk' }) :
    wpAny (model Challenge.rw_om0134_01.row.prog w) A (call (.ref 186) [.ref x.T, .ref y.T]) Q E s := by
  refine use_conR (newsC := [leO x, leO y]) (both_con w mean mg mb x.T y.T x.vs y.vs (setN p) (setN q) x.k y.k hx hy (ris_set hp) (ris_set hq) (by rw [set_sld p hp q hq]; exact ris_set (andn_lt hp)) hxy) (by rintro r n ⟨M, ms, km, _, rfl, _⟩ z hz; exact .tail _ hz) G F N (fun z hz => ?_) hA hk hh hd hu ?_
  · rcases List.mem_cons.mp hz with rfl | hz
    · exact mx
    · rw [List.mem_singleton.mp hz]; exact my
  · rintro r n h' tk' F' N' fr ⟨M, ms, km, rfl, rfl, o1, o2, im⟩
    rw [set_both p hp q hq] at im
    refine h ⟨M, ms, km⟩ h' tk' F' (news_sub N' fun z hz => ?_) (fr _ (.head _) fun z => ?_) im
    · rcases List.mem_cons.mp hz with rfl | hz
      · exact .head _
      · exact List.mem_append.mpr (.inr hz)
    · rcases List.mem_cons.mp z with z | z
      · exact absurd o1 (by rw [show @Eq Nat M x.T from z]; exact Nat.lt_irrefl _)
      · exact absurd o2 (by rw [show @Eq Nat M y.T from List.mem_singleton.mp z]; exact Nat.lt_irrefl _)
theorem use_either (G : LawG w mean mg mb h₀) (F : Fr h₀ L s.heap m) (N : News h₀ L s.heap all) (mx : leO x ∈ all) (my : leO y ∈ all) (hxy : @Ne Nat x.T y.T) (hp : p < 16) (hq : q < 16) (hx : IntsAre x.vs (setN p)) (hy : IntsAre y.vs (setN q))
    (hA : A.frames = some [envX cn cs L a ccd cl]) (hk : cs.kind = .function) (hh : A.handled = none) (hd : A.depth ≤ 430) (hu : A.units ≤ 1800)
    (h : ∀ (M : LE) h' tk', Fr h₀ L h' m → News h₀ L h' (leO M :: all) → (∀ z ∈ all, @Ne Nat z.1 M.T) → IntsAre M.vs (setN (p ||| q)) → Q (.ref M.T) { s with heap := h', toks := tk' }) :
    wpAny (model Challenge.rw_om0134_01.row.prog w) A (call (.ref 193) [.ref x.T, .ref y.T]) Q E s := by
  refine use_conR (newsC := [leO x, leO y]) (either_con w mean mg mb x.T y.T x.vs y.vs (setN p) (setN q) x.k y.k hx hy (ris_set hp) (ris_set hq) hxy (by rw [set_sld p hp q hq]; exact Nat.le_trans (set_len (andn_lt hq)) (by decide))) (by rintro r n ⟨M, ms, ns, km, _, rfl, _⟩ z hz; exact .tail _ hz) G F N (fun z hz => ?_) hA hk hh hd hu ?_
  · rcases List.mem_cons.mp hz with rfl | hz
    · exact mx
    · rw [List.mem_singleton.mp hz]; exact my
  · rintro r n h' tk' F' N' fr ⟨M, ms, ns, km, rfl, rfl, o1, o2, im, hpm, hso⟩
    have e9 := set_either hp hq hpm hso
    subst e9
    refine h ⟨M, ms, km⟩ h' tk' F' (news_sub N' fun z hz => ?_) (fr _ (.head _) fun z => ?_) im
    · rcases List.mem_cons.mp hz with rfl | hz
      · exact .head _
      · exact List.mem_append.mpr (.inr hz)
    · rcases List.mem_cons.mp z with z | z
      · exact absurd o1 (by rw [show @Eq Nat M x.T from z]; exact Nat.lt_irrefl _)
      · exact absurd o2 (by rw [show @Eq Nat M y.T from List.mem_singleton.mp z]; exact Nat.lt_irrefl _)
end
namespace S_law_shared
noncomputable def stm (w : World) (mean : ExcName → Option Value) (mg mb : Str → Option Value) (h₀ h : Heap) (L fa : Addr) (cd : Value) (s : Shared) (tk : Nat) (Q : Flow → Shared → Prop) (E : Value → Shared → Prop) (u : Str → Option Value) (e en fd kn a b c : Nat) (rest : List (Addr × Obj)) (r : List Stmt) : Prop := ∀ (G : LawG w mean mg mb h₀) (x0 x1 x2 : LE) (ha : a < 16) (hb : b < 16) (hc : c < 16) (i0 : IntsAre x0.vs (setN a)) (i1 : IntsAre x1.vs (setN b)) (i2 : IntsAre x2.vs (setN c)) (hord : @LT.lt Nat _ x0.T x1.T ∧ @LT.lt Nat _ x1.T x2.T) (F : Fr h₀ L h (kstB u [(("edges" : Str), .ref e), (("ends" : Str), .ref en), (("found" : Str), .ref fd)])) (N : News h₀ L h (((en : Addr), W.listOf (List.toArray [.ref x0.T, .ref x1.T, .ref x2.T]) kn) :: leO x0 :: leO x1 :: leO x2 :: rest)) (hQ : ∀ (S J : LE) (h' : Heap) (tk' : Nat) (u' : Str → Option Value), IntsAre S.vs (setN (majN a b c)) → IntsAre J.vs (setN (majN a b c)) → Fr h₀ L h' (kstB u' [(("edges" : Str), .ref e), (("found" : Str), .ref fd), (("shared" : Str), .ref S.T), (("joined" : Str), .ref J.T)]) →
      News h₀ L h' (leO J :: leO S :: rest) → (∀ z ∈ rest, @Ne Nat z.1 S.T) →
      wpAny (model Challenge.rw_om0134_01.row.prog w) (lawA w L fa cd) (execs r (lawEnv w L fa cd)) Q E { s with heap := h', toks := tk' }), wpAny (model Challenge.rw_om0134_01.row.prog w) (lawA w L fa cd) (execs (lawS w 16 :: lawS w 17 :: lawS w 18 :: r) (lawEnv w L fa cd)) Q E { s with heap := h, toks := tk }
noncomputable abbrev Dat := World × (ExcName → Option Value) × (Str → Option Value) × (Str → Option Value) × Heap × Heap × Addr × Addr × Value × Shared × Nat × (Flow → Shared → Prop) × (Value → Shared → Prop) × (Str → Option Value) × Nat × Nat × Nat × Nat × Nat × Nat × Nat × (List (Addr × Obj)) × List Stmt
noncomputable def ok (p : Dat) : Prop := let q1 := p.2.2.2.2.2.2.2.2; let q2 := q1.2.2.2.2.2.2.2.2; stm p.1 p.2.1 p.2.2.1 p.2.2.2.1 p.2.2.2.2.1 p.2.2.2.2.2.1 p.2.2.2.2.2.2.1 p.2.2.2.2.2.2.2.1 q1.1 q1.2.1 q1.2.2.1 q1.2.2.2.1 q1.2.2.2.2.1 q1.2.2.2.2.2.1 q1.2.2.2.2.2.2.1 q1.2.2.2.2.2.2.2.1 q2.1 q2.2.1 q2.2.2.1 q2.2.2.2.1 q2.2.2.2.2.1 q2.2.2.2.2.2.1 q2.2.2.2.2.2.2
@[irreducible] noncomputable def cc : Dat := @Classical.epsilon Dat ⟨(world0, fun _ => none, fun _ => none, fun _ => none, {}, {}, (0 : Nat), (0 : Nat), .none, {}, 0, fun _ _ => True, fun _ _ => True, fun _ => none, 0, 0, 0, 0, 0, 0, 0, [], [])⟩ fun p => ¬ ok p
noncomputable def c1 := cc.2.2.2.2.2.2.2.2
noncomputable def c2 := c1.2.2.2.2.2.2.2.2
@[irreducible] noncomputable def w : World := cc.1
@[irreducible] noncomputable def mean : ExcName → Option Value := cc.2.1
@[irreducible] noncomputable def mg : Str → Option Value := cc.2.2.1
@[irreducible] noncomputable def mb : Str → Option Value := cc.2.2.2.1
@[irreducible] noncomputable def h₀ : Heap := cc.2.2.2.2.1
@[irreducible] noncomputable def h : Heap := cc.2.2.2.2.2.1
@[irreducible] noncomputable def L : Addr := cc.2.2.2.2.2.2.1
@[irreducible] noncomputable def fa : Addr := cc.2.2.2.2.2.2.2.1
@[irreducible] noncomputable def cd : Value := c1.1
@[irreducible] noncomputable def s : Shared := c1.2.1
@[irreducible] noncomputable def tk : Nat := c1.2.2.1
@[irreducible] noncomputable def Q : Flow → Shared → Prop := c1.2.2.2.1
@[irreducible] noncomputable def E : Value → Shared → Prop := c1.2.2.2.2.1
@[irreducible] noncomputable def u : Str → Option Value := c1.2.2.2.2.2.1
@[irreducible] noncomputable def e : Nat := c1.2.2.2.2.2.2.1
@[irreducible] noncomputable def en : Nat := c1.2.2.2.2.2.2.2.1
@[irreducible] noncomputable def fd : Nat := c2.1
@[irreducible] noncomputable def kn : Nat := c2.2.1
@[irreducible] noncomputable def a : Nat := c2.2.2.1
@[irreducible] noncomputable def b : Nat := c2.2.2.2.1
@[irreducible] noncomputable def c : Nat := c2.2.2.2.2.1
@[irreducible] noncomputable def rest : List (Addr × Obj) := c2.2.2.2.2.2.1
@[irreducible] noncomputable def r : List Stmt := c2.2.2.2.2.2.2
theorem core : stm w mean mg mb h₀ h L fa cd s tk Q E u e en fd kn a b c rest r := by
  intro G x0 x1 x2 ha hb hc i0 i1 i2 hord F N hQ
  revert hQ
  unfold lawA lawEnv
  have eS := lawScope_eq w
  rw [show (hd.heap_1 w.params).lookup 203 = some ⟨_, _, .func (fnOf _ _ _ _ _ _ _ _ _ _ _ _), _⟩ from rfl] at eS
  dsimp only [scopeOf, fnOf] at eS
  have eT16 : lawS w 16 = Stmt.Assign _ _ _ := rfl
  have eT17 : lawS w 17 = Stmt.Assign _ _ _ := rfl
  have eT18 : lawS w 18 = Stmt.Assign _ _ _ := rfl
  rw [eS, eT16, eT17, eT18]
  clear eS eT16 eT17 eT18
  intro hQ
  have B := G.below
  have X := G.inn
  revert X; k_fill; intro X
  have T := G.top
  have ab := (and_lt16 a ha b hb)
  have bc := (and_lt16 b hb c hc)
  have ca := (and_lt16 c hc a ha)
  have s2 := (and_lt16 _ ab.1 _ bc.1)
  have j2 := (and_lt16 _ ab.2 _ bc.2)
  have n01 : @Ne Nat x0.T x1.T := Nat.ne_of_lt hord.1
  have n12 : @Ne Nat x1.T x2.T := Nat.ne_of_lt hord.2
  have n20 : @Ne Nat x2.T x0.T := Nat.ne_of_gt (Nat.lt_trans hord.1 hord.2)
  clear hord
  dsimp only [kstB] at F
  walk_at "k_callR"
  rename Fr _ _ _ _ => F1
  rename News _ _ _ _ => N1
  refine use_both G F1 N1 (.tail _ (.head _)) (mt2 (.head _)) n01 ha hb i0 i1 rfl (by first | assumption | rfl) rfl (Nat.le_of_ble_eq_true rfl) (Nat.le_of_ble_eq_true rfl) ?_
  rintro M1 h2 tk2 F2 N2 f2 im1
  (try clear F); (try clear N); (try clear F1); (try clear N1)
  walk_at "k_callR"
  rename Fr _ _ _ _ => F3
  rename News _ _ _ _ => N3
  refine use_both G F3 N3 (mt2 (.tail _ (.head _))) (mt4 (.head _)) n12 hb hc i1 i2 rfl (by first | assumption | rfl) rfl (Nat.le_of_ble_eq_true rfl) (Nat.le_of_ble_eq_true rfl) ?_
  rintro M2 h4 tk4 F4 N4 f4 im2
  (try clear F2); (try clear N2); (try clear F3); (try clear N3)
  walk_at "k_callR"
  rename Fr _ _ _ _ => F5
  rename News _ _ _ _ => N5
  refine use_either G F5 N5 (.tail _ (.head _)) (.head _) (f4 _ (.head _)) ab.1 bc.1 im1 im2 rfl (by first | assumption | rfl) rfl (Nat.le_of_ble_eq_true rfl) (Nat.le_of_ble_eq_true rfl) ?_
  rintro M3 h6 tk6 F6 N6 f6 im3
  (try clear F4); (try clear N4); (try clear F5); (try clear N5)
  walk_at "k_callR"
  rename Fr _ _ _ _ => F7
  rename News _ _ _ _ => N7
  refine use_both G F7 N7 (mt4 (mt2 (.head _))) (mt4 (.head _)) n20 hc ha i2 i0 rfl (by first | assumption | rfl) rfl (Nat.le_of_ble_eq_true rfl) (Nat.le_of_ble_eq_true rfl) ?_
  rintro M4 h8 tk8 F8 N8 f8 im4
  (try clear F6); (try clear N6); (try clear F7); (try clear N7)
  walk_at "k_callR"
  rename Fr _ _ _ _ => F9
  rename News _ _ _ _ => N9
  refine use_either G F9 N9 (.tail _ (.head _)) (.head _) (f8 _ (.head _)) s2.2 ca.1 im3 im4 rfl (by first | assumption | rfl) rfl (Nat.le_of_ble_eq_true rfl) (Nat.le_of_ble_eq_true rfl) ?_
  rintro S h10 tk10 F10 N10 f10 imS
  (try clear F8); (try clear N8); (try clear F9); (try clear N9)
  have N11 := news_sub N10 (news := ((en : Addr), W.listOf (List.toArray [.ref x0.T, .ref x1.T, .ref x2.T]) kn) :: leO x0 :: leO x1 :: leO x2 :: leO S :: rest) (fun p hp => by
    simp only [List.mem_cons] at hp ⊢; grind)
  have hfS : ∀ z ∈ rest, @Ne Nat z.1 S.T := fun z hz => f10 z (mt8 hz)
  clear N10 f2 f4 f6 f8 f10 im1 im2 im3 im4
  walk_at "k_callR"
  rename Fr _ _ _ _ => F21
  rename News _ _ _ _ => N21
  refine use_either G F21 N21 (.tail _ (.head _)) (mt2 (.head _)) n01 ha hb i0 i1 rfl (by first | assumption | rfl) rfl (Nat.le_of_ble_eq_true rfl) (Nat.le_of_ble_eq_true rfl) ?_
  rintro K1 h22 tk22 F22 N22 f22 imK1
  (try clear F20); (try clear N20); (try clear F21); (try clear N21)
  walk_at "k_callR"
  rename Fr _ _ _ _ => F23
  rename News _ _ _ _ => N23
  refine use_either G F23 N23 (mt2 (.tail _ (.head _))) (mt4 (.head _)) n12 hb hc i1 i2 rfl (by first | assumption | rfl) rfl (Nat.le_of_ble_eq_true rfl) (Nat.le_of_ble_eq_true rfl) ?_
  rintro K2 h24 tk24 F24 N24 f24 imK2
  (try clear F22); (try clear N22); (try clear F23); (try clear N23)
  walk_at "k_callR"
  rename Fr _ _ _ _ => F25
  rename News _ _ _ _ => N25
  refine use_both G F25 N25 (.tail _ (.head _)) (.head _) (f24 _ (.head _)) ab.2 bc.2 imK1 imK2 rfl (by first | assumption | rfl) rfl (Nat.le_of_ble_eq_true rfl) (Nat.le_of_ble_eq_true rfl) ?_
  rintro K3 h26 tk26 F26 N26 f26 imK3
  (try clear F24); (try clear N24); (try clear F25); (try clear N25)
  walk_at "k_callR"
  rename Fr _ _ _ _ => F27
  rename News _ _ _ _ => N27
  refine use_either G F27 N27 (mt4 (mt2 (.head _))) (mt4 (.head _)) n20 hc ha i2 i0 rfl (by first | assumption | rfl) rfl (Nat.le_of_ble_eq_true rfl) (Nat.le_of_ble_eq_true rfl) ?_
  rintro K4 h28 tk28 F28 N28 f28 imK4
  (try clear F26); (try clear N26); (try clear F27); (try clear N27)
  walk_at "k_callR"
  rename Fr _ _ _ _ => F29
  rename News _ _ _ _ => N29
  refine use_both G F29 N29 (.tail _ (.head _)) (.head _) (f28 _ (.head _)) j2.1 ca.2 imK3 imK4 rfl (by first | assumption | rfl) rfl (Nat.le_of_ble_eq_true rfl) (Nat.le_of_ble_eq_true rfl) ?_
  rintro J h30 tk30 F30 N30 f30 imJ
  (try clear F28); (try clear N28); (try clear F29); (try clear N29)
  rw [joined_maj a ha b hb c hc] at imJ
  walk_at "k_run"
  rename Fr _ _ _ _ => F31
  rename News _ _ _ _ => N31
  refine hQ S J _ _ _ imS imJ (AllAt.fr (ps := [(("edges" : Str), .ref e), (("found" : Str), .ref fd), (("shared" : Str), .ref S.T), (("joined" : Str), .ref J.T)]) (by exact ⟨rfl, rfl, rfl, rfl, trivial⟩) F31) (news_sub N31 fun p hp => ?_) hfS
  simp only [List.mem_cons] at hp ⊢; grind
theorem all (p : Dat) : ok p := drink _ ok (by with_unfolding_all exact core) p
end S_law_shared
theorem law_shared {w : World} {mean : ExcName → Option Value} {mg mb : Str → Option Value} {h₀ h : Heap} {L fa : Addr} {cd : Value} {s : Shared} {tk : Nat} {Q : Flow → Shared → Prop} {E : Value → Shared → Prop} {u : Str → Option Value}
    (G : LawG w mean mg mb h₀) (e en fd : Nat) (x0 x1 x2 : LE) (kn : Nat) (a b c : Nat) (rest : List (Addr × Obj)) (r : List Stmt)
    (ha : a < 16) (hb : b < 16) (hc : c < 16) (i0 : IntsAre x0.vs (setN a)) (i1 : IntsAre x1.vs (setN b)) (i2 : IntsAre x2.vs (setN c)) (hord : @LT.lt Nat _ x0.T x1.T ∧ @LT.lt Nat _ x1.T x2.T)
    (F : Fr h₀ L h (kstB u [(("edges" : Str), .ref e), (("ends" : Str), .ref en), (("found" : Str), .ref fd)]))
    (N : News h₀ L h (((en : Addr), W.listOf (List.toArray [.ref x0.T, .ref x1.T, .ref x2.T]) kn) :: leO x0 :: leO x1 :: leO x2 :: rest))
    (hQ : ∀ (S J : LE) (h' : Heap) (tk' : Nat) (u' : Str → Option Value), IntsAre S.vs (setN (majN a b c)) → IntsAre J.vs (setN (majN a b c)) → Fr h₀ L h' (kstB u' [(("edges" : Str), .ref e), (("found" : Str), .ref fd), (("shared" : Str), .ref S.T), (("joined" : Str), .ref J.T)]) →
      News h₀ L h' (leO J :: leO S :: rest) → (∀ z ∈ rest, @Ne Nat z.1 S.T) →
      wpAny (model Challenge.rw_om0134_01.row.prog w) (lawA w L fa cd) (execs r (lawEnv w L fa cd)) Q E { s with heap := h', toks := tk' }) : wpAny (model Challenge.rw_om0134_01.row.prog w) (lawA w L fa cd) (execs (lawS w 16 :: lawS w 17 :: lawS w 18 :: r) (lawEnv w L fa cd)) Q E { s with heap := h, toks := tk } :=
  S_law_shared.all (w, mean, mg, mb, h₀, h, L, fa, cd, s, tk, Q, E, u, e, en, fd, kn, a, b, c, rest, r) G x0 x1 x2 ha hb hc i0 i1 i2 hord F N hQ
theorem at_LawI2 : True := by
  w_top off
  exact trivial
section
variable {prog : Program} {w : World} {A : Around} {E : Value → Shared → Prop} {s : Shared} {h₀ : Heap} {L : Addr} {news : List (Addr × Obj)} {a b p q : Addr} {vs ws : List Value} {ns : List Int} {i j k l : Nat} {Q : Value → Shared → Prop}
theorem eq_same (N : News h₀ L s.heap news) (ha : (a, W.listOf (List.toArray vs) i) ∈ news) (hb : (b, W.listOf (List.toArray ws) j) ∈ news) (hv : IntsAre vs ns) (hw : IntsAre ws ns) (hu : A.units + 64 < cLine)
    (h : Q (.bool true) s) : wpAny (model prog w) A (compareOp .Eq (.ref a) (.ref b)) Q E s :=
  ke_eq_ints (PySem.IsL.isList (n := i) (N _ ha).1) (PySem.IsL.isList (n := j) (N _ hb).1) hv hw hu (by rw [decide_eq_true rfl]; exact h)
theorem eqv_one (ns : List Int) : PyData.eqv (.list [.list (ns.map PyData.int)]) (.list [.list (ns.map PyData.int)]) = true := by
  simp [PyData.eqv, PyData.eqvAll, ked_eqvAll]
theorem shaped_one (ns : List Int) : SeqAt.shaped (.list [.list (ns.map PyData.int)]) = true := by
  simp [SeqAt.shaped, PyData.canLay0, PyData.canLayAll0, PyData.depth, PyData.depthAll, ke_canLayAll0, ke_depthAll]
theorem eq_one (N : News h₀ L s.heap news) (ha : (a, W.listOf (List.toArray [.ref p]) i) ∈ news) (hb : (b, W.listOf (List.toArray [.ref q]) j) ∈ news) (hp : (p, W.listOf (List.toArray vs) k) ∈ news) (hq : (q, W.listOf (List.toArray ws) l) ∈ news) (hv : IntsAre vs ns) (hw : IntsAre ws ns) (hu : A.units + 64 < cLine)
    (h : Q (.bool true) s) : wpAny (model prog w) A (compareOp .Eq (.ref a) (.ref b)) Q E s := by
  have r : ∀ {p : Addr} {vs : List Value} {k : Nat}, (p, W.listOf (List.toArray vs) k) ∈ news → IntsAre vs ns → Reads s.heap (.ref p) (.list (ns.map PyData.int)) [p] := fun {p vs k} hp hv => reads_newData (PySem.IsL.isList (n := k) (N _ hp).1) (ke_carried hv)
  exact eq_dataH (reads_list_at (N _ ha).1 rfl rfl (.cons (r hp hv) .nil)) (reads_list_at (N _ hb).1 rfl rfl (.cons (r hq hw) .nil)) (shaped_one ns) (shaped_one ns) hu (by rw [eqv_one]; exact h)
end
theorem lines_LawI2_1659 : True := by
  k_with "k_cmp" => repeat' (first | ((fail_if_success (with_reducible show wpAny _ _ (compareOp _ (Value.ref _) (Value.ref _)) _ _ _)); (fail_if_success (with_reducible show wpAny _ _ (call (Value.ref _) _) _ _ _)); first | (k_unfold; (try dsimp only)) | walk1) | (dsimp only; (fail_if_success (with_reducible show wpAny _ _ (compareOp _ (Value.ref _) (Value.ref _)) _ _ _)); (fail_if_success (with_reducible show wpAny _ _ (call (Value.ref _) _) _ _ _)); walk1) | fail "no step")
  exact trivial
theorem law_return {w : World} {mean : ExcName → Option Value} {mg mb : Str → Option Value} {h₀ h : Heap} {L fa : Addr} {cd : Value} {s : Shared} {tk : Nat} {Q : Flow → Shared → Prop} {E : Value → Shared → Prop} {u : Str → Option Value}
    (G : LawG w mean mg mb h₀) (e fd : Nat) (S J st : LE) (kf ke M : Nat) (D : List Int) (tl : List TE)
    (hM : M < 16) (iS : IntsAre S.vs (setN M)) (iJ : IntsAre J.vs (setN M)) (iT : IntsAre st.vs (setN M))
    (hle : tl.length ≤ 4) (hr : ∀ x ∈ tl, (0 ≤ x.a ∧ x.a ≤ 3) ∧ (0 ≤ x.b ∧ x.b ≤ 3) ∧ x.a ≠ x.b) (hD : Run (edgF tl) D) (hDM : mkN D = M)
    (hS : ∀ q ∈ ((e : Addr), W.listOf (List.toArray (tupV tl)) ke) :: tupL tl, @Ne Nat S.T q.1)
    (F : Fr h₀ L h (kstB u [(("edges" : Str), .ref e), (("found" : Str), .ref fd), (("shared" : Str), .ref S.T), (("joined" : Str), .ref J.T)]))
    (N : News h₀ L h (((fd : Addr), W.listOf (List.toArray [.ref st.T]) kf) :: leO st :: leO J :: leO S :: ((e : Addr), W.listOf (List.toArray (tupV tl)) ke) :: tupL tl))
    (hQ : ∀ (h' : Heap) (tk' : Nat) (m' : Str → Option Value), Fr h₀ L h' m' → Q (.ret (.bool true)) { s with heap := h', toks := tk' }) :
    wpAny (model Challenge.rw_om0134_01.row.prog w) (lawA w L fa cd) (execs [lawS w 19] (lawEnv w L fa cd)) Q E { s with heap := h, toks := tk } := by
  revert hQ
  unfold lawA lawEnv
  have eS := lawScope_eq w
  rw [show (hd.heap_1 w.params).lookup 203 = some ⟨_, _, .func (fnOf _ _ _ _ _ _ _ _ _ _ _ _), _⟩ from rfl] at eS
  dsimp only [scopeOf, fnOf] at eS
  have eT : lawS w 19 = Stmt.Return _ _ := rfl
  rw [eS, eT]
  clear eS eT
  intro hQ
  have B := G.below
  have X := G.inn
  revert X; k_fill; intro X
  have T := G.top
  have hl4 := set_len hM
  dsimp only [kstB, leO] at F N
  walk_at "k_cmp"
  rename Fr _ _ _ _ => F1
  rename News _ _ _ _ => N1
  refine eq_one N1 (.tail _ (.head _)) (.head _) (mt2 (.head _)) (mt4 (.head _)) iT iS (Nat.le_of_ble_eq_true rfl) ?_
  walk_at "k_cmp"
  rename Fr _ _ _ _ => F2
  rename News _ _ _ _ => N2
  refine eq_same N2 (mt2 (.tail _ (.head _))) (mt4 (.head _)) iJ iS (Nat.le_of_ble_eq_true rfl) ?_
  walk_at "k_cmp"
  rename Fr _ _ _ _ => F3
  rename News _ _ _ _ => N3
  refine use_conR (newsC := leO S :: ((e : Addr), W.listOf (List.toArray (tupV tl)) ke) :: tupL tl) (led_con w mean mg mb e S.T tl ke hle hr S.vs (setN M) S.k iS hl4 hS) (by rintro r n ⟨M, ms, ns, km, _, rfl, _⟩ z hz; exact .tail _ hz) G F3 N3 (fun z hz => mt4 hz) rfl (by first | assumption | rfl) rfl (Nat.le_of_ble_eq_true rfl) (Nat.le_of_ble_eq_true rfl) ?_
  rintro r n h4 tk4 F4 N4 f4 ⟨K, ms, ns, km, rfl, rfl, ims, hled⟩
  have e9 := led_is hD hDM hled
  subst e9
  have N5 := news_sub N4 (news := [((K : Addr), W.listOf (List.toArray ms) km), (S.T, W.listOf (List.toArray S.vs) S.k)]) (fun p hp => by
    rcases List.mem_cons.mp hp with rfl | hp
    · exact .head _
    · rw [List.mem_singleton.mp hp]
      exact .tail _ (.head _))
  (try clear F1); (try clear N1); (try clear F2); (try clear N2); (try clear F3); (try clear N3); (try clear N4); (try clear F); (try clear N)
  walk_at "k_cmp"
  rename Fr _ _ _ _ => F6
  rename News _ _ _ _ => N6
  refine eq_same N6 (.head _) (.tail _ (.head _)) ims iS (Nat.le_of_ble_eq_true rfl) ?_
  walk_at "k_run"
  exact hQ _ _ _ (by assumption)
theorem at_LawEBase : True := by
  w_top off
  exact trivial
structure SE where
  A : SA
  V : SV
  n : Int → Int
  o : Nat
  ov : List Value
  ok : Nat
  of : List Int
  r : Nat
  rv : List Value
  rk : Nat
  D : List Int
noncomputable def partE (w : World) (x : SE) : List (Addr × Obj) := ((x.o : Addr), W.listOf (List.toArray x.ov) x.ok) :: ((x.r : Addr), W.listOf (List.toArray x.rv) x.rk) :: sorN w x.A x.V x.n
noncomputable def chunkE (w : World) : List SE → List (Addr × Obj)
  | [] => []
  | x :: r => partE w x ++ chunkE w r
noncomputable def adrE (x : SE) : List Nat := x.o :: x.r :: x.A.R :: adrN x.A
theorem cut_len {a b : Nat} (h : a < b) (h4 : b ≤ 4) : min a b + (b - (a + 1)) ≤ 4 := by omega
theorem toNat_below {z : Int} {n : Nat} (h : 0 ≤ z) (h2 : z < (n : Int)) : z.toNat < n := by omega
theorem partE_adr {w : World} {x : SE} : (partE w x).map (·.1) = adrE x := rfl
theorem partE_in {w : World} {x : SE} {p : Addr × Obj} (h : p ∈ partE w x) : p.1 ∈ adrE x := by
  have h9 := List.mem_map_of_mem (f := fun p : Addr × Obj => p.1) h
  rw [partE_adr] at h9
  exact h9
structure SepE (el : List SE) (l : List (Addr × Obj)) : Prop where
  two : el.Pairwise fun x y => ∀ a ∈ adrE x, a ∉ adrE y
  off : ∀ x ∈ el, ∀ a ∈ adrE x, ∀ q ∈ l, @Ne Nat a q.1
  own : ∀ x ∈ el, @Ne Nat x.o x.r ∧ x.o ∉ x.A.R :: adrN x.A ∧ x.r ∉ x.A.R :: adrN x.A
structure SEok (w : World) (E : List (Int × Int)) (x : SE) : Prop where
  ok : SorOk w x.A x.V E []
  inv : Inv E x.D x.n []
  ov : IntsAre x.ov x.of
  rv : IntsAre x.rv x.D.reverse
  nod : x.of.Nodup
  mem : ∀ t, t ∈ x.of ↔ OutI x.D x.n t
  run : Run E x.D
theorem chunkE_app {w : World} (a b : List SE) : chunkE w (a ++ b) = chunkE w a ++ chunkE w b := by
  induction a with
  | nil => rfl
  | cons x a ih => show partE w x ++ chunkE w (a ++ b) = (partE w x ++ chunkE w a) ++ chunkE w b; rw [ih, List.append_assoc]
theorem chunkE_mem {w : World} (el : List SE) : ∀ p ∈ chunkE w el, ∃ x ∈ el, p.1 ∈ adrE x := by
  induction el with
  | nil => intro p hp; cases hp
  | cons x r ih =>
    intro p hp
    rcases List.mem_append.mp hp with hp | hp
    · exact ⟨x, List.mem_cons_self .., partE_in hp⟩
    · obtain ⟨y, hy, h⟩ := ih p hp
      exact ⟨y, List.mem_cons_of_mem _ hy, h⟩
theorem chunkE_has {w : World} (el : List SE) : ∀ x ∈ el, ∀ a ∈ adrE x, ∃ p ∈ chunkE w el, @Eq Nat p.1 a := by
  induction el with
  | nil => intro x hx; cases hx
  | cons y r ih =>
    intro x hx a ha
    rcases List.mem_cons.mp hx with e | hx
    · rw [e, ← partE_adr (w := w)] at ha
      obtain ⟨p, hp, e9⟩ := List.mem_map.mp ha
      exact ⟨p, List.mem_append.mpr (.inl hp), e9⟩
    · obtain ⟨p, hp, e9⟩ := ih x hx a ha
      exact ⟨p, List.mem_append.mpr (.inr hp), e9⟩
theorem chunkE_pick {w : World} {pre post : List SE} {x : SE} : ∀ p, p ∈ chunkE w (pre ++ x :: post) ↔ p ∈ partE w x ∨ p ∈ chunkE w (pre ++ post) := by
  intro p
  rw [chunkE_app, chunkE_app, show chunkE w (x :: post) = partE w x ++ chunkE w post from rfl]
  simp only [List.mem_append]
  constructor
  · rintro (h | h | h)
    · exact .inr (.inl h)
    · exact .inl h
    · exact .inr (.inr h)
  · rintro (h | h | h)
    · exact .inr (.inl h)
    · exact .inl h
    · exact .inr (.inr h)
theorem SepE.pick {pre post : List SE} {x : SE} {l : List (Addr × Obj)} {w : World} (h : SepE (pre ++ x :: post) l) : ∀ a ∈ adrE x, ∀ q ∈ chunkE w (pre ++ post) ++ l, @Ne Nat a q.1 := by
  intro a ha q hq
  rcases List.mem_append.mp hq with hq | hq
  · obtain ⟨y, hy, hq'⟩ := chunkE_mem _ q hq
    have h2 := List.pairwise_append.mp h.two
    have h3 := List.pairwise_cons.mp h2.2.1
    rcases List.mem_append.mp hy with hy | hy
    · intro e
      exact h2.2.2 y hy x (List.mem_cons_self ..) q.1 hq' (e ▸ ha)
    · intro e
      exact h3.1 y hy a ha (e ▸ hq')
  · exact h.off x (List.mem_append.mpr (.inr (List.mem_cons_self ..))) a ha q hq
theorem SepE.put {pre post : List SE} {x x' : SE} {l l' : List (Addr × Obj)} (h : SepE (pre ++ x :: post) l) (e : adrE x' = adrE x) (hA : x'.A = x.A) (hl : ∀ q ∈ l', ∃ q' ∈ l, q'.1 = q.1) : SepE (pre ++ x' :: post) l' := by
  have ho : x'.o = x.o := (List.cons.inj e).1
  have hr : x'.r = x.r := (List.cons.inj (List.cons.inj e).2).1
  refine ⟨?_, fun y hy a ha q hq => ?_, fun y hy => ?_⟩
  · have h2 := List.pairwise_append.mp h.two
    have h3 := List.pairwise_cons.mp h2.2.1
    refine List.pairwise_append.mpr ⟨h2.1, List.pairwise_cons.mpr ⟨fun y hy a ha => h3.1 y hy a (e ▸ ha), h3.2⟩, fun y hy z hz => ?_⟩
    rcases List.mem_cons.mp hz with rfl | hz
    · rw [e]; exact h2.2.2 y hy x (List.mem_cons_self ..)
    · exact h2.2.2 y hy z (List.mem_cons_of_mem _ hz)
  · obtain ⟨q', hq', eq⟩ := hl q hq
    rw [← eq]
    rcases List.mem_append.mp hy with hy | hy
    · exact h.off y (List.mem_append.mpr (.inl hy)) a ha q' hq'
    · rcases List.mem_cons.mp hy with rfl | hy
      · exact h.off x (List.mem_append.mpr (.inr (List.mem_cons_self ..))) a (e ▸ ha) q' hq'
      · exact h.off y (List.mem_append.mpr (.inr (List.mem_cons_of_mem _ hy))) a ha q' hq'
  · rcases List.mem_append.mp hy with hy | hy
    · exact h.own y (List.mem_append.mpr (.inl hy))
    · rcases List.mem_cons.mp hy with rfl | hy
      · rw [ho, hr, hA]; exact h.own x (List.mem_append.mpr (.inr (List.mem_cons_self ..)))
      · exact h.own y (List.mem_append.mpr (.inr (List.mem_cons_of_mem _ hy)))
section
variable {prog : Program} {w : World} {A : Around} {E : Value → Shared → Prop} {s : Shared} {h₀ : Heap} {L D : Addr} {m : Str → Option Value} {news : List (Addr × Obj)} {n : Nat}
theorem cut_at_idx : ∀ (vs : List Value) (k : Nat) (h : k < vs.length), kl_cut vs k = some (vs.take k, vs[k], vs.drop (k + 1)) := by
  intro vs
  induction vs with
  | nil => intro k h; exact absurd h (Nat.not_lt_zero _)
  | cons v r ih =>
    intro k h
    cases k with
    | zero => rfl
    | succ k =>
      have h' : k < r.length := by rw [List.length_cons] at h; omega
      show (match kl_cut r k with | some (p, y, q) => some (v :: p, y, q) | none => none) = _
      rw [ih k h']
      rfl
theorem ints_cut {vs : List Value} {ns : List Int} (h : IntsAre vs ns) (k : Nat) : IntsAre (vs.take k ++ vs.drop (k + 1)) (ns.take k ++ ns.drop (k + 1)) := by
  induction h generalizing k with
  | nil => simp; exact .nil
  | cons x t r ih =>
    cases k with
    | zero => simpa using r
    | succ k => simpa using IntsAre.cons x t (ih k)
theorem pop_ints {i : Int} {u : Tok} {vs : List Value} {ns : List Int} {Q : Value → Shared → Prop} {news' : List Value → List (Addr × Obj)} (F : Fr h₀ L s.heap m) (N : News h₀ L s.heap news) (hi : IntsAre vs ns) (h0 : 0 ≤ i ∧ i < ns.length) (hz : ns.length ≤ 1000)
    (U : ∀ ms, Upd D (W.listOf (List.toArray vs) n) (W.listOf (List.toArray ms) (n + 1)) news (news' ms))
    (h : ∀ h' t ms, Fr h₀ L h' m → News h₀ L h' (news' ms) → IntsAre ms (ns.take i.toNat ++ ns.drop (i.toNat + 1)) → Q (.int (ns.getD i.toNat 0) t) { s with heap := h' }) : wpAny (model prog w) A (call (.builtin "list.pop") [.ref D, .int i u]) Q E s := by
  have hl := hi.length
  have hk : i.toNat < vs.length := by omega
  have hsz : sizeLine = 16777216 := rfl
  obtain ⟨x, t, ev, hx⟩ := IntsAre.at hi i.toNat vs[i.toNat] (List.getElem?_eq_getElem hk)
  have hxe : ns.getD i.toNat 0 = x := by rw [List.getD_eq_getElem?_getD, hx]; rfl
  refine kl_popAt (k := i.toNat) (p := vs.take i.toNat) (q := vs.drop (i.toNat + 1)) (y := vs[i.toNat]) F N ?_ ?_ (cut_at_idx vs i.toNat hk) (U _) (by show vs.length ≤ _; omega) fun h' F' N' => ?_
  · unfold Builtin.List.listFitsIndex
    rw [Bool.and_eq_true, decide_eq_true_eq, decide_eq_true_eq]
    omega
  · unfold seqIndex?
    rw [List.size_toArray]
    simp only [if_neg (show ¬ i < 0 by omega)]
    rw [if_pos (by rw [Bool.and_eq_true, decide_eq_true_eq, decide_eq_true_eq]; omega)]
  · rw [ev, ← hxe]
    exact h h' t _ F' N' (ints_cut hi _)
end
theorem lines_LawEBase_1685 : True := by
  k_with "call builtin:list.pop" => ((with_reducible show wpAny _ _ (call (Value.builtin _) [Value.ref _, Value.int _ _]) _ _ _); k_dflt (refine' pop_ints ?Fₖ₈₁ ?Nₖ₈₁ ?iₖ₈₁ ?zₖ₈₁ ?yₖ₈₁ ?Uₖ₈₁ ?_; (case Fₖ₈₁ => k_asm); (case Nₖ₈₁ => k_asm); (case iₖ₈₁ => with_reducible assumption); (case zₖ₈₁ => first | with_reducible assumption | omega); (case yₖ₈₁ => omega); (case Uₖ₈₁ => (intro k'ₖ; k_upd))); intro h'ₖ t'ₖ ms'ₖ F'ₖ N'ₖ hi'ₖ; (try dsimp only at N'ₖ); (try k_sweep))
  exact trivial
section
variable {prog : Program} {w : World} {A : Around} {E : Value → Shared → Prop} {s : Shared} {h₀ : Heap} {L D b : Addr} {m : Str → Option Value} {news : List (Addr × Obj)} {ms ws : List Value} {nm nw : List Int} {n : Nat}
theorem ext_tup {Q : Value → Shared → Prop} {news' : Nat → List (Addr × Obj)} (F : Fr h₀ L s.heap m) (N : News h₀ L s.heap news) (hb : (b, ({ cls := .type "tuple", data := .seq ws.toArray } : Obj)) ∈ news)
    (U : ∀ k, Upd D (W.listOf (List.toArray ms) n) (W.listOf (List.toArray (ms ++ ws)) k) news (news' k)) (hi : IntsAre ms nm) (hj : IntsAre ws nw) (hz : nm.length + nw.length ≤ 1000)
    (h : ∀ h' k, Fr h₀ L h' m → News h₀ L h' (news' k) → IntsAre (ms ++ ws) (nm ++ nw) → Q .none { s with heap := h' }) :
    wpAny (model prog w) A (call (.builtin "list.extend") [.ref D, .ref b]) Q E s := by
  have l1 : ms.length = nm.length := hi.length
  have l2 : ws.length = nw.length := hj.length
  have hI := intsAre_append hi hj
  have hlong : ¬(!(List.toArray ms).isEmpty && Builtin.List.listTooLong ((List.toArray ms).size + (List.toArray ws).size)) = true := by
    rw [List.size_toArray, List.size_toArray, not_long _ (by omega), Bool.and_false]
    exact Bool.false_ne_true
  have hsz : sizeLine = 16777216 := rfl
  have z1 : (List.toArray ms).size ≤ sizeLine := by rw [List.size_toArray]; omega
  have z2 : (List.toArray ms).size + (List.toArray ws).size ≤ sizeLine + 1 := by rw [List.size_toArray, List.size_toArray]; omega
  by_cases e : ws = []
  · subst e
    have U0 := U n
    have e2 : ms ++ [] = ms := List.append_nil ms
    rw [e2] at U0
    obtain ⟨pre, post, e3, e4, a, c⟩ := U0.split
    have hDm : (D, W.listOf (List.toArray ms) n) ∈ news := by rw [e3]; exact List.mem_append.mpr (.inr (.head _))
    have z := N _ hDm
    refine call_meets PySem.F.slot_list_extend ⟨_, z.1, rfl⟩ PySem.F.entry_list_extend (PySem.F.args_list_extend_2 _ _) (PySem.AutoSeq1.list_extend_list_tuple_0 D (List.toArray ms) n b (List.toArray []) 0 hlong z1 z2) ⟨z.1, (N _ hb).1, h _ n (F.change (Heap.SameBut.update ..) z.2.1 z.2.2) ?_ hI⟩
    rw [e4]
    rw [e3] at N
    exact kl_turn0 (fun x => x ++ #[]) N a c (by simp) rfl
  · have U1 := U (n + 1)
    obtain ⟨pre, post, e3, e4, a, c⟩ := U1.split
    have hDm : (D, W.listOf (List.toArray ms) n) ∈ news := by rw [e3]; exact List.mem_append.mpr (.inr (.head _))
    have z := N _ hDm
    refine call_meets PySem.F.slot_list_extend ⟨_, z.1, rfl⟩ PySem.F.entry_list_extend (PySem.F.args_list_extend_2 _ _) (PySem.AutoSeq1.list_extend_list_tuple_0 D (List.toArray ms) n b (List.toArray ws) 0 hlong z1 z2) ⟨z.1, (N _ hb).1, h _ (n + 1) (F.change (Heap.SameBut.update ..) z.2.1 z.2.2) ?_ hI⟩
    rw [e4]
    rw [e3] at N
    refine kl_turn _ N a c ?_ ?_
    · apply Array.toList_inj.mp
      simp
    · simp
      exact e
end
theorem lines_LawEBase_1690 : True := by
  k_with "call builtin:list.extend" => ((with_reducible show wpAny _ _ (call (Value.builtin _) [Value.ref _, Value.ref _]) _ _ _); k_dflt (refine' ext_tup ?Fₖ₈₂ ?Nₖ₈₂ ?bₖ₈₂ ?Uₖ₈₂ ?iₖ₈₂ ?jₖ₈₂ ?zₖ₈₂ ?_; (case Fₖ₈₂ => k_asm); (case Nₖ₈₂ => k_asm); (case bₖ₈₂ => k_mem); (case Uₖ₈₂ => (intro k'ₖ; k_upd)); (case iₖ₈₂ => with_reducible assumption); (case jₖ₈₂ => with_reducible assumption); (case zₖ₈₂ => omega)); intro h'ₖ k'ₖ F'ₖ N'ₖ hi'ₖ; (try dsimp only at N'ₖ); (try k_sweep))
  exact trivial
theorem sum_mk (D : List Int) : ((D.reverse).map fun t => (1 : Int) * 2 ^ t.toNat).sum = ((mkN D : Nat) : Int) := by
  induction D with
  | nil => rfl
  | cons x D ih =>
    rw [List.reverse_cons, List.map_append, List.sum_append, ih, mkN]
    simp
noncomputable def freeI (ns : List Int) (M t : Int) : Bool := decide (Builtin.bitAnd (M.fdiv (2 ^ t.toNat)) 1 = 0) && decide (Builtin.bitAnd (ns.getD t.toNat 0) M = ns.getD t.toNat 0)
theorem free_yes {ns : List Int} {M t : Int} (h1 : Builtin.bitAnd (M.fdiv (2 ^ t.toNat)) 1 = 0) (h2 : Builtin.bitAnd (ns.getD t.toNat 0) M = ns.getD t.toNat 0) : freeI ns M t = true := by
  rw [freeI, decide_eq_true h1, decide_eq_true h2]; rfl
theorem free_no1 {ns : List Int} {M t : Int} (h1 : Builtin.bitAnd (M.fdiv (2 ^ t.toNat)) 1 ≠ 0) : freeI ns M t = false := by
  rw [freeI, decide_eq_false h1]; rfl
theorem free_no2 {ns : List Int} {M t : Int} (h2 : Builtin.bitAnd (ns.getD t.toNat 0) M ≠ ns.getD t.toNat 0) : freeI ns M t = false := by
  rw [freeI, decide_eq_false h2, Bool.and_false]
structure NeS (a b : Nat) : Prop where
  ne : a ≠ b
theorem lines_LawEBase_1697 : True := by
  k_with "k_ne" => first | exact NeS.ne (by with_reducible assumption) | exact (NeS.ne (by with_reducible assumption)).symm | (refine neN ?_; (try dsimp only); omega)
  k_with "subscriptTail" => ((with_reducible show wpAny _ _ (subscriptTail _ _ (Value.ref _) (Value.int _ _)) _ _ _); k_dflt (refine' item_val ?Nₖ₈₄ ?mₖ₈₄ ?h0ₖ₈₄ ?zₖ₈₄ ?kₖ₈₄ ?_ ?sₖ₈₄; (case Nₖ₈₄ => k_asm); (case mₖ₈₄ => k_mem); (case kₖ₈₄ => with_reducible assumption); (case h0ₖ₈₄ => omega); (case zₖ₈₄ => omega); (case sₖ₈₄ => with_unfolding_all rfl)))
  exact trivial
theorem at_LawE1 : True := by
  w_top off
  exact trivial
noncomputable def bodyS : Stmt → List Stmt
  | .For _ _ b _ _ => b
  | .If _ b _ _ => b
  | _ => []
noncomputable def s9if (w : World) : Stmt := (bodyS ((bodyS (lawS w 9)).getD 1 (.Pass ⟨0,0,0,0⟩))).getD 6 (.Pass ⟨0,0,0,0⟩)
theorem turn_end {w : World} {mean : ExcName → Option Value} {mg mb : Str → Option Value} {h₀ h : Heap} {L fa : Addr} {cd : Value} {s : Shared} {tk : Nat} {Q : Flow → Shared → Prop} {E : Value → Shared → Prop} {u : Str → Option Value}
    (G : LawG w mean mg mb h₀) (sc : Scope) (hsc : lawScope w = sc) (st : Stmt) (hst : s9if w = st)
    (fl of xo fr : Nat) (ovs ov pv : List Value) (off pk : List Int) (bs : List Bool) (kf ko kx kp : Nat) (oM : Obj) (M wi : Int) (tM tw : Tok) (rest : List (Addr × Obj))
    (hw : 0 ≤ wi ∧ wi < 3) (hov3 : ovs.length = 3) (hxo : ovs[wi.toNat]? = some (.ref xo)) (hov : IntsAre ov off) (hol : off.length ≤ 8) (hpv : IntsAre pv pk) (hpl : pk.length ≤ 8)
    (c2 : oM.data = .cell (some (.int M tM))) (hM : 0 ≤ M ∧ M ≤ 15) (hbl : bs.length = 16) (hb : atB bs M = true) (hs : ∀ l : List Int, l.Perm off → l.Pairwise (fun x y => x ≤ y) → l = pk)
    (F : Fr h₀ L h (kstB u [(("flags" : Str), .ref fl), (("offers" : Str), .ref of), (("who" : Str), .int wi tw), (("free" : Str), .ref fr)]))
    (N : News h₀ L h (((fr : Addr), W.listOf (List.toArray pv) kp) :: ((xo : Addr), W.listOf (List.toArray ov) kx) :: ((of : Addr), W.listOf (List.toArray ovs) ko) :: ((fl : Addr), W.listOf (List.toArray (bs.map Value.bool)) kf) :: (L + 1 + 1, oM) :: rest))
    (hQ : ∀ (h' : Heap) (tk' : Nat), Fr h₀ L h' (kstB u [(("flags" : Str), .ref fl), (("offers" : Str), .ref of), (("who" : Str), .int wi tw), (("free" : Str), .ref fr)]) → News h₀ L h' (((fr : Addr), W.listOf (List.toArray pv) kp) :: ((xo : Addr), W.listOf (List.toArray ov) kx) :: ((of : Addr), W.listOf (List.toArray ovs) ko) :: ((fl : Addr), W.listOf (List.toArray (bs.map Value.bool)) kf) :: (L + 1 + 1, oM) :: rest) → Q .next { s with heap := h', toks := tk' }) :
    wpAny (model Challenge.rw_om0134_01.row.prog w) (callerA.deeper (envOfC "law" sc L fa cd)) (execs [st] (envOfC "law" sc L fa cd)) Q E { s with heap := h, toks := tk } := by
  subst hst
  subst hsc
  revert hQ
  have eS := lawScope_eq w
  rw [show (hd.heap_1 w.params).lookup 203 = some ⟨_, _, .func (fnOf _ _ _ _ _ _ _ _ _ _ _ _), _⟩ from rfl] at eS
  dsimp only [scopeOf, fnOf] at eS
  have eT : s9if w = Stmt.If _ _ _ _ := rfl
  rw [eS, eT]
  clear eS eT
  intro hQ
  have B := G.below
  have X := G.inn
  revert X; k_fill; intro X
  have T := G.top
  dsimp only [kstB] at F
  have hovl := hov.length
  have hpvl := hpv.length
  walk_at "k_run"
  · exact hQ _ _ (by assumption) (news_sub (by assumption) fun p hp => .tail _ hp)
  · exact absurd (hs _ (by assumption) (by assumption)) (by assumption)
theorem at_PureE : True := by
  w_top off
  exact trivial
theorem zbit_is : ∀ m < 16, ∀ j < 4, (Builtin.bitAnd (((m : Nat) : Int).fdiv (2 ^ ((j : Nat) : Int).toNat)) 1 = 0) = (bitN m j = false) := by decide +kernel
theorem free_out {E : List (Int × Int)} {ns D : List Int} {n : Int → Int} (h : NdOk E ns) (eo : EOk E) (hr : Run E D) (inv : Inv E D n []) (t : Int) : OutI D n t ↔ In3 t ∧ freeI ns ((mkN D : Nat) : Int) t = true := by
  obtain ⟨m1, m2⟩ := mkN_ok hr.nodup hr.in3
  have key : In3 t → (freeI ns ((mkN D : Nat) : Int) t = true ↔ t ∉ D ∧ cntL E D t = 0) := fun ht => by
    obtain ⟨j, rfl⟩ := Int.eq_ofNat_of_zero_le ht.1
    have hj : j < 4 := by have := ht.2; omega
    have e2 := h.sub eo hj m1
    have e1 := zbit_is (mkN D) m1 j hj
    unfold freeI
    rw [Bool.and_eq_true, decide_eq_true_eq, e1]
    have e3 : (decide (Builtin.bitAnd (ns.getD ((j : Nat) : Int).toNat 0) ((mkN D : Nat) : Int) = ns.getD ((j : Nat) : Int).toNat 0) = true) ↔ ∀ a : Nat, ((j : Int), (a : Int)) ∈ E → bitN (mkN D) a = true := e2
    rw [e3, cntL_zero]
    constructor
    · rintro ⟨q1, q2⟩
      refine ⟨fun q => ?_, fun a ha => ?_⟩
      · rw [(m2 j hj).mpr q] at q1; cases q1
      · have h3 := (eo.rng _ ha).2.1
        obtain ⟨b, rfl⟩ := Int.eq_ofNat_of_zero_le h3.1
        exact (m2 b (by have := h3.2; simp only at this; omega)).mp (q2 b ha)
    · rintro ⟨q1, q2⟩
      refine ⟨?_, fun a ha => ?_⟩
      · cases z : bitN (mkN D) j with
        | false => rfl
        | true => exact absurd ((m2 j hj).mp z) q1
      · have h3 := (eo.rng _ ha).2.1
        exact (m2 a (by have := h3.2; simp only at this; omega)).mpr (q2 _ ha)
  constructor
  · rintro ⟨q1, q2, q3⟩
    refine ⟨q1, (key q1).mpr ⟨q2, ?_⟩⟩
    rcases inv.st t q1 with ⟨a, b, c⟩ | ⟨a, b, c, d⟩ | ⟨a, b, c, d⟩ | ⟨a, b, c, d⟩
    · exact absurd a q2
    · exact b
    · exact b
    · rw [q3] at c; omega
  · rintro ⟨q1, q2⟩
    obtain ⟨k1, k2⟩ := (key q1).mp q2
    refine ⟨q1, k1, ?_⟩
    rcases inv.st t q1 with ⟨a, b, c⟩ | ⟨a, b, c, d⟩ | ⟨a, b, c, d⟩ | ⟨a, b, c, d⟩
    · exact absurd a k1
    · exact c
    · cases d
    · omega
theorem mem_cut {l : List Int} (hn : l.Nodup) : ∀ {i : Nat} {x : Int}, l[i]? = some x → ∀ t, t ∈ l.take i ++ l.drop (i + 1) ↔ t ∈ l ∧ t ≠ x := by
  induction l with
  | nil => intro i x h; cases h
  | cons y l ih =>
    obtain ⟨h1, h2⟩ := List.nodup_cons.mp hn
    intro i x h t
    cases i with
    | zero =>
      injection h with h
      subst h
      simp only [List.take_zero, List.nil_append, List.drop_succ_cons, List.drop_zero, List.mem_cons]
      constructor
      · intro ht; exact ⟨.inr ht, fun e => h1 (e ▸ ht)⟩
      · rintro ⟨ht | ht, e⟩
        · exact absurd ht e
        · exact ht
    | succ i =>
      have hx : l[i]? = some x := by simpa using h
      have hxl : x ∈ l := List.mem_of_getElem? hx
      have := ih h2 hx t
      simp only [List.take_succ_cons, List.cons_append, List.drop_succ_cons, List.mem_cons]
      rw [this]
      constructor
      · rintro (e | ⟨e, f⟩)
        · exact ⟨.inl e, fun q => h1 (e ▸ q ▸ hxl)⟩
        · exact ⟨.inr e, f⟩
      · rintro ⟨e | e, f⟩
        · exact .inl e
        · exact .inr ⟨e, f⟩
theorem nodup_cut {l : List Int} (hn : l.Nodup) (i : Nat) : (l.take i ++ l.drop (i + 1)).Nodup := by
  rw [← List.eraseIdx_eq_take_drop_succ]
  exact (List.eraseIdx_sublist l i).nodup hn
theorem out_next {E : List (Int × Int)} {D of_ of2 : List Int} {n n4 : Int → Int} {task : Int} {p : (Int → Int) × List Int} (hmem : ∀ t, t ∈ of_ ↔ OutI D n t) (hcut : ∀ t, t ∈ of2 ↔ t ∈ of_ ∧ t ≠ task)
    (k1 : Inv E (task :: D) p.1 p.2) (k2 : ∀ t, OutI (task :: D) p.1 t ↔ t ∉ [task] ∧ OutI D (nq n) t) (hn4 : p.2.foldl outF (nq p.1) = n4) :
    (∀ t, t ∈ of2 ++ p.2 ↔ OutI (task :: D) n4 t) ∧ ∀ t ∈ of2, t ∉ p.2 := by
  have hof : ∀ t, t ∈ of2 ↔ OutI (task :: D) p.1 t := fun t => by
    rw [hcut, k2, hmem, OutI.nq, List.mem_singleton]
    exact ⟨fun ⟨a, b⟩ => ⟨b, a⟩, fun ⟨a, b⟩ => ⟨b, a⟩⟩
  refine ⟨fun t => ?_, fun t ht hp => ?_⟩
  · rw [List.mem_append, hof]
    subst hn4
    constructor
    · rintro (⟨a, b, c⟩ | hp)
      · refine ⟨a, b, ?_⟩
        rw [out_fold]
        split
        · rfl
        · rw [nq_at a]; exact c
      · refine ⟨k1.rng t hp, ?_, by rw [out_fold, if_pos hp]⟩
        rcases k1.st t (k1.rng t hp) with ⟨a, b, c⟩ | ⟨a, b, c, d⟩ | ⟨a, b, c, d⟩ | ⟨a, b, c, d⟩
        · exact absurd hp c
        · exact a
        · exact a
        · exact a
    · rintro ⟨a, b, c⟩
      by_cases q : t ∈ p.2
      · exact .inr q
      · rw [out_fold, if_neg q, nq_at a] at c
        exact .inl ⟨a, b, c⟩
  · obtain ⟨a, b, c⟩ := (hof t).mp ht
    rcases k1.st t a with ⟨_, _, q⟩ | ⟨_, _, _, q⟩ | ⟨_, _, q, _⟩ | ⟨_, _, _, q⟩
    · exact q hp
    · exact q hp
    · rw [c] at q; cases q
    · exact q hp
theorem at_LawE : True := by
  w_top off
  exact trivial
noncomputable def triL (pl of rs : Nat) (kp ko kr : Nat) (el : List SE) : List (Addr × Obj) := [((pl : Addr), W.listOf (List.toArray (el.map fun x => Value.ref x.A.P)) kp), ((of : Addr), W.listOf (List.toArray (el.map fun x => Value.ref x.o)) ko), ((rs : Addr), W.listOf (List.toArray (el.map fun x => Value.ref x.r)) kr)]
noncomputable def runL (el : List SE) : List (Addr × Obj) := el.map fun x => ((x.r : Addr), W.listOf (List.toArray x.rv) x.rk)
theorem runL_mem {w : World} (el : List SE) : ∀ p ∈ runL el, p ∈ chunkE w el := by
  induction el with
  | nil => intro p hp; cases hp
  | cons x r ih =>
    intro p hp
    rcases List.mem_cons.mp hp with rfl | hp
    · exact List.mem_append.mpr (.inl (.tail _ (.head _)))
    · exact List.mem_append.mpr (.inr (ih p hp))
theorem chunk_below {w : World} {el el' : List SE} {l : List (Addr × Obj)} {I : Nat} (e : el'.map adrE = el.map adrE) (h : ∀ p ∈ chunkE w el, @LT.lt Nat _ p.1 I) : ∀ p ∈ chunkE w el', @Ne Nat p.1 I := fun p hp => by
  obtain ⟨y, hy, ha⟩ := chunkE_mem _ p hp
  have hm : adrE y ∈ el.map adrE := by rw [← e]; exact List.mem_map_of_mem hy
  obtain ⟨z, hz, ez⟩ := List.mem_map.mp hm
  obtain ⟨q, hq, e9⟩ := chunkE_has (w := w) el z hz p.1 (ez ▸ ha)
  exact Nat.ne_of_lt (e9 ▸ h q hq)
inductive RunI (w : World) (Ed : List (Int × Int)) (el : List SE) (nv : List Value) (nl nb e fl nd pl of rs L kp ko kr kf kd kn : Nat) (ds vn : List Value) (oN : Obj) (rest0 : List (Addr × Obj)) (r : List Value) : List (Str × Value) → List (Addr × Obj) → Prop
  | mk {el' : List SE} {num' : List Int} {oM' : Obj} {mv' : Option Value} (hvs : IntsAre r num') (hr : ∀ x ∈ num', 0 ≤ x ∧ x < 3600) (c : oM'.data = .cell mv') (ha : el'.map adrE = el.map adrE) (hok : ∀ x ∈ el', SEok w Ed x)
    (hs : SepE el' (((nl : Addr), W.listOf (List.toArray nv) 0) :: ((pl : Addr), W.listOf (List.toArray (el'.map fun x => Value.ref x.A.P)) kp) :: ((of : Addr), W.listOf (List.toArray (el'.map fun x => Value.ref x.o)) ko) :: ((rs : Addr), W.listOf (List.toArray (el'.map fun x => Value.ref x.r)) kr) :: ((fl : Addr), W.listOf (List.toArray ((flagsI (ndsF Ed) 15).map Value.bool)) kf) :: ((nd : Addr), W.listOf (List.toArray ds) kd) :: (L + 1, oN) :: (L + 1 + 1, oM') :: ((nb : Addr), W.listOf (List.toArray vn) kn) :: rest0)) :
    RunI w Ed el nv nl nb e fl nd pl of rs L kp ko kr kf kd kn ds vn oN rest0 r (psD nb e fl pl of rs) (((nl : Addr), W.listOf (List.toArray nv) 0) :: ((pl : Addr), W.listOf (List.toArray (el'.map fun x => Value.ref x.A.P)) kp) :: ((of : Addr), W.listOf (List.toArray (el'.map fun x => Value.ref x.o)) ko) :: ((rs : Addr), W.listOf (List.toArray (el'.map fun x => Value.ref x.r)) kr) :: ((fl : Addr), W.listOf (List.toArray ((flagsI (ndsF Ed) 15).map Value.bool)) kf) :: ((nd : Addr), W.listOf (List.toArray ds) kd) :: (L + 1, oN) :: (L + 1 + 1, oM') :: ((nb : Addr), W.listOf (List.toArray vn) kn) :: (chunkE w el' ++ rest0))
namespace S_law_runs
noncomputable def stm (w : World) (mean : ExcName → Option Value) (mg mb : Str → Option Value) (h₀ h : Heap) (L fa : Addr) (cd : Value) (s : Shared) (tk : Nat) (Q : Flow → Shared → Prop) (E : Value → Shared → Prop) (u : Str → Option Value) (nb e fl nd pl of rs : Nat) (ds vn : List Value) (kn kd kf kp ko kr : Nat) (Ed : List (Int × Int)) (num : List Int) (oN oM : Obj) (mv : Option Value) (rest0 : List (Addr × Obj)) (el : List SE) : Prop := ∀ (G : LawG w mean mg mb h₀) (hE : PassesOwn (model Challenge.rw_om0134_01.row.prog w) (lawA w L fa cd) (lawEnv w L fa cd) E) (eo : EOk Ed) (h3 : el.length = 3) (hn : IntsAre vn num) (hnz : num.length ≤ 11) (hnr : ∀ x ∈ num, 0 ≤ x ∧ x < 3600) (c1 : oN.data = .cell (some (.ref nd))) (c2 : oM.data = .cell mv) (hds : IntsAre ds (ndsF Ed)) (hok : ∀ x ∈ el, SEok w Ed x) (hsep : SepE el (triL pl of rs kp ko kr el ++ (((fl : Addr), W.listOf (List.toArray ((flagsI (ndsF Ed) 15).map Value.bool)) kf) :: ((nd : Addr), W.listOf (List.toArray ds) kd) :: (L + 1, oN) :: (L + 1 + 1, oM) :: ((nb : Addr), W.listOf (List.toArray vn) kn) :: rest0))) (hm2 : ∀ p ∈ triL pl of rs kp ko kr el ++ (((fl : Addr), W.listOf (List.toArray ((flagsI (ndsF Ed) 15).map Value.bool)) kf) :: ((nd : Addr), W.listOf (List.toArray ds) kd) :: (L + 1, oN) :: ((nb : Addr), W.listOf (List.toArray vn) kn) :: rest0), @Ne Nat p.1 (L + 1 + 1)) (F : Fr h₀ L h (kstB u (psD nb e fl pl of rs))) (N : News h₀ L h (triL pl of rs kp ko kr el ++ (((fl : Addr), W.listOf (List.toArray ((flagsI (ndsF Ed) 15).map Value.bool)) kf) :: ((nd : Addr), W.listOf (List.toArray ds) kd) :: (L + 1, oN) :: (L + 1 + 1, oM) :: ((nb : Addr), W.listOf (List.toArray vn) kn) :: (chunkE w el ++ rest0)))) (hQ : ∀ (el' : List SE) (oM' : Obj) (mv' : Option Value) (h' : Heap) (tk' : Nat) (u' : Str → Option Value), el'.length = 3 → (∀ x ∈ el', SEok w Ed x) → oM'.data = .cell mv' → Fr h₀ L h' (kstB u' (psD nb e fl pl of rs)) →
      News h₀ L h' (((rs : Addr), W.listOf (List.toArray (el'.map fun x => Value.ref x.r)) kr) :: ((fl : Addr), W.listOf (List.toArray ((flagsI (ndsF Ed) 15).map Value.bool)) kf) :: (L + 1 + 1, oM') :: (runL el' ++ rest0)) → Q .next { s with heap := h', toks := tk' }), wpAny (model Challenge.rw_om0134_01.row.prog w) (lawA w L fa cd) (exec (lawS w 9) (lawEnv w L fa cd)) Q E { s with heap := h, toks := tk }
noncomputable abbrev Dat := World × (ExcName → Option Value) × (Str → Option Value) × (Str → Option Value) × Heap × Heap × Addr × Addr × Value × Shared × Nat × (Flow → Shared → Prop) × (Value → Shared → Prop) × (Str → Option Value) × Nat × Nat × Nat × Nat × Nat × Nat × Nat × List Value × List Value × Nat × Nat × Nat × Nat × Nat × Nat × (List (Int × Int)) × List Int × Obj × Obj × Option Value × (List (Addr × Obj)) × List SE
noncomputable def ok (p : Dat) : Prop := let q1 := p.2.2.2.2.2.2.2.2; let q2 := q1.2.2.2.2.2.2.2.2; let q3 := q2.2.2.2.2.2.2.2.2; let q4 := q3.2.2.2.2.2.2.2.2; stm p.1 p.2.1 p.2.2.1 p.2.2.2.1 p.2.2.2.2.1 p.2.2.2.2.2.1 p.2.2.2.2.2.2.1 p.2.2.2.2.2.2.2.1 q1.1 q1.2.1 q1.2.2.1 q1.2.2.2.1 q1.2.2.2.2.1 q1.2.2.2.2.2.1 q1.2.2.2.2.2.2.1 q1.2.2.2.2.2.2.2.1 q2.1 q2.2.1 q2.2.2.1 q2.2.2.2.1 q2.2.2.2.2.1 q2.2.2.2.2.2.1 q2.2.2.2.2.2.2.1 q2.2.2.2.2.2.2.2.1 q3.1 q3.2.1 q3.2.2.1 q3.2.2.2.1 q3.2.2.2.2.1 q3.2.2.2.2.2.1 q3.2.2.2.2.2.2.1 q3.2.2.2.2.2.2.2.1 q4.1 q4.2.1 q4.2.2.1 q4.2.2.2
@[irreducible] noncomputable def cc : Dat := @Classical.epsilon Dat ⟨(world0, fun _ => none, fun _ => none, fun _ => none, {}, {}, (0 : Nat), (0 : Nat), .none, {}, 0, fun _ _ => True, fun _ _ => True, fun _ => none, 0, 0, 0, 0, 0, 0, 0, [], [], 0, 0, 0, 0, 0, 0, [], [], default, default, none, [], [])⟩ fun p => ¬ ok p
noncomputable def c1 := cc.2.2.2.2.2.2.2.2
noncomputable def c2 := c1.2.2.2.2.2.2.2.2
noncomputable def c3 := c2.2.2.2.2.2.2.2.2
noncomputable def c4 := c3.2.2.2.2.2.2.2.2
@[irreducible] noncomputable def w : World := cc.1
@[irreducible] noncomputable def mean : ExcName → Option Value := cc.2.1
@[irreducible] noncomputable def mg : Str → Option Value := cc.2.2.1
@[irreducible] noncomputable def mb : Str → Option Value := cc.2.2.2.1
@[irreducible] noncomputable def h₀ : Heap := cc.2.2.2.2.1
@[irreducible] noncomputable def h : Heap := cc.2.2.2.2.2.1
@[irreducible] noncomputable def L : Addr := cc.2.2.2.2.2.2.1
@[irreducible] noncomputable def fa : Addr := cc.2.2.2.2.2.2.2.1
@[irreducible] noncomputable def cd : Value := c1.1
@[irreducible] noncomputable def s : Shared := c1.2.1
@[irreducible] noncomputable def tk : Nat := c1.2.2.1
@[irreducible] noncomputable def Q : Flow → Shared → Prop := c1.2.2.2.1
@[irreducible] noncomputable def E : Value → Shared → Prop := c1.2.2.2.2.1
@[irreducible] noncomputable def u : Str → Option Value := c1.2.2.2.2.2.1
@[irreducible] noncomputable def nb : Nat := c1.2.2.2.2.2.2.1
@[irreducible] noncomputable def e : Nat := c1.2.2.2.2.2.2.2.1
@[irreducible] noncomputable def fl : Nat := c2.1
@[irreducible] noncomputable def nd : Nat := c2.2.1
@[irreducible] noncomputable def pl : Nat := c2.2.2.1
@[irreducible] noncomputable def of : Nat := c2.2.2.2.1
@[irreducible] noncomputable def rs : Nat := c2.2.2.2.2.1
@[irreducible] noncomputable def ds : List Value := c2.2.2.2.2.2.1
@[irreducible] noncomputable def vn : List Value := c2.2.2.2.2.2.2.1
@[irreducible] noncomputable def kn : Nat := c2.2.2.2.2.2.2.2.1
@[irreducible] noncomputable def kd : Nat := c3.1
@[irreducible] noncomputable def kf : Nat := c3.2.1
@[irreducible] noncomputable def kp : Nat := c3.2.2.1
@[irreducible] noncomputable def ko : Nat := c3.2.2.2.1
@[irreducible] noncomputable def kr : Nat := c3.2.2.2.2.1
@[irreducible] noncomputable def Ed : List (Int × Int) := c3.2.2.2.2.2.1
@[irreducible] noncomputable def num : List Int := c3.2.2.2.2.2.2.1
@[irreducible] noncomputable def oN : Obj := c3.2.2.2.2.2.2.2.1
@[irreducible] noncomputable def oM : Obj := c4.1
@[irreducible] noncomputable def mv : Option Value := c4.2.1
@[irreducible] noncomputable def rest0 : List (Addr × Obj) := c4.2.2.1
@[irreducible] noncomputable def el : List SE := c4.2.2.2
theorem core : stm w mean mg mb h₀ h L fa cd s tk Q E u nb e fl nd pl of rs ds vn kn kd kf kp ko kr Ed num oN oM mv rest0 el := by
  intro G hE eo h3 hn hnz hnr c1 c2 hds hok hsep hm2 F N hQ
  have hnd : NdOk Ed (ndsF Ed) := ndsF_ok _ rfl fun x hx => ⟨(eo.rng x hx).1, (eo.rng x hx).2.1⟩
  revert hE
  unfold lawA lawEnv
  have eS := lawScope_eq w
  rw [show (hd.heap_1 w.params).lookup 203 = some ⟨_, _, .func (fnOf _ _ _ _ _ _ _ _ _ _ _ _), _⟩ from rfl] at eS
  dsimp only [scopeOf, fnOf] at eS
  have eT : lawS w 9 = Stmt.For _ _ _ _ _ := rfl
  rw [eS, eT]
  clear eT
  intro hE
  have B := G.below
  have X := G.inn
  revert X; k_fill; intro X
  have T := G.top
  dsimp only [kstB, psD] at F
  simp only [triL, List.cons_append, List.nil_append] at N
  have hvl := hn.length
  refine For_turns (by assumption) ?_
  walk_at "k_to"
  rename Fr _ _ _ _ => F0
  rename News _ _ _ _ => N0
  refine name1 N0 ?_
  intro nl enl
  subst enl
  have lnl := ‹_ ∧ _ ∧ _ ∧ _ ∧ _ ∧ _ ∧ _ ∧ _ ∧ AllLt nl (chunkE w el ++ rest0)›
  have hdr := ‹IntsAre _ (List.drop 4 num)›
  obtain ⟨nv, hnv, N1⟩ : ∃ nv : List Value, IntsAre nv (num.drop 4) ∧ News h₀ L _ (((nl : Addr), W.listOf (List.toArray nv) 0) :: ((pl : Addr), W.listOf (List.toArray (el.map fun x => Value.ref x.A.P)) kp) :: ((of : Addr), W.listOf (List.toArray (el.map fun x => Value.ref x.o)) ko) :: ((rs : Addr), W.listOf (List.toArray (el.map fun x => Value.ref x.r)) kr) :: ((fl : Addr), W.listOf (List.toArray ((flagsI (ndsF Ed) 15).map Value.bool)) kf) :: ((nd : Addr), W.listOf (List.toArray ds) kd) :: (L + 1, oN) :: (L + 1 + 1, oM) :: ((nb : Addr), W.listOf (List.toArray vn) kn) :: (chunkE w el ++ rest0)) := ⟨_, hdr, N0⟩
  have hsep0 : SepE el (((nl : Addr), W.listOf (List.toArray nv) 0) :: ((pl : Addr), W.listOf (List.toArray (el.map fun x => Value.ref x.A.P)) kp) :: ((of : Addr), W.listOf (List.toArray (el.map fun x => Value.ref x.o)) ko) :: ((rs : Addr), W.listOf (List.toArray (el.map fun x => Value.ref x.r)) kr) :: ((fl : Addr), W.listOf (List.toArray ((flagsI (ndsF Ed) 15).map Value.bool)) kf) :: ((nd : Addr), W.listOf (List.toArray ds) kd) :: (L + 1, oN) :: (L + 1 + 1, oM) :: ((nb : Addr), W.listOf (List.toArray vn) kn) :: rest0) := ⟨hsep.two, fun x hx a ha q hq => by
    rcases List.mem_cons.mp hq with rfl | hq
    · obtain ⟨p, hp, e9⟩ := chunkE_has (w := w) el x hx a ha
      have := (under_of lnl.2.2.2.2.2.2.2.2).lt p (List.mem_append.mpr (.inl hp))
      show @Ne Nat a nl
      omega
    · exact hsep.off x hx a ha q hq, hsep.own⟩
  refine for_listP (RunI w Ed el nv nl nb e fl nd pl of rs L kp ko kr kf kd kn ds vn oN rest0)
    (psD nb e fl pl of rs) rfl F0 N1 (.head _) rfl rfl (by exact ⟨rfl, rfl, rfl, rfl, rfl, rfl, trivial⟩) (.mk hnv (fun x hx => hnr x (List.mem_of_mem_drop hx)) c2 rfl hok hsep0) (by rintro r ps n ⟨⟩; exact .head _) ?_ ?_
  · rintro I v r ps₁ u news₁ it h tk Pp hI hit ⟨hvs, hnr', c2', hadr, hok', hsep'⟩ F1 N1 hN - - hret
    rename_i el' num' oM' mv'
    (try dsimp only [kstB, psD] at F1)
    (try clear F0); (try clear N0); (try clear F); (try clear N)
    cases hvs with
    | cons k tk9 hvs =>
    rename_i num'
    have hk := hnr' k (.head _)
    have hl3 : el'.length = 3 := by
      have := congrArg List.length hadr
      rw [List.length_map, List.length_map, h3] at this
      exact this
    have hw := Int.emod_nonneg k (show (3 : Int) ≠ 0 by decide)
    have hw2 := Int.emod_lt_of_pos k (show (0 : Int) < 3 by decide)
    have hfm : k.fmod 3 = k % 3 := Int.fmod_eq_emod_of_nonneg k (by decide)
    obtain ⟨pre, x, post, hel, hj⟩ : ∃ pre x post, el' = pre ++ x :: post ∧ pre.length = (k.fmod 3).toNat := by
      have hlt : (k.fmod 3).toNat < el'.length := by rw [hl3, hfm]; exact toNat_below hw hw2
      refine ⟨el'.take (k.fmod 3).toNat, el'[(k.fmod 3).toNat], el'.drop ((k.fmod 3).toNat + 1), ?_, by rw [List.length_take]; exact Nat.min_eq_left (Nat.le_of_lt hlt)⟩
      rw [← List.drop_eq_getElem_cons hlt, List.take_append_drop]
    subst hel
    have gP : ((pre ++ x :: post).map fun x => Value.ref x.A.P)[(k.fmod 3).toNat]? = some (.ref x.A.P) := by rw [← hj]; simp
    have gO : ((pre ++ x :: post).map fun x => Value.ref x.o)[(k.fmod 3).toNat]? = some (.ref x.o) := by rw [← hj]; simp
    have gR : ((pre ++ x :: post).map fun x => Value.ref x.r)[(k.fmod 3).toNat]? = some (.ref x.r) := by rw [← hj]; simp
    have lP : ((pre ++ x :: post).map fun x => Value.ref x.A.P).length = 3 := by rw [List.length_map]; exact hl3
    have lO : ((pre ++ x :: post).map fun x => Value.ref x.o).length = 3 := by rw [List.length_map]; exact hl3
    have lR : ((pre ++ x :: post).map fun x => Value.ref x.r).length = 3 := by rw [List.length_map]; exact hl3
    have hx := hok' x (List.mem_append.mpr (.inr (.head _)))
    have hpk := hsep'.pick (w := w)
    have N2 := news_sub N1 (news := (I, it) :: ((x.o : Addr), W.listOf (List.toArray x.ov) x.ok) :: ((x.r : Addr), W.listOf (List.toArray x.rv) x.rk) :: ((x.A.P : Addr), instObj 151 x.A.dP) :: ((nl : Addr), W.listOf (List.toArray nv) 0) :: ((pl : Addr), W.listOf (List.toArray ((pre ++ x :: post).map fun x => Value.ref x.A.P)) kp) :: ((of : Addr), W.listOf (List.toArray ((pre ++ x :: post).map fun x => Value.ref x.o)) ko) :: ((rs : Addr), W.listOf (List.toArray ((pre ++ x :: post).map fun x => Value.ref x.r)) kr) :: ((fl : Addr), W.listOf (List.toArray ((flagsI (ndsF Ed) 15).map Value.bool)) kf) :: ((nd : Addr), W.listOf (List.toArray ds) kd) :: (L + 1, oN) :: (L + 1 + 1, oM') :: ((nb : Addr), W.listOf (List.toArray vn) kn) :: (sorN w x.A x.V x.n ++ (chunkE w (pre ++ post) ++ rest0))) (fun p hp => by
      have h8 : ∀ p ∈ partE w x, p ∈ chunkE w (pre ++ x :: post) := fun p hp => (chunkE_pick p).mpr (.inl hp)
      have h7 : ∀ p ∈ chunkE w (pre ++ post), p ∈ chunkE w (pre ++ x :: post) := fun p hp => (chunkE_pick p).mpr (.inr hp)
      have big : ∀ p ∈ chunkE w (pre ++ x :: post), p ∈ (I, it) :: ((nl : Addr), W.listOf (List.toArray nv) 0) :: ((pl : Addr), W.listOf (List.toArray ((pre ++ x :: post).map fun x => Value.ref x.A.P)) kp) :: ((of : Addr), W.listOf (List.toArray ((pre ++ x :: post).map fun x => Value.ref x.o)) ko) :: ((rs : Addr), W.listOf (List.toArray ((pre ++ x :: post).map fun x => Value.ref x.r)) kr) :: ((fl : Addr), W.listOf (List.toArray ((flagsI (ndsF Ed) 15).map Value.bool)) kf) :: ((nd : Addr), W.listOf (List.toArray ds) kd) :: (L + 1, oN) :: (L + 1 + 1, oM') :: ((nb : Addr), W.listOf (List.toArray vn) kn) :: (chunkE w (pre ++ x :: post) ++ rest0) := fun p hp => mt8 (mt2 (List.mem_append.mpr (.inl hp)))
      revert p
      refine al_cons ?_ (al_cons ?_ (al_cons ?_ (al_cons ?_ (al_cons ?_ (al_cons ?_ (al_cons ?_ (al_cons ?_ (al_cons ?_ (al_cons ?_ (al_cons ?_ (al_cons ?_ (al_cons ?_ (fun p hp => ?_)))))))))))))
      · exact .head _
      · exact big _ (h8 _ (.head _))
      · exact big _ (h8 _ (.tail _ (.head _)))
      · exact big _ (h8 _ (mt2 sorN_P))
      · exact .tail _ (.head _)
      · exact mt2 (.head _)
      · exact mt2 (.tail _ (.head _))
      · exact mt4 (.head _)
      · exact mt4 (.tail _ (.head _))
      · exact mt4 (mt2 (.head _))
      · exact mt4 (mt2 (.tail _ (.head _)))
      · exact mt8 (.head _)
      · exact mt8 (.tail _ (.head _))
      rcases List.mem_append.mp hp with hp | hp
      · exact big _ (h8 _ (mt2 hp))
      rcases List.mem_append.mp hp with hp | hp
      · exact big _ (h7 _ hp)
      · exact mt8 (mt2 (List.mem_append.mpr (.inr hp)))) 
    clear N1
    generalize hpv : ((pre ++ x :: post).map fun x => Value.ref x.A.P) = pvs at gP lP N2 hpk
    generalize hov : ((pre ++ x :: post).map fun x => Value.ref x.o) = ovs at gO lO N2 hpk
    generalize hrv : ((pre ++ x :: post).map fun x => Value.ref x.r) = rvs at gR lR N2 hpk
    have hovI := hx.ov
    have hof4 : x.of.length ≤ 4 := nodup_four hx.nod fun t ht => ((hx.mem t).mp ht).1
    have hovl := hovI.length
    have hw3 : 0 ≤ k.fmod 3 ∧ k.fmod 3 < 3 := by rw [hfm]; exact ⟨hw, hw2⟩
    have offO : ∀ q ∈ (chunkE w (pre ++ post) ++ (((nl : Addr), W.listOf (List.toArray nv) 0) :: ((pl : Addr), W.listOf (List.toArray pvs) kp) :: ((of : Addr), W.listOf (List.toArray ovs) ko) :: ((rs : Addr), W.listOf (List.toArray rvs) kr) :: ((fl : Addr), W.listOf (List.toArray ((flagsI (ndsF Ed) 15).map Value.bool)) kf) :: ((nd : Addr), W.listOf (List.toArray ds) kd) :: (L + 1, oN) :: (L + 1 + 1, oM') :: ((nb : Addr), W.listOf (List.toArray vn) kn) :: rest0)), @Ne Nat x.o q.1 ∧ @Ne Nat x.r q.1 := fun q hq => by
      exact ⟨hpk _ (.head _) q hq, hpk _ (.tail _ (.head _)) q hq⟩
    obtain ⟨oo1, oo2, oo3⟩ := hsep'.own x (List.mem_append.mpr (.inr (.head _)))
    have b1 := offO _ (List.mem_append.mpr (.inr (.head _)))
    have b2 := offO _ (List.mem_append.mpr (.inr (.tail _ (.head _))))
    have b3 := offO _ (List.mem_append.mpr (.inr (mt2 (.head _))))
    have b4 := offO _ (List.mem_append.mpr (.inr (mt2 (.tail _ (.head _)))))
    have b5 := offO _ (List.mem_append.mpr (.inr (mt4 (.head _))))
    have b6 := offO _ (List.mem_append.mpr (.inr (mt4 (.tail _ (.head _)))))
    have b7 := offO _ (List.mem_append.mpr (.inr (mt4 (mt2 (.head _)))))
    have b8 := offO _ (List.mem_append.mpr (.inr (mt4 (mt2 (.tail _ (.head _))))))
    have b9 := offO _ (List.mem_append.mpr (.inr (mt8 (.head _))))
    dsimp only at b1 b2 b3 b4 b5 b6 b7 b8 b9
    have d1 : NeS x.o _ := ⟨b1.1⟩
    have f1 : NeS x.r _ := ⟨b1.2⟩
    clear b1
    have d2 : NeS x.o _ := ⟨b2.1⟩
    have f2 : NeS x.r _ := ⟨b2.2⟩
    clear b2
    have d3 : NeS x.o _ := ⟨b3.1⟩
    have f3 : NeS x.r _ := ⟨b3.2⟩
    clear b3
    have d4 : NeS x.o _ := ⟨b4.1⟩
    have f4 : NeS x.r _ := ⟨b4.2⟩
    clear b4
    have d5 : NeS x.o _ := ⟨b5.1⟩
    have f5 : NeS x.r _ := ⟨b5.2⟩
    clear b5
    have d6 : NeS x.o _ := ⟨b6.1⟩
    have f6 : NeS x.r _ := ⟨b6.2⟩
    clear b6
    have d7 : NeS x.o _ := ⟨b7.1⟩
    have f7 : NeS x.r _ := ⟨b7.2⟩
    clear b7
    have d8 : NeS x.o _ := ⟨b8.1⟩
    have f8 : NeS x.r _ := ⟨b8.2⟩
    clear b8
    have d9 : NeS x.o _ := ⟨b9.1⟩
    have f9 : NeS x.r _ := ⟨b9.2⟩
    clear b9
    have d0 : NeS x.o x.r := ⟨oo1⟩
    clear oo1
    have oP : @Ne Nat x.o x.A.P ∧ @Ne Nat x.r x.A.P := ⟨fun q => oo2 (q ▸ .tail _ (.head _)), fun q => oo3 (q ▸ .tail _ (.head _))⟩
    have dP : NeS x.o x.A.P := ⟨oP.1⟩
    have fP : NeS x.r x.A.P := ⟨oP.2⟩
    clear oP
    have oI : @LT.lt Nat _ x.o I ∧ @LT.lt Nat _ x.r I := by
      have hm : adrE x ∈ el.map adrE := by rw [← hadr]; exact List.mem_map_of_mem (List.mem_append.mpr (.inr (.head _)))
      obtain ⟨y, hy, ey⟩ := List.mem_map.mp hm
      have key : ∀ a ∈ adrE x, @LT.lt Nat _ a I := fun a ha => by
        obtain ⟨p, hp, e9⟩ := chunkE_has (w := w) el y hy a (ey ▸ ha)
        rw [← e9]
        exact hI p (mt8 (.tail _ (List.mem_append.mpr (.inl hp))))
      exact ⟨key _ (.head _), key _ (.tail _ (.head _))⟩
    have tO : ∀ (V' : SV) (n' : Int → Int), OffT x.o (sorN w x.A V' n' ++ (chunkE w (pre ++ post) ++ rest0)) ∧ OffT x.r (sorN w x.A V' n' ++ (chunkE w (pre ++ post) ++ rest0)) := fun V' n' => by
      have key : ∀ p ∈ chunkE w (pre ++ post) ++ rest0, @Ne Nat x.o p.1 ∧ @Ne Nat x.r p.1 := fun p hp => offO p (by
        rcases List.mem_append.mp hp with hp | hp
        · exact List.mem_append.mpr (.inl hp)
        · exact List.mem_append.mpr (.inr (mt8 (.tail _ hp))))
      have k2 : ∀ p ∈ sorN w x.A V' n', p.1 ∈ x.A.R :: adrN x.A := fun p hp => by
        have h9 := List.mem_map_of_mem (f := fun p : Addr × Obj => p.1) hp
        rw [sorN_adr] at h9
        exact h9
      refine ⟨⟨fun p hp => ?_⟩, ⟨fun p hp => ?_⟩⟩
      · rcases List.mem_append.mp hp with hp | hp
        · exact fun q => oo2 (q ▸ k2 p hp)
        · exact (key p hp).1.symm
      · rcases List.mem_append.mp hp with hp | hp
        · exact fun q => oo3 (q ▸ k2 p hp)
        · exact (key p hp).2.symm
    obtain ⟨tO1, tO2⟩ := tO x.V x.n
    have hpop : x.of ≠ [] → 0 ≤ (k.fdiv 3).fmod (x.ov.length : Int) ∧ (k.fdiv 3).fmod (x.ov.length : Int) < (x.of.length : Int) := fun hne => by
      have hp : 0 < x.of.length := List.length_pos_iff.mpr hne
      have hp2 : (0 : Int) < (x.ov.length : Int) := by omega
      have h1 := Int.fmod_nonneg_of_pos (k.fdiv 3) hp2
      have h2 := Int.fmod_lt_of_pos (k.fdiv 3) hp2
      exact ⟨h1, Int.lt_of_lt_of_le h2 (Int.ofNat_le.mpr (Nat.le_of_eq hovl))⟩
    have hbelow : ∀ p ∈ chunkE w el, @LT.lt Nat _ p.1 I := fun p hp => hI p (mt8 (.tail _ (List.mem_append.mpr (.inl hp))))
    have hrestI : ∀ p ∈ rest0, @Ne Nat p.1 I := fun p hp => Nat.ne_of_lt (hI p (mt8 (.tail _ (List.mem_append.mpr (.inr hp)))))
    have offN : ∀ (el9 : List SE) (oM9 : Obj), el9.map adrE = el.map adrE → ∀ p ∈ ((nl : Addr), W.listOf (List.toArray nv) 0) :: ((pl : Addr), W.listOf (List.toArray (el9.map fun x => Value.ref x.A.P)) kp) :: ((of : Addr), W.listOf (List.toArray (el9.map fun x => Value.ref x.o)) ko) :: ((rs : Addr), W.listOf (List.toArray (el9.map fun x => Value.ref x.r)) kr) :: ((fl : Addr), W.listOf (List.toArray ((flagsI (ndsF Ed) 15).map Value.bool)) kf) :: ((nd : Addr), W.listOf (List.toArray ds) kd) :: (L + 1, oN) :: (L + 1 + 1, oM9) :: ((nb : Addr), W.listOf (List.toArray vn) kn) :: (chunkE w el9 ++ rest0), p.1 ≠ I := fun el9 oM9 e9 p hp => by
      revert p
      refine al_cons ?_ (al_cons ?_ (al_cons ?_ (al_cons ?_ (al_cons ?_ (al_cons ?_ (al_cons ?_ (al_cons ?_ (al_cons ?_ (fun p hp => ?_)))))))))
      · exact Nat.ne_of_lt (hI _ (.head _))
      · exact Nat.ne_of_lt (hI ((pl : Addr), W.listOf (List.toArray (el.map fun x => Value.ref x.A.P)) kp) (.tail _ (.head _)))
      · exact Nat.ne_of_lt (hI ((of : Addr), W.listOf (List.toArray (el.map fun x => Value.ref x.o)) ko) (mt2 (.head _)))
      · exact Nat.ne_of_lt (hI ((rs : Addr), W.listOf (List.toArray (el.map fun x => Value.ref x.r)) kr) (mt2 (.tail _ (.head _))))
      · exact Nat.ne_of_lt (hI _ (mt4 (.head _)))
      · exact Nat.ne_of_lt (hI _ (mt4 (.tail _ (.head _))))
      · exact Nat.ne_of_lt (hI _ (mt4 (mt2 (.head _))))
      · exact Nat.ne_of_lt (hI (L + 1 + 1, oM) (mt4 (mt2 (.tail _ (.head _)))))
      · exact Nat.ne_of_lt (hI _ (mt8 (.head _)))
      rcases List.mem_append.mp hp with hp | hp
      · exact chunk_below (l := []) e9 hbelow p hp
      · exact hrestI p hp
    walk_at "k_callR"
    · rename Fr _ _ _ _ => F5
      rename News _ _ _ _ => N5
      refine hN _ ?_
      refine AtI.intro F5 N5 (psD nb e fl pl of rs) _ (by exact ⟨rfl, rfl, rfl, rfl, rfl, rfl, trivial⟩) (.tail _ (.head _)) ?_ (offN (pre ++ x :: post) oM' hadr) (.mk hvs (fun y hy => hnr' y (.tail _ hy)) c2' hadr hok' hsep')
      intro p hp
      have hch : ∀ p ∈ chunkE w (pre ++ x :: post), p ∈ partE w x ∨ p ∈ chunkE w (pre ++ post) := fun p hp => (chunkE_pick p).mp hp
      simp only [hpv, hov, hrv, List.mem_cons, List.mem_append] at hp ⊢
      have := hch p
      simp only [partE, List.mem_cons] at this
      grind
    have hne : x.of ≠ [] := of_decide_eq_false (by assumption)
    have hp9 := hpop hne
    clear hpop
    walk_at "k_callR"
    rename Fr _ _ _ _ => F5
    rename News _ _ _ _ => N5
    obtain ⟨ms, hms, N6⟩ : ∃ ms : List Value, IntsAre ms (x.of.take ((k.fdiv 3).fmod (x.ov.length : Int)).toNat ++ x.of.drop (((k.fdiv 3).fmod (x.ov.length : Int)).toNat + 1)) ∧ News h₀ L _ (sorN w x.A x.V x.n ++ ((I, it) :: ((x.o : Addr), W.listOf (List.toArray ms) (x.ok + 1)) :: ((x.r : Addr), W.listOf (List.toArray x.rv) x.rk) :: ((nl : Addr), W.listOf (List.toArray nv) 0) :: ((pl : Addr), W.listOf (List.toArray pvs) kp) :: ((of : Addr), W.listOf (List.toArray ovs) ko) :: ((rs : Addr), W.listOf (List.toArray rvs) kr) :: ((fl : Addr), W.listOf (List.toArray ((flagsI (ndsF Ed) 15).map Value.bool)) kf) :: ((nd : Addr), W.listOf (List.toArray ds) kd) :: (L + 1, oN) :: (L + 1 + 1, oM') :: ((nb : Addr), W.listOf (List.toArray vn) kn) :: (chunkE w (pre ++ post) ++ rest0))) := ⟨_, by assumption, news_sub N5 (fun p hp => by
      rcases List.mem_append.mp hp with hp | hp
      · exact mt8 (mt4 (mt2 (List.mem_append.mpr (.inl hp))))
      · simp only [List.mem_append, List.mem_cons] at hp ⊢; grind)⟩
    have hti : ((k.fdiv 3).fmod (x.ov.length : Int)).toNat < x.of.length := toNat_below hp9.1 hp9.2
    have htm : x.of.getD ((k.fdiv 3).fmod (x.ov.length : Int)).toNat 0 ∈ x.of := by
      rw [List.getD_eq_getElem?_getD, List.getElem?_eq_getElem hti]
      exact List.getElem_mem hti
    have htk := (hx.mem _).mp htm
    obtain ⟨task, htg⟩ : ∃ task, x.of[((k.fdiv 3).fmod (x.ov.length : Int)).toNat]? = some task := ⟨_, List.getElem?_eq_getElem hti⟩
    have hta : x.of.getD ((k.fdiv 3).fmod (x.ov.length : Int)).toNat 0 = task := by rw [List.getD_eq_getElem?_getD, htg]; rfl
    rw [hta] at htm htk
    rw [hta]
    have oAx : OffA x.A ((I, it) :: ((x.o : Addr), W.listOf (List.toArray ms) (x.ok + 1)) :: ((x.r : Addr), W.listOf (List.toArray x.rv) x.rk) :: ((nl : Addr), W.listOf (List.toArray nv) 0) :: ((pl : Addr), W.listOf (List.toArray pvs) kp) :: ((of : Addr), W.listOf (List.toArray ovs) ko) :: ((rs : Addr), W.listOf (List.toArray rvs) kr) :: ((fl : Addr), W.listOf (List.toArray ((flagsI (ndsF Ed) 15).map Value.bool)) kf) :: ((nd : Addr), W.listOf (List.toArray ds) kd) :: (L + 1, oN) :: (L + 1 + 1, oM') :: ((nb : Addr), W.listOf (List.toArray vn) kn) :: (chunkE w (pre ++ post) ++ rest0)) := ⟨fun a ha q hq => by
      have hAI : @LT.lt Nat _ a I := by
        have hm : adrE x ∈ el.map adrE := by rw [← hadr]; exact List.mem_map_of_mem (List.mem_append.mpr (.inr (.head _)))
        obtain ⟨y, hy, ey⟩ := List.mem_map.mp hm
        obtain ⟨p, hp, e9⟩ := chunkE_has (w := w) el y hy a (ey ▸ (mt2 ha))
        rw [← e9]
        exact hI p (mt8 (.tail _ (List.mem_append.mpr (.inl hp))))
      have hpa := hpk a (mt2 ha)
      revert q
      refine al_cons ?_ (al_cons ?_ (al_cons ?_ (fun q hq => ?_)))
      · exact Nat.ne_of_lt hAI
      · exact fun z => oo2 ((show @Eq Nat a x.o from z) ▸ ha)
      · exact fun z => oo3 ((show @Eq Nat a x.r from z) ▸ ha)
      refine hpa q ?_
      simp only [List.mem_append, List.mem_cons] at hq ⊢; grind⟩
    have hdA := hx.inv.doneAt eo (ns := [task]) (by simp) (fun t ht => by rw [List.mem_singleton.mp ht]; exact htk)
    refine use_con (newsC := sorN w x.A x.V x.n) (rest := (I, it) :: ((x.o : Addr), W.listOf (List.toArray ms) (x.ok + 1)) :: ((x.r : Addr), W.listOf (List.toArray x.rv) x.rk) :: ((nl : Addr), W.listOf (List.toArray nv) 0) :: ((pl : Addr), W.listOf (List.toArray pvs) kp) :: ((of : Addr), W.listOf (List.toArray ovs) ko) :: ((rs : Addr), W.listOf (List.toArray rvs) kr) :: ((fl : Addr), W.listOf (List.toArray ((flagsI (ndsF Ed) 15).map Value.bool)) kf) :: ((nd : Addr), W.listOf (List.toArray ds) kd) :: (L + 1, oN) :: (L + 1 + 1, oM') :: ((nb : Addr), W.listOf (List.toArray vn) kn) :: (chunkE w (pre ++ post) ++ rest0)) (done_w w mean mg mb x.A x.V Ed x.n [] hx.ok [.int task _] [task] (.cons _ _ .nil) (Nat.le_of_ble_eq_true rfl) hdA) B F5 X N6 T rfl (by first | assumption | rfl) rfl (Nat.le_of_ble_eq_true rfl) (Nat.le_of_ble_eq_true rfl) rfl oAx.hr ?_
    rintro r9 news' h7 tk7 F7 N7 - ⟨V2, rfl, rfl, ok2⟩
    clear F5 N5 N6
    obtain ⟨k1, k2⟩ := Inv.doneL eo (ns := [task]) hx.inv.nq (by simp) (fun t ht => OutI.nq.mpr (by rw [List.mem_singleton.mp ht]; exact htk))
    generalize [task].foldl (doneF (suq Ed)) (nq x.n, []) = p3 at k1 k2 N7 ok2
    obtain ⟨tP1, tP2⟩ := tO V2 p3.1
    have N8 := news_sub N7 (news := (I, it) :: ((x.o : Addr), W.listOf (List.toArray ms) (x.ok + 1)) :: ((x.r : Addr), W.listOf (List.toArray x.rv) x.rk) :: ((x.A.P : Addr), instObj 151 x.A.dP) :: ((nl : Addr), W.listOf (List.toArray nv) 0) :: ((pl : Addr), W.listOf (List.toArray pvs) kp) :: ((of : Addr), W.listOf (List.toArray ovs) ko) :: ((rs : Addr), W.listOf (List.toArray rvs) kr) :: ((fl : Addr), W.listOf (List.toArray ((flagsI (ndsF Ed) 15).map Value.bool)) kf) :: ((nd : Addr), W.listOf (List.toArray ds) kd) :: (L + 1, oN) :: (L + 1 + 1, oM') :: ((nb : Addr), W.listOf (List.toArray vn) kn) :: (sorN w x.A V2 p3.1 ++ (chunkE w (pre ++ post) ++ rest0))) (by
      have h9 : ((x.A.P : Addr), instObj 151 x.A.dP) ∈ sorN w x.A V2 p3.1 := sorN_P
      walk_at "sub_z")
    clear N7
    walk_at "k_callR"
    rename Fr _ _ _ _ => F9
    rename News _ _ _ _ => N9
    have nr4 := nodup_four k1.nod k1.rng
    refine use_con (newsC := sorN w x.A V2 p3.1) (rest := (I, it) :: ((x.o : Addr), W.listOf (List.toArray ms) (x.ok + 1)) :: ((x.r : Addr), W.listOf (List.toArray x.rv) x.rk) :: ((nl : Addr), W.listOf (List.toArray nv) 0) :: ((pl : Addr), W.listOf (List.toArray pvs) kp) :: ((of : Addr), W.listOf (List.toArray ovs) ko) :: ((rs : Addr), W.listOf (List.toArray rvs) kr) :: ((fl : Addr), W.listOf (List.toArray ((flagsI (ndsF Ed) 15).map Value.bool)) kf) :: ((nd : Addr), W.listOf (List.toArray ds) kd) :: (L + 1, oN) :: (L + 1 + 1, oM') :: ((nb : Addr), W.listOf (List.toArray vn) kn) :: (chunkE w (pre ++ post) ++ rest0)) (ready_w w mean mg mb x.A V2 Ed p3.1 p3.2 ok2 nr4 k1.rng) B F9 X (news_sub N9 (by
      walk_at "sub_z")) T rfl (by first | assumption | rfl) rfl (Nat.le_of_ble_eq_true rfl) (Nat.le_of_ble_eq_true rfl) rfl oAx.hr ?_
    rintro r9 news' h10 tk10 F10 N10 fr10 ⟨T2, V3, rfl, rfl, ok3⟩
    have sep10 := sep_rest rfl oAx.hr fr10
    clear F9 N9 fr10
    have g1 : NeS x.o T2 := ⟨fun z => sep10 _ (.head _) _ (.tail _ (.head _)) z.symm⟩
    have g2 : NeS x.r T2 := ⟨fun z => sep10 _ (.head _) _ (mt2 (.head _)) z.symm⟩
    have m1 : NeS T2 (L + 1 + 1) := ⟨sep10 _ (.head _) (L + 1 + 1, oM') (mt8 (mt2 (.head _)))⟩
    have m2 : @LT.lt Nat _ (L + 1 + 1) I := hI (L + 1 + 1, oM) (mt4 (mt2 (.tail _ (.head _))))
    have m3 : @LT.lt Nat _ (L + 1 + 1) nl := lnl.2.2.2.2.2.2.1
    have m4 : NeS pl (L + 1 + 1) := ⟨hm2 _ (.head _)⟩
    have m5 : NeS of (L + 1 + 1) := ⟨hm2 _ (.tail _ (.head _))⟩
    have m6 : NeS rs (L + 1 + 1) := ⟨hm2 _ (mt2 (.head _))⟩
    have m7 : NeS fl (L + 1 + 1) := ⟨hm2 _ (mt2 (.tail _ (.head _)))⟩
    have m8 : NeS nd (L + 1 + 1) := ⟨hm2 _ (mt4 (.head _))⟩
    have m9 : NeS nb (L + 1 + 1) := ⟨hm2 _ (mt4 (mt2 (.head _)))⟩
    have mT : ∀ (V' : SV) (n' : Int → Int), OffT (L + 1 + 1) (sorN w x.A V' n' ++ (chunkE w (pre ++ post) ++ rest0)) := fun V' n' => by
      refine offT_sor (o := oM') (oAx.sub fun p hp => by rw [List.mem_singleton.mp hp]; exact (mt8 (mt2 (.head _)))) ⟨fun p hp => ?_⟩
      rcases List.mem_append.mp hp with hp | hp
      · obtain ⟨y, hy, hy'⟩ := chunkE_mem _ p hp
        have hy2 : y ∈ pre ++ x :: post := by
          rcases List.mem_append.mp hy with q | q
          · exact List.mem_append.mpr (.inl q)
          · exact List.mem_append.mpr (.inr (.tail _ q))
        exact hsep'.off y hy2 p.1 hy' (L + 1 + 1, oM') (mt4 (mt2 (.tail _ (.head _))))
      · exact hm2 p (mt4 (mt2 (.tail _ hp)))
    have k3 := k1.ready
    have hrdI := ok2.rd
    have hrdl := hrdI.length
    have hmsl := hms.length
    generalize hn4 : p3.2.foldl outF (nq p3.1) = n4 at k3 N10 sep10
    obtain ⟨tQ1, tQ2⟩ := tO V3 n4
    have tQ3 := mT V3 n4
    have N11 := news_sub N10 (news := ((T2 : Addr), ({ cls := .type "tuple", data := .seq V2.rd.toArray } : Obj)) :: (I, it) :: ((x.o : Addr), W.listOf (List.toArray ms) (x.ok + 1)) :: ((x.r : Addr), W.listOf (List.toArray x.rv) x.rk) :: ((nl : Addr), W.listOf (List.toArray nv) 0) :: ((pl : Addr), W.listOf (List.toArray pvs) kp) :: ((of : Addr), W.listOf (List.toArray ovs) ko) :: ((rs : Addr), W.listOf (List.toArray rvs) kr) :: ((fl : Addr), W.listOf (List.toArray ((flagsI (ndsF Ed) 15).map Value.bool)) kf) :: ((nd : Addr), W.listOf (List.toArray ds) kd) :: (L + 1, oN) :: (L + 1 + 1, oM') :: ((nb : Addr), W.listOf (List.toArray vn) kn) :: (sorN w x.A V3 n4 ++ (chunkE w (pre ++ post) ++ rest0))) (by
      walk_at "sub_z")
    clear N10
    have hmsz : (x.of.take ((k.fdiv 3).fmod (x.ov.length : Int)).toNat ++ x.of.drop (((k.fdiv 3).fmod (x.ov.length : Int)).toNat + 1)).length ≤ 4 := by
      rw [List.length_append, List.length_take, List.length_drop]; exact cut_len hti hof4
    generalize hm0 : (x.of.take ((k.fdiv 3).fmod (x.ov.length : Int)).toNat ++ x.of.drop (((k.fdiv 3).fmod (x.ov.length : Int)).toNat + 1)) = of2 at hms hmsz hmsl
    have hrvI := hx.rv
    have hDl : x.D.reverse.length ≤ 4 := by rw [List.length_reverse]; exact nodup_four hx.run.nodup hx.run.in3
    have hrvl := hrvI.length
    walk_at "k_toL"
    rw [hta] at *
    have hrI := ‹IntsAre (x.rv ++ _) _›
    have hrIl := hrI.length
    have hl9 := ‹(x.D.reverse ++ _).length = x.D.reverse.length + 1›
    rename Fr _ _ _ _ => F12
    refine LCg.ListComp_U F12 (by with_unfolding_all rfl) (by decide) (by rfl) (by decide) (by rfl) ?_
    walk_at "k_srcG"
    rename Fr _ _ _ _ => F13
    rename News _ _ _ _ => N13
    refine LCg.CompSrc.ledger (ax := x.r) (its := List.toArray (x.rv ++ [.int task _])) rfl F13 N13 (mt2 (.tail _ (.head _))) (by rw [List.size_toArray, hrIl, hl9, sizeLine_eq]; omega) ?_
    intro g14
    refine int_rest hrI (fun t => 1 * 2 ^ t.toNat) ?_ ?_
    · intro i t9 tk9 I' oI' C' oC' D' m' ys' h' tk' E' hk9 hC' hx' F' N' off' ne'
      have off0 := off'
      have ht3 : In3 t9 := by
        rcases List.mem_append.mp (List.mem_of_getElem? hk9) with q | q
        · exact hx.run.in3 _ (List.mem_reverse.mp q)
        · rw [List.mem_singleton.mp q]; exact htk.1
      have ht4 : 0 ≤ t9 ∧ t9 ≤ 3 := ht3
      walk_at "k_comp"
      exact LCg.CompEnd.intro (by assumption) (by assumption) _ (fun p hp => hp) off0 (.inr ⟨_, (mt2 (.tail _ (.head _))), rfl, _, rfl⟩) ⟨rfl, _, rfl⟩
    · intro ys hys
      unfold LCg.FinE
      intro D8 h8 tk8 F14 N14 off14
      (try clear F12); (try clear F13); (try clear N13)
      have hysl := hys.length
      rw [List.length_map, hl9] at hysl
      have m10 : NeS (L + 1 + 1) D8 := ⟨off1_mem _ off14 (L + 1 + 1, oM') (mt8 (mt2 (.tail _ (.head _))))⟩
      walk_at "k_toL"
      have hM : ((x.D.reverse ++ [task]).map fun t => (1 : Int) * 2 ^ t.toNat).sum = ((mkN (task :: x.D) : Nat) : Int) := by rw [← List.reverse_cons]; exact sum_mk _
      have hrunT : Run Ed (task :: x.D) := .cons hx.run htk.1 htk.2.1 (fun a ha => (k1.cl task (List.mem_append.mpr (.inl (by simp)))).2 a ha |> fun q => by
        rcases List.mem_append.mp q with z | z
        · exfalso
          rw [List.mem_reverse, List.mem_singleton] at z
          exact (eo.rng _ ha).2.2 z.symm
        · exact z)
      have hMk := mkN_ok hrunT.nodup hrunT.in3
      generalize hMM : ((x.D.reverse ++ [task]).map fun t => (1 : Int) * 2 ^ t.toNat).sum = M at *
      have hM0 : 0 ≤ M ∧ M ≤ 15 := by rw [hM]; have := hMk.1; omega
      have hndl := hnd.len
      rename Fr _ _ _ _ => F15
      refine LCt.Assign_ListComp_T (F₀ := F15) (by rfl) (by with_unfolding_all rfl) (by with_unfolding_all rfl) (by decide) (by rfl) (by decide) (by rfl) (by rfl) (by rfl) ?_
      walk_at "k_srcT"
      rename Fr _ _ _ _ => F16
      rename News _ _ _ _ => N16
      refine LCt.CompSrcT.range (n := 4) rfl F16 N16 (by assumption) (by decide) (by decide) (by exact Nat.le_of_ble_eq_true rfl) ?_
      intro g17
      refine filt_rest (fun j => freeI (ndsF Ed) M (0 + (j : Int))) (fun j => 0 + (j : Int)) ?_ ?_
      · intro j v I' oI' C' oC' D' m' ys' h' tk' E' hj hv hC' hx' F' N' off' ne'
        obtain ⟨t9, hv⟩ := hv
        subst hv
        have off0 := off'
        walk_at "k_comp"
        all_goals first
          | exact LCg.CompEnd.intro (by assumption) (by assumption) _ (fun p hp => hp) off0 trivial ⟨rfl, free_yes (by assumption) (by assumption), _, rfl⟩
          | exact LCg.CompEnd.intro (by assumption) (by assumption) _ (fun p hp => hp) off0 trivial ⟨rfl, free_no2 (by assumption)⟩
          | exact LCg.CompEnd.intro (by assumption) (by assumption) _ (fun p hp => hp) off0 trivial ⟨rfl, free_no1 (by assumption)⟩
      · intro zs hzs hzl
        unfold LCg.FinA
        intro D7 h18 tk18 F18 N18 off18
        (try clear F15); (try clear F16); (try clear N16)
        change IntsAre zs (pick4 (freeI (ndsF Ed) M)) at hzs
        generalize hpk9 : pick4 (freeI (ndsF Ed) M) = pk at hzs
        have hzsl := hzs.length
        have hfl := flagsI_len (ndsF Ed) 15
        have offN9 := offN
        obtain ⟨kx, o9, tM, rv9, hrv9, c9, N20⟩ : ∃ (kx : Nat) (o9 : Obj) (tM : Tok) (rv9 : List Value), IntsAre rv9 (x.D.reverse ++ [task]) ∧ o9.data = .cell (some (.int M tM)) ∧ News h₀ L h18 (((D7 : Addr), W.listOf (List.toArray zs) zs.length) :: ((D8 : Addr), LCg.lst ys) :: ((T2 : Addr), ({ cls := .type "tuple", data := .seq V2.rd.toArray } : Obj)) :: (I, it) :: ((x.o : Addr), W.listOf (List.toArray (ms ++ V2.rd)) kx) :: ((x.r : Addr), W.listOf (List.toArray rv9) (x.rk + 1)) :: ((nl : Addr), W.listOf (List.toArray nv) 0) :: ((pl : Addr), W.listOf (List.toArray pvs) kp) :: ((of : Addr), W.listOf (List.toArray ovs) ko) :: ((rs : Addr), W.listOf (List.toArray rvs) kr) :: ((fl : Addr), W.listOf (List.toArray ((flagsI (ndsF Ed) 15).map Value.bool)) kf) :: ((nd : Addr), W.listOf (List.toArray ds) kd) :: (L + 1, oN) :: (L + 1 + 1, o9) :: ((nb : Addr), W.listOf (List.toArray vn) kn) :: (sorN w x.A V3 n4 ++ (chunkE w (pre ++ post) ++ rest0))) := ⟨_, _, _, _, hrI, by assumption, N18⟩
        clear N18
        have hcut := mem_cut hx.nod (i := ((k.fdiv 3).fmod (x.ov.length : Int)).toNat) (x := task) htg
        rw [hm0] at hcut
        have hncut := nodup_cut hx.nod ((k.fdiv 3).fmod (x.ov.length : Int)).toNat
        rw [hm0] at hncut
        obtain ⟨on1, on2⟩ := out_next hx.mem hcut k1 k2 hn4
        have hnod : (of2 ++ p3.2).Nodup := List.nodup_append.mpr ⟨hncut, k1.nod, fun a ha b hb e => on2 a ha (e ▸ hb)⟩
        have hfo := free_out hnd eo hrunT k3
        have hoI := ‹IntsAre (ms ++ V2.rd) (of2 ++ p3.2)›
        refine turn_end G _ eS _ rfl fl of x.o D7 ovs (ms ++ V2.rd) zs (of2 ++ p3.2) pk (flagsI (ndsF Ed) 15) kf ko kx zs.length o9 M (k.fmod 3) tM _ _ hw3 lO gO hoI (by rw [List.length_append]; omega) hzs (by omega) c9 hM0 (by rw [hfl]) ?_ ?_ (AllAt.fr (ps := [(("flags" : Str), .ref fl), (("offers" : Str), .ref of), (("who" : Str), .int (k.fmod 3) _), (("free" : Str), .ref D7)]) (by exact ⟨rfl, rfl, rfl, rfl, trivial⟩) F18) (news_more (front := [((D7 : Addr), W.listOf (List.toArray zs) zs.length), ((x.o : Addr), W.listOf (List.toArray (ms ++ V2.rd)) kx), ((of : Addr), W.listOf (List.toArray ovs) ko), ((fl : Addr), W.listOf (List.toArray ((flagsI (ndsF Ed) 15).map Value.bool)) kf), (L + 1 + 1, o9)]) N20 ?_) ?_
        · rw [hM, atB, Int.toNat_natCast]
          exact (flN_iff_run hnd eo hMk.1).mpr ⟨_, hrunT, rfl⟩
        · intro l hl1 hl2
          rw [← hpk9]
          refine sorted_pick hl2 (hl1.nodup_iff.mpr hnod) fun t => ?_
          rw [hl1.mem_iff, on1 t, hM]
          exact hfo t
        · intro p hp
          simp only [List.mem_cons, List.not_mem_nil, or_false] at hp ⊢; grind
        intro h19 tk19 F19 N19
        (try dsimp only)
        walk_at "k_run"
        obtain ⟨x9, hx9⟩ : ∃ x9 : SE, x9 = { x with V := V3, n := n4, ov := ms ++ V2.rd, ok := kx, of := of2 ++ p3.2, rv := rv9, rk := x.rk + 1, D := task :: x.D } := ⟨_, rfl⟩
        have e9 : adrE x9 = adrE x := by rw [hx9]; rfl
        have eA : x9.A = x.A := by rw [hx9]
        have eo9 : x9.o = x.o := by rw [hx9]
        have er9 : x9.r = x.r := by rw [hx9]
        have hp9 : partE w x9 = ((x.o : Addr), W.listOf (List.toArray (ms ++ V2.rd)) kx) :: ((x.r : Addr), W.listOf (List.toArray rv9) (x.rk + 1)) :: sorN w x.A V3 n4 := by rw [hx9]; rfl
        have hpv9 : ((pre ++ x9 :: post).map fun x => Value.ref x.A.P) = pvs := by rw [← hpv]; simp [eA]
        have hov9 : ((pre ++ x9 :: post).map fun x => Value.ref x.o) = ovs := by rw [← hov]; simp [eo9]
        have hrv8 : ((pre ++ x9 :: post).map fun x => Value.ref x.r) = rvs := by rw [← hrv]; simp [er9]
        have hadr9 : (pre ++ x9 :: post).map adrE = el.map adrE := by rw [← hadr]; simp [e9]
        refine hN _ ?_
        refine AtI.intro F19 N19 (psD nb e fl pl of rs) _ (by exact ⟨rfl, rfl, rfl, rfl, rfl, rfl, trivial⟩) ?_ ?_ (offN9 (pre ++ x9 :: post) o9 hadr9) (.mk hvs (fun y hy => hnr' y (.tail _ hy)) c9 hadr9 ?_ ?_)
        · exact mt8 (.head _)
        · rw [hpv9, hov9, hrv8]
          have hch : ∀ p ∈ chunkE w (pre ++ x9 :: post), p ∈ partE w x9 ∨ p ∈ chunkE w (pre ++ post) := fun p hp => (chunkE_pick p).mp hp
          rw [hp9] at hch
          intro p hp
          revert p
          refine al_cons ?_ (al_cons ?_ (al_cons ?_ (al_cons ?_ (al_cons ?_ (al_cons ?_ (al_cons ?_ (al_cons ?_ (al_cons ?_ (fun p hp => ?_)))))))))
          · exact (mt8 (mt2 (.tail _ (.head _))))
          · exact (mt8 (mt4 (.head _)))
          · exact (mt8 (mt4 (.tail _ (.head _))))
          · exact (mt8 (mt4 (mt2 (.head _))))
          · exact (mt8 (mt4 (mt2 (.tail _ (.head _)))))
          · exact (mt16 (.head _))
          · exact (mt16 (.tail _ (.head _)))
          · exact (mt16 (mt2 (.head _)))
          · exact (mt16 (mt2 (.tail _ (.head _))))
          rcases List.mem_append.mp hp with hp | hp
          · rcases hch p hp with hp | hp
            · rcases List.mem_cons.mp hp with rfl | hp
              · exact (mt8 (.tail _ (.head _)))
              rcases List.mem_cons.mp hp with rfl | hp
              · exact (mt8 (mt2 (.head _)))
              · exact (mt16 (mt4 (List.mem_append.mpr (.inl hp))))
            · exact (mt16 (mt4 (List.mem_append.mpr (.inr (List.mem_append.mpr (.inl hp))))))
          · exact (mt16 (mt4 (List.mem_append.mpr (.inr (List.mem_append.mpr (.inr hp))))))
        · intro y hy
          have hy2 : y = x9 ∨ y ∈ pre ++ x :: post := by
            rcases List.mem_append.mp hy with q | q
            · exact .inr (List.mem_append.mpr (.inl q))
            · rcases List.mem_cons.mp q with q | q
              · exact .inl q
              · exact .inr (List.mem_append.mpr (.inr (.tail _ q)))
          rcases hy2 with rfl | hy2
          · rw [hx9]
            exact ⟨ok3, k3, hoI, by rw [List.reverse_cons]; exact hrv9, hnod, on1, hrunT⟩
          · exact hok' y hy2
        · refine hsep'.put e9 eA fun q hq => ?_
          revert q
          refine al_cons ?_ (al_cons ?_ (al_cons ?_ (al_cons ?_ (al_cons ?_ (al_cons ?_ (al_cons ?_ (al_cons ?_ (fun q hq => ?_))))))))
          · exact ⟨_, .head _, rfl⟩
          · exact ⟨_, .tail _ (.head _), rfl⟩
          · exact ⟨_, mt2 (.head _), rfl⟩
          · exact ⟨_, mt2 (.tail _ (.head _)), rfl⟩
          · exact ⟨_, mt4 (.head _), rfl⟩
          · exact ⟨_, mt4 (.tail _ (.head _)), rfl⟩
          · exact ⟨_, mt4 (mt2 (.head _)), rfl⟩
          · exact ⟨_, mt4 (mt2 (.tail _ (.head _))), rfl⟩
          exact ⟨q, mt8 hq, rfl⟩
  · rintro ps₁ u news₁ h tk ⟨_, _, c2', hadr, hok', hsep'⟩ F1 N1
    rename_i el' num' oM' mv' _ _
    have hl3 : el'.length = 3 := by
      have := congrArg List.length hadr
      rw [List.length_map, List.length_map, h3] at this
      exact this
    refine hQ el' oM' mv' h tk _ hl3 hok' c2' F1 (news_sub N1 fun p hp => ?_)
    have := runL_mem (w := w) el' p
    simp only [List.mem_cons, List.mem_append] at hp ⊢; grind
theorem all (p : Dat) : ok p := drink _ ok (by with_unfolding_all exact core) p
end S_law_runs
theorem law_runs {w : World} {mean : ExcName → Option Value} {mg mb : Str → Option Value} {h₀ h : Heap} {L fa : Addr} {cd : Value} {s : Shared} {tk : Nat} {Q : Flow → Shared → Prop} {E : Value → Shared → Prop} {u : Str → Option Value}
    (G : LawG w mean mg mb h₀) (hE : PassesOwn (model Challenge.rw_om0134_01.row.prog w) (lawA w L fa cd) (lawEnv w L fa cd) E)
    (nb e fl nd pl of rs : Nat) (ds vn : List Value) (kn kd kf kp ko kr : Nat) (Ed : List (Int × Int)) (num : List Int) (oN oM : Obj) (mv : Option Value) (rest0 : List (Addr × Obj)) (el : List SE)
    (eo : EOk Ed) (h3 : el.length = 3) (hn : IntsAre vn num) (hnz : num.length ≤ 11) (hnr : ∀ x ∈ num, 0 ≤ x ∧ x < 3600)
    (c1 : oN.data = .cell (some (.ref nd))) (c2 : oM.data = .cell mv) (hds : IntsAre ds (ndsF Ed))
    (hok : ∀ x ∈ el, SEok w Ed x)
    (hsep : SepE el (triL pl of rs kp ko kr el ++ (((fl : Addr), W.listOf (List.toArray ((flagsI (ndsF Ed) 15).map Value.bool)) kf) :: ((nd : Addr), W.listOf (List.toArray ds) kd) :: (L + 1, oN) :: (L + 1 + 1, oM) :: ((nb : Addr), W.listOf (List.toArray vn) kn) :: rest0)))
    (hm2 : ∀ p ∈ triL pl of rs kp ko kr el ++ (((fl : Addr), W.listOf (List.toArray ((flagsI (ndsF Ed) 15).map Value.bool)) kf) :: ((nd : Addr), W.listOf (List.toArray ds) kd) :: (L + 1, oN) :: ((nb : Addr), W.listOf (List.toArray vn) kn) :: rest0), @Ne Nat p.1 (L + 1 + 1))
    (F : Fr h₀ L h (kstB u (psD nb e fl pl of rs)))
    (N : News h₀ L h (triL pl of rs kp ko kr el ++ (((fl : Addr), W.listOf (List.toArray ((flagsI (ndsF Ed) 15).map Value.bool)) kf) :: ((nd : Addr), W.listOf (List.toArray ds) kd) :: (L + 1, oN) :: (L + 1 + 1, oM) :: ((nb : Addr), W.listOf (List.toArray vn) kn) :: (chunkE w el ++ rest0))))
    (hQ : ∀ (el' : List SE) (oM' : Obj) (mv' : Option Value) (h' : Heap) (tk' : Nat) (u' : Str → Option Value), el'.length = 3 → (∀ x ∈ el', SEok w Ed x) → oM'.data = .cell mv' → Fr h₀ L h' (kstB u' (psD nb e fl pl of rs)) →
      News h₀ L h' (((rs : Addr), W.listOf (List.toArray (el'.map fun x => Value.ref x.r)) kr) :: ((fl : Addr), W.listOf (List.toArray ((flagsI (ndsF Ed) 15).map Value.bool)) kf) :: (L + 1 + 1, oM') :: (runL el' ++ rest0)) → Q .next { s with heap := h', toks := tk' }) : wpAny (model Challenge.rw_om0134_01.row.prog w) (lawA w L fa cd) (exec (lawS w 9) (lawEnv w L fa cd)) Q E { s with heap := h, toks := tk } :=
  S_law_runs.all (w, mean, mg, mb, h₀, h, L, fa, cd, s, tk, Q, E, u, nb, e, fl, nd, pl, of, rs, ds, vn, kn, kd, kf, kp, ko, kr, Ed, num, oN, oM, mv, rest0, el) G hE eo h3 hn hnz hnr c1 c2 hds hok hsep hm2 F N hQ
theorem at_LawH1 : True := by
  w_top off
  exact trivial
noncomputable def s15if (w : World) : Stmt := (bodyS (lawS w 15)).getD 0 (.Pass ⟨0,0,0,0⟩)
noncomputable def s15for (w : World) : Stmt := (bodyS (s15if w)).getD 3 (.Pass ⟨0,0,0,0⟩)
theorem left_le {m a : Nat} (hm : m < 16) (ha : a < 16) {l : Int} (hl : l ≤ 4) : leftF (wordN m) (wordN a) l ≤ 4 := by
  obtain ⟨h1, h2⟩ := left_step hm ha hl
  by_cases h : 0 ≤ l ∧ (hamN m a : Int) ≤ l
  · rw [h1 h.1 h.2]; omega
  · have := h2 (by omega); omega
noncomputable abbrev psL (e fl en wd : Nat) (T : Int) (tT : Tok) (fd sa : Nat) (x : Str) (tx : Tok) (l : Int) (tl : Tok) : List (Str × Value) := [(("edges" : Str), .ref e), (("flags" : Str), .ref fl), (("ends" : Str), .ref en), (("words" : Str), .ref wd), (("total" : Str), .int T tT), (("found" : Str), .ref fd), (("state" : Str), .ref sa), (("word" : Str), .str x tx), (("left" : Str), .int l tl)]
namespace S_law_left
noncomputable def stm (w : World) (mean : ExcName → Option Value) (mg mb : Str → Option Value) (h₀ h : Heap) (L fa : Addr) (cd : Value) (s : Shared) (tk : Nat) (Q : Flow → Shared → Prop) (E : Value → Shared → Prop) (u : Str → Option Value) (e fl en wd fd sa : Nat) (T : Int) (tT tp t0 : Tok) (p a b c : Nat) (l0 : Int) (ws : List Value) (kw : Nat) (rest : List (Addr × Obj)) : Prop := ∀ (G : LawG w mean mg mb h₀) (sc : Scope) (hsc : lawScope w = sc) (st : Stmt) (hst : s15for w = st) (hE : PassesOwn (model Challenge.rw_om0134_01.row.prog w) (callerA.deeper (envOfC "law" sc L fa cd)) (envOfC "law" sc L fa cd) E) (hp : p < 16) (ha : a < 16) (hb : b < 16) (hc : c < 16) (hws : StrsAre ws [wordN a, wordN b, wordN c]) (hl0 : l0 ≤ 4) (F : Fr h₀ L h (kstB u (psL e fl en wd T tT fd sa (wordN p) tp l0 t0))) (N : News h₀ L h (((wd : Addr), W.listOf (List.toArray ws) kw) :: rest)) (hQ : ∀ (t : Tok) (h' : Heap) (tk' : Nat) (u' : Str → Option Value), Fr h₀ L h' (kstB u' (psL e fl en wd T tT fd sa (wordN p) tp (leftWs (wordN p) [wordN a, wordN b, wordN c] l0) t)) → News h₀ L h' (((wd : Addr), W.listOf (List.toArray ws) kw) :: rest) → Q .next { s with heap := h', toks := tk' }), wpAny (model Challenge.rw_om0134_01.row.prog w) (callerA.deeper (envOfC "law" sc L fa cd)) (exec st (envOfC "law" sc L fa cd)) Q E { s with heap := h, toks := tk }
noncomputable abbrev Dat := World × (ExcName → Option Value) × (Str → Option Value) × (Str → Option Value) × Heap × Heap × Addr × Addr × Value × Shared × Nat × (Flow → Shared → Prop) × (Value → Shared → Prop) × (Str → Option Value) × Nat × Nat × Nat × Nat × Nat × Nat × Int × Tok × Tok × Tok × Nat × Nat × Nat × Nat × Int × List Value × Nat × (List (Addr × Obj))
noncomputable def ok (p : Dat) : Prop := let q1 := p.2.2.2.2.2.2.2.2; let q2 := q1.2.2.2.2.2.2.2.2; let q3 := q2.2.2.2.2.2.2.2.2; stm p.1 p.2.1 p.2.2.1 p.2.2.2.1 p.2.2.2.2.1 p.2.2.2.2.2.1 p.2.2.2.2.2.2.1 p.2.2.2.2.2.2.2.1 q1.1 q1.2.1 q1.2.2.1 q1.2.2.2.1 q1.2.2.2.2.1 q1.2.2.2.2.2.1 q1.2.2.2.2.2.2.1 q1.2.2.2.2.2.2.2.1 q2.1 q2.2.1 q2.2.2.1 q2.2.2.2.1 q2.2.2.2.2.1 q2.2.2.2.2.2.1 q2.2.2.2.2.2.2.1 q2.2.2.2.2.2.2.2.1 q3.1 q3.2.1 q3.2.2.1 q3.2.2.2.1 q3.2.2.2.2.1 q3.2.2.2.2.2.1 q3.2.2.2.2.2.2.1 q3.2.2.2.2.2.2.2
@[irreducible] noncomputable def cc : Dat := @Classical.epsilon Dat ⟨(world0, fun _ => none, fun _ => none, fun _ => none, {}, {}, (0 : Nat), (0 : Nat), .none, {}, 0, fun _ _ => True, fun _ _ => True, fun _ => none, 0, 0, 0, 0, 0, 0, 0, (0 : Nat), (0 : Nat), (0 : Nat), 0, 0, 0, 0, 0, [], 0, [])⟩ fun p => ¬ ok p
noncomputable def c1 := cc.2.2.2.2.2.2.2.2
noncomputable def c2 := c1.2.2.2.2.2.2.2.2
noncomputable def c3 := c2.2.2.2.2.2.2.2.2
@[irreducible] noncomputable def w : World := cc.1
@[irreducible] noncomputable def mean : ExcName → Option Value := cc.2.1
@[irreducible] noncomputable def mg : Str → Option Value := cc.2.2.1
@[irreducible] noncomputable def mb : Str → Option Value := cc.2.2.2.1
@[irreducible] noncomputable def h₀ : Heap := cc.2.2.2.2.1
@[irreducible] noncomputable def h : Heap := cc.2.2.2.2.2.1
@[irreducible] noncomputable def L : Addr := cc.2.2.2.2.2.2.1
@[irreducible] noncomputable def fa : Addr := cc.2.2.2.2.2.2.2.1
@[irreducible] noncomputable def cd : Value := c1.1
@[irreducible] noncomputable def s : Shared := c1.2.1
@[irreducible] noncomputable def tk : Nat := c1.2.2.1
@[irreducible] noncomputable def Q : Flow → Shared → Prop := c1.2.2.2.1
@[irreducible] noncomputable def E : Value → Shared → Prop := c1.2.2.2.2.1
@[irreducible] noncomputable def u : Str → Option Value := c1.2.2.2.2.2.1
@[irreducible] noncomputable def e : Nat := c1.2.2.2.2.2.2.1
@[irreducible] noncomputable def fl : Nat := c1.2.2.2.2.2.2.2.1
@[irreducible] noncomputable def en : Nat := c2.1
@[irreducible] noncomputable def wd : Nat := c2.2.1
@[irreducible] noncomputable def fd : Nat := c2.2.2.1
@[irreducible] noncomputable def sa : Nat := c2.2.2.2.1
@[irreducible] noncomputable def T : Int := c2.2.2.2.2.1
@[irreducible] noncomputable def tT : Tok := c2.2.2.2.2.2.1
@[irreducible] noncomputable def tp : Tok := c2.2.2.2.2.2.2.1
@[irreducible] noncomputable def t0 : Tok := c2.2.2.2.2.2.2.2.1
@[irreducible] noncomputable def p : Nat := c3.1
@[irreducible] noncomputable def a : Nat := c3.2.1
@[irreducible] noncomputable def b : Nat := c3.2.2.1
@[irreducible] noncomputable def c : Nat := c3.2.2.2.1
@[irreducible] noncomputable def l0 : Int := c3.2.2.2.2.1
@[irreducible] noncomputable def ws : List Value := c3.2.2.2.2.2.1
@[irreducible] noncomputable def kw : Nat := c3.2.2.2.2.2.2.1
@[irreducible] noncomputable def rest : List (Addr × Obj) := c3.2.2.2.2.2.2.2
theorem core : stm w mean mg mb h₀ h L fa cd s tk Q E u e fl en wd fd sa T tT tp t0 p a b c l0 ws kw rest := by
  intro G sc hsc st hst hE hp ha hb hc hws hl0 F N hQ
  subst hst
  subst hsc
  revert hE
  have eS := lawScope_eq w
  rw [show (hd.heap_1 w.params).lookup 203 = some ⟨_, _, .func (fnOf _ _ _ _ _ _ _ _ _ _ _ _), _⟩ from rfl] at eS
  dsimp only [scopeOf, fnOf] at eS
  have eT : s15for w = Stmt.For _ _ _ _ _ := rfl
  rw [eS, eT]
  clear eS eT
  intro hE
  have B := G.below
  have X := G.inn
  revert X; k_fill; intro X
  have TT := G.top
  dsimp only [kstB, psL] at F
  refine for_listS (fun r ps n => ∃ (qs : List Nat) (l : Int) (t : Tok), StrsAre r (qs.map wordN) ∧ (∀ q ∈ qs, q < 16) ∧ l ≤ 4 ∧ SameI (leftWs (wordN p) (qs.map wordN) l) (leftWs (wordN p) [wordN a, wordN b, wordN c] l0) ∧ ps = psL e fl en wd T tT fd sa (wordN p) tp l t ∧ n = ((wd : Addr), W.listOf (List.toArray ws) kw) :: rest)
    (psL e fl en wd T tT fd sa (wordN p) tp l0 t0) rfl F N (.head _) rfl rfl (by exact ⟨rfl, rfl, rfl, rfl, rfl, rfl, rfl, rfl, rfl, trivial⟩) (by exact ⟨[a, b, c], l0, t0, hws, (fun q hq => by
      rcases List.mem_cons.mp hq with rfl | hq
      · exact ha
      rcases List.mem_cons.mp hq with rfl | hq
      · exact hb
      · rw [List.mem_singleton.mp hq]; exact hc), hl0, ⟨rfl⟩, rfl, rfl⟩) (by rintro r ps n ⟨qs, l, t, _, _, _, _, _, rfl⟩; exact .head _) ?_ ?_ hE ?_
  · rintro I v r ps₁ u news₁ it h tk Pp hI hit ⟨qs, l, t, hr, hqs, hl4, hsame, rfl, rfl⟩ F1 N1 hN - - -
    (try dsimp only [kstB, psL] at F1)
    clear F N
    cases qs with
    | nil => cases hr
    | cons q qs =>
    cases hr with
    | cons _ tv hr =>
    have hq := hqs q (.head _)
    have hle := left_le hp hq hl4
    have hstep : leftWs (wordN p) (qs.map wordN) (leftF (wordN p) (wordN q) l) = leftWs (wordN p) ((q :: qs).map wordN) l := rfl
    have hsame2 : SameI (leftWs (wordN p) (qs.map wordN) (leftF (wordN p) (wordN q) l)) (leftWs (wordN p) [wordN a, wordN b, wordN c] l0) := ⟨hstep.trans hsame.eq⟩
    clear hstep hsame
    have hoff : ∀ z ∈ ((wd : Addr), W.listOf (List.toArray ws) kw) :: rest, z.1 ≠ I := fun z hz => Nat.ne_of_lt (hI z hz)
    have hyes : 0 ≤ l → leftF (wordN p) (wordN q) l = l - levF (wordN p) (wordN q) l := fun h => if_pos h
    have hno : ¬ 0 ≤ l → leftF (wordN p) (wordN q) l = l := fun h => if_neg h
    replace hle := Nat.le_refl 0 |> fun _ => hle
    generalize hlf : leftF (wordN p) (wordN q) l = lf at hle hsame2 hyes hno
    clear hlf
    walk_at "k_callR"
    · rename Fr _ _ _ _ => F5
      rename News _ _ _ _ => N5
      refine use_conR (newsC := []) (lev_con w mean mg mb (wordN p) (wordN q) _ _ _ l (by rw [word_len p hp]; decide) (by rw [word_len q hq]; decide) (by rw [word_len p hp, word_len q hq]) ⟨by assumption, by omega⟩).toS (fun _ _ _ _ q => nomatch q) G F5 N5 (fun _ q => nomatch q) rfl (by first | assumption | rfl) rfl (Nat.le_of_ble_eq_true rfl) (Nat.le_of_ble_eq_true rfl) ?_
      rintro r n h9 tk9 F9 N9 - ⟨rfl, t9, rfl⟩
      simp only [List.nil_append] at N9
      have e9 := hyes (by assumption)
      clear hyes hno
      subst e9
      (try clear F5); (try clear N5)
      walk_at "k_run"
      rename Fr _ _ _ _ => F6
      rename News _ _ _ _ => N6
      refine hN _ ?_
      exact AtI.intro F6 N6 (psL e fl en wd T tT fd sa (wordN p) tp (l - levF (wordN p) (wordN q) l) _) _ (by exact ⟨rfl, rfl, rfl, rfl, rfl, rfl, rfl, rfl, rfl, trivial⟩) (.head _) (fun z hz => .tail _ hz) hoff ⟨qs, _, _, hr, fun z hz => hqs z (.tail _ hz), hle, hsame2, rfl, rfl⟩
    · have e9 := hno (by assumption)
      clear hyes hno
      subst e9
      rename Fr _ _ _ _ => F6
      rename News _ _ _ _ => N6
      refine hN _ ?_
      exact AtI.intro F6 N6 (psL e fl en wd T tT fd sa (wordN p) tp lf _) _ (by exact ⟨rfl, rfl, rfl, rfl, rfl, rfl, rfl, rfl, rfl, trivial⟩) (.head _) (fun z hz => .tail _ hz) hoff ⟨qs, _, _, hr, fun z hz => hqs z (.tail _ hz), hle, hsame2, rfl, rfl⟩
  · rintro ps₁ u news₁ h tk ⟨qs, l, t, hr, _, _, hsame, rfl, rfl⟩ F1 N1
    cases qs with
    | cons q qs => cases hr
    | nil =>
    have e9 : l = leftWs (wordN p) [wordN a, wordN b, wordN c] l0 := hsame.eq
    rw [e9] at F1
    exact hQ t h tk _ F1 N1
  · walk_at "k_run"
    assumption
theorem all (p : Dat) : ok p := drink _ ok (by with_unfolding_all exact core) p
end S_law_left
theorem law_left {w : World} {mean : ExcName → Option Value} {mg mb : Str → Option Value} {h₀ h : Heap} {L fa : Addr} {cd : Value} {s : Shared} {tk : Nat} {Q : Flow → Shared → Prop} {E : Value → Shared → Prop} {u : Str → Option Value}
    (G : LawG w mean mg mb h₀) (sc : Scope) (hsc : lawScope w = sc) (st : Stmt) (hst : s15for w = st) (hE : PassesOwn (model Challenge.rw_om0134_01.row.prog w) (callerA.deeper (envOfC "law" sc L fa cd)) (envOfC "law" sc L fa cd) E)
    (e fl en wd fd sa : Nat) (T : Int) (tT tp t0 : Tok) (p a b c : Nat) (l0 : Int) (ws : List Value) (kw : Nat) (rest : List (Addr × Obj))
    (hp : p < 16) (ha : a < 16) (hb : b < 16) (hc : c < 16) (hws : StrsAre ws [wordN a, wordN b, wordN c]) (hl0 : l0 ≤ 4)
    (F : Fr h₀ L h (kstB u (psL e fl en wd T tT fd sa (wordN p) tp l0 t0))) (N : News h₀ L h (((wd : Addr), W.listOf (List.toArray ws) kw) :: rest))
    (hQ : ∀ (t : Tok) (h' : Heap) (tk' : Nat) (u' : Str → Option Value), Fr h₀ L h' (kstB u' (psL e fl en wd T tT fd sa (wordN p) tp (leftWs (wordN p) [wordN a, wordN b, wordN c] l0) t)) → News h₀ L h' (((wd : Addr), W.listOf (List.toArray ws) kw) :: rest) → Q .next { s with heap := h', toks := tk' }) : wpAny (model Challenge.rw_om0134_01.row.prog w) (callerA.deeper (envOfC "law" sc L fa cd)) (exec st (envOfC "law" sc L fa cd)) Q E { s with heap := h, toks := tk } :=
  S_law_left.all (w, mean, mg, mb, h₀, h, L, fa, cd, s, tk, Q, E, u, e, fl, en, wd, fd, sa, T, tT, tp, t0, p, a, b, c, l0, ws, kw, rest) G sc hsc st hst hE hp ha hb hc hws hl0 F N hQ
theorem at_LawH : True := by
  w_top off
  k_with "k_toH" => repeat' (first | (walk_at "no_loop"; (fail_if_success (with_reducible show wpAny _ _ (call (Value.ref _) _) _ _ _)); (fail_if_success (with_reducible show wpAny _ _ (exec (Stmt.Assign [_] (Expr.ListComp _ _ _ _) _) _) _ _ _)); first | (k_unfold; (try dsimp only)) | walk1) | (dsimp only; walk_at "no_loop"; (fail_if_success (with_reducible show wpAny _ _ (call (Value.ref _) _) _ _ _)); (fail_if_success (with_reducible show wpAny _ _ (exec (Stmt.Assign [_] (Expr.ListComp _ _ _ _) _) _) _ _ _)); walk1) | fail "no step")
  exact trivial
noncomputable def stL (fs : List (LE × Nat)) : List (Addr × Obj) := fs.map fun z => leO z.1
noncomputable def stV (fs : List (LE × Nat)) : List Value := fs.map fun z => Value.ref z.1.T
noncomputable abbrev psH (e fl en wd : Nat) (T : Int) (tT : Tok) (fd : Nat) : List (Str × Value) := [(("edges" : Str), .ref e), (("flags" : Str), .ref fl), (("ends" : Str), .ref en), (("words" : Str), .ref wd), (("total" : Str), .int T tT), (("found" : Str), .ref fd)]
theorem found_succ (ns : List Int) (a b c i : Nat) : foundN ns a b c (i + 1) = foundN ns a b c i ++ if okM ns a b c i = true then [i] else [] := by
  unfold foundN
  rw [List.range_succ, List.filter_append]
  congr 1
  by_cases h : okM ns a b c i = true <;> simp [h]
namespace S_law_found
noncomputable def stm (w : World) (mean : ExcName → Option Value) (mg mb : Str → Option Value) (h₀ h : Heap) (L fa : Addr) (cd : Value) (s : Shared) (tk : Nat) (Q : Flow → Shared → Prop) (E : Value → Shared → Prop) (u : Str → Option Value) (e fl en wd : Nat) (tT : Tok) (ns : List Int) (a b c : Nat) (ws : List Value) (kw kf : Nat) (oM : Obj) (mv : Option Value) (rest : List (Addr × Obj)) (r : List Stmt) : Prop := ∀ (G : LawG w mean mg mb h₀) (hE : PassesOwn (model Challenge.rw_om0134_01.row.prog w) (lawA w L fa cd) (lawEnv w L fa cd) E) (ha : a < 16) (hb : b < 16) (hc : c < 16) (hws : StrsAre ws [wordN a, wordN b, wordN c]) (c2 : oM.data = .cell mv) (hflag : flN ns (majN a b c) = true) (hm : ∀ q ∈ ((wd : Addr), W.listOf (List.toArray ws) kw) :: ((fl : Addr), W.listOf (List.toArray ((flagsI ns 15).map Value.bool)) kf) :: rest, @Ne Nat q.1 (L + 1 + 1)) (F : Fr h₀ L h (kstB u (psG e fl en wd (totI a b c 3) tT))) (N : News h₀ L h (((wd : Addr), W.listOf (List.toArray ws) kw) :: ((fl : Addr), W.listOf (List.toArray ((flagsI ns 15).map Value.bool)) kf) :: (L + 1 + 1, oM) :: rest)) (hQ : ∀ (fd : Nat) (st : LE) (kd : Nat) (h' : Heap) (tk' : Nat) (u' : Str → Option Value), IntsAre st.vs (setN (majN a b c)) → Fr h₀ L h' (kstB u' [(("edges" : Str), .ref e), (("ends" : Str), .ref en), (("found" : Str), .ref fd)]) → News h₀ L h' (((fd : Addr), W.listOf (List.toArray [.ref st.T]) kd) :: leO st :: rest) →
      wpAny (model Challenge.rw_om0134_01.row.prog w) (lawA w L fa cd) (execs r (lawEnv w L fa cd)) Q E { s with heap := h', toks := tk' }), wpAny (model Challenge.rw_om0134_01.row.prog w) (lawA w L fa cd) (execs (lawS w 14 :: lawS w 15 :: r) (lawEnv w L fa cd)) Q E { s with heap := h, toks := tk }
noncomputable abbrev Dat := World × (ExcName → Option Value) × (Str → Option Value) × (Str → Option Value) × Heap × Heap × Addr × Addr × Value × Shared × Nat × (Flow → Shared → Prop) × (Value → Shared → Prop) × (Str → Option Value) × Nat × Nat × Nat × Nat × Tok × List Int × Nat × Nat × Nat × List Value × Nat × Nat × Obj × Option Value × (List (Addr × Obj)) × List Stmt
noncomputable def ok (p : Dat) : Prop := let q1 := p.2.2.2.2.2.2.2.2; let q2 := q1.2.2.2.2.2.2.2.2; let q3 := q2.2.2.2.2.2.2.2.2; stm p.1 p.2.1 p.2.2.1 p.2.2.2.1 p.2.2.2.2.1 p.2.2.2.2.2.1 p.2.2.2.2.2.2.1 p.2.2.2.2.2.2.2.1 q1.1 q1.2.1 q1.2.2.1 q1.2.2.2.1 q1.2.2.2.2.1 q1.2.2.2.2.2.1 q1.2.2.2.2.2.2.1 q1.2.2.2.2.2.2.2.1 q2.1 q2.2.1 q2.2.2.1 q2.2.2.2.1 q2.2.2.2.2.1 q2.2.2.2.2.2.1 q2.2.2.2.2.2.2.1 q2.2.2.2.2.2.2.2.1 q3.1 q3.2.1 q3.2.2.1 q3.2.2.2.1 q3.2.2.2.2.1 q3.2.2.2.2.2
@[irreducible] noncomputable def cc : Dat := @Classical.epsilon Dat ⟨(world0, fun _ => none, fun _ => none, fun _ => none, {}, {}, (0 : Nat), (0 : Nat), .none, {}, 0, fun _ _ => True, fun _ _ => True, fun _ => none, 0, 0, 0, 0, (0 : Nat), [], 0, 0, 0, [], 0, 0, default, none, [], [])⟩ fun p => ¬ ok p
noncomputable def c1 := cc.2.2.2.2.2.2.2.2
noncomputable def c2 := c1.2.2.2.2.2.2.2.2
noncomputable def c3 := c2.2.2.2.2.2.2.2.2
@[irreducible] noncomputable def w : World := cc.1
@[irreducible] noncomputable def mean : ExcName → Option Value := cc.2.1
@[irreducible] noncomputable def mg : Str → Option Value := cc.2.2.1
@[irreducible] noncomputable def mb : Str → Option Value := cc.2.2.2.1
@[irreducible] noncomputable def h₀ : Heap := cc.2.2.2.2.1
@[irreducible] noncomputable def h : Heap := cc.2.2.2.2.2.1
@[irreducible] noncomputable def L : Addr := cc.2.2.2.2.2.2.1
@[irreducible] noncomputable def fa : Addr := cc.2.2.2.2.2.2.2.1
@[irreducible] noncomputable def cd : Value := c1.1
@[irreducible] noncomputable def s : Shared := c1.2.1
@[irreducible] noncomputable def tk : Nat := c1.2.2.1
@[irreducible] noncomputable def Q : Flow → Shared → Prop := c1.2.2.2.1
@[irreducible] noncomputable def E : Value → Shared → Prop := c1.2.2.2.2.1
@[irreducible] noncomputable def u : Str → Option Value := c1.2.2.2.2.2.1
@[irreducible] noncomputable def e : Nat := c1.2.2.2.2.2.2.1
@[irreducible] noncomputable def fl : Nat := c1.2.2.2.2.2.2.2.1
@[irreducible] noncomputable def en : Nat := c2.1
@[irreducible] noncomputable def wd : Nat := c2.2.1
@[irreducible] noncomputable def tT : Tok := c2.2.2.1
@[irreducible] noncomputable def ns : List Int := c2.2.2.2.1
@[irreducible] noncomputable def a : Nat := c2.2.2.2.2.1
@[irreducible] noncomputable def b : Nat := c2.2.2.2.2.2.1
@[irreducible] noncomputable def c : Nat := c2.2.2.2.2.2.2.1
@[irreducible] noncomputable def ws : List Value := c2.2.2.2.2.2.2.2.1
@[irreducible] noncomputable def kw : Nat := c3.1
@[irreducible] noncomputable def kf : Nat := c3.2.1
@[irreducible] noncomputable def oM : Obj := c3.2.2.1
@[irreducible] noncomputable def mv : Option Value := c3.2.2.2.1
@[irreducible] noncomputable def rest : List (Addr × Obj) := c3.2.2.2.2.1
@[irreducible] noncomputable def r : List Stmt := c3.2.2.2.2.2
theorem core : stm w mean mg mb h₀ h L fa cd s tk Q E u e fl en wd tT ns a b c ws kw kf oM mv rest r := by
  intro G hE ha hb hc hws c2 hflag hm F N hQ
  revert hE hQ
  unfold lawA lawEnv
  have eS := lawScope_eq w
  rw [show (hd.heap_1 w.params).lookup 203 = some ⟨_, _, .func (fnOf _ _ _ _ _ _ _ _ _ _ _ _), _⟩ from rfl] at eS
  dsimp only [scopeOf, fnOf] at eS
  have eT14 : lawS w 14 = Stmt.Assign _ _ _ := rfl
  have eT15 : lawS w 15 = Stmt.For _ _ _ _ _ := rfl
  rw [eS, eT14, eT15]
  clear eT14 eT15
  intro hE hQ
  have B := G.below
  have X := G.inn
  revert X; k_fill; intro X
  have TT := G.top
  have hT : 0 ≤ totI a b c 3 ∧ totI a b c 3 ≤ 8 := by
    have := ham_far ha hb hc
    show 0 ≤ (0 : Int) + (hamN a c : Int) + (hamN b a : Int) + (hamN c b : Int) ∧ (0 : Int) + (hamN a c : Int) + (hamN b a : Int) + (hamN c b : Int) ≤ 8
    omega
  have hhalf : SameI ((totI a b c 3).fdiv 2) (halfI a b c) := ⟨rfl⟩
  have hl4 : (totI a b c 3).fdiv 2 ≤ 4 := by
    rw [Int.fdiv_eq_ediv_of_nonneg _ (by decide)]
    omega
  generalize totI a b c 3 = T at *
  dsimp only [kstB, psG] at F
  have m1 : NeS wd (L + 1 + 1) := ⟨hm _ (.head _)⟩
  have m2 : NeS fl (L + 1 + 1) := ⟨hm _ (.tail _ (.head _))⟩
  have m3 : ∀ q ∈ rest, @Ne Nat q.1 (L + 1 + 1) := fun q hq => hm q (mt2 hq)
  clear hm
  walk_at "k_toH"
  rename Fr _ _ _ _ => F0
  rename News _ _ _ _ => N0
  refine name1 N0 ?_
  intro fd efd
  subst efd
  have lfd := ‹_ ∧ _ ∧ _ ∧ AllLt fd rest›
  have ufd := under_of lfd.2.2.2
  refine For_turns (by assumption) ?_
  walk_at "k_to"
  rename Fr _ _ _ _ => F1
  rename News _ _ _ _ => N1
  have hfl := flagsI_len ns 15
  refine for_range0 (n := 16) (fun i ps n => ∃ (fs : List (LE × Nat)) (kd : Nat) (oM' : Obj) (mv' : Option Value), fs.map (·.2) = foundN ns a b c i ∧ (∀ z ∈ fs, IntsAre z.1.vs (setN z.2)) ∧ (∀ z ∈ fs, @Ne Nat z.1.T fd ∧ @Ne Nat z.1.T (L + 1 + 1)) ∧ fs.length ≤ i ∧ oM'.data = .cell mv' ∧ ps = psH e fl en wd T tT fd ∧
      n = ((fd : Addr), W.listOf (List.toArray (stV fs)) kd) :: ((wd : Addr), W.listOf (List.toArray ws) kw) :: ((fl : Addr), W.listOf (List.toArray ((flagsI ns 15).map Value.bool)) kf) :: (L + 1 + 1, oM') :: (stL fs ++ rest))
    (psH e fl en wd T tT fd) rfl (by assumption) (by decide) F1 N1 (by exact ⟨rfl, rfl, rfl, rfl, rfl, rfl, trivial⟩) (by exact ⟨[], 0, oM, mv, rfl, (fun _ q => nomatch q), (fun _ q => nomatch q), Nat.le_refl _, c2, rfl, rfl⟩) ?_ ?_
  · rintro I i t ps₁ u news₁ it h tk Pp hi hI hit ⟨fs, kd, oM', mv', hfs, hset, hgt, hlen, c2', rfl, rfl⟩ F2 N2 hN - - -
    (try dsimp only [kstB, psH] at F2)
    (try clear F0); (try clear N0); (try clear F1); (try clear N1); (try clear F); (try clear N)
    have lI := hI
    k_lt lI
    have q1 : OffT (L + 1 + 1) (stL fs ++ rest) := ⟨fun p hp => by
      rcases List.mem_append.mp hp with hp | hp
      · obtain ⟨z, hz, rfl⟩ := List.mem_map.mp hp
        exact (hgt z hz).2
      · exact m3 p hp⟩
    have q2 : OffT fd (stL fs ++ rest) := ⟨fun p hp => by
      rcases List.mem_append.mp hp with hp | hp
      · obtain ⟨z, hz, rfl⟩ := List.mem_map.mp hp
        exact (hgt z hz).1
      · exact Nat.ne_of_lt (ufd.lt p hp)⟩
    have offI : ∀ p ∈ stL fs ++ rest, @Ne Nat p.1 I := fun p hp => by
      rcases List.mem_append.mp hp with hp' | hp'
      · obtain ⟨z, hz, rfl⟩ := List.mem_map.mp hp'
        intro q
        have y1 := (N2 (I, it) (.head _)).1
        have y2 := (N2 (leO z.1) (mt4 (.tail _ hp))).1
        have q' : (leO z.1).1 = I := q
        rw [q', y1] at y2
        injection y2 with y2
        exact absurd ((congrArg Obj.cls y2).symm.trans hit) (type_ne (by decide))
      · exact Nat.ne_of_lt (hI p (mt4 hp'))
    have hoffN : ∀ (fs9 : List (LE × Nat)) (kd9 : Nat) (oM9 : Obj), (∀ p ∈ stL fs9 ++ rest, @Ne Nat p.1 I) → ∀ p ∈ ((fd : Addr), W.listOf (List.toArray (stV fs9)) kd9) :: ((wd : Addr), W.listOf (List.toArray ws) kw) :: ((fl : Addr), W.listOf (List.toArray ((flagsI ns 15).map Value.bool)) kf) :: (L + 1 + 1, oM9) :: (stL fs9 ++ rest), p.1 ≠ I := fun fs9 kd9 oM9 h9 p hp => by
      revert p
      refine al_cons ?_ (al_cons ?_ (al_cons ?_ (al_cons ?_ (fun p hp => ?_))))
      · exact Nat.ne_of_lt (hI ((fd : Addr), W.listOf (List.toArray []) 0) (.head _))
      · exact Nat.ne_of_lt (hI _ (.tail _ (.head _)))
      · exact Nat.ne_of_lt (hI _ (mt2 (.head _)))
      · exact Nat.ne_of_lt (hI (L + 1 + 1, oM) (mt2 (.tail _ (.head _))))
      · exact h9 p hp
    have hstv : (stV fs).length ≤ 16 := by unfold stV; rw [List.length_map]; omega
    walk_at "k_toH"
    rotate_left
    · have h9 := ‹atB (flagsI ns 15) ((i : Nat) : Int) = false›
      rw [atB, Int.toNat_natCast] at h9
      have hno : ¬ okM ns a b c i = true := by
        unfold okM
        rw [show flN ns i = false from h9]
        exact Bool.false_ne_true
      rename Fr _ _ _ _ => F3
      rename News _ _ _ _ => N3
      refine hN _ ?_
      exact AtI.intro F3 N3 (psH e fl en wd T tT fd) _ (by exact ⟨rfl, rfl, rfl, rfl, rfl, rfl, trivial⟩) (.head _) (fun p hp => .tail _ hp) (hoffN fs kd _ offI) ⟨fs, kd, _, _, by rw [found_succ, if_neg hno, List.append_nil]; exact hfs, hset, hgt, Nat.le_succ_of_le hlen, by assumption, rfl, rfl⟩
    · have h9 := ‹atB (flagsI ns 15) ((i : Nat) : Int) = true›
      rw [atB, Int.toNat_natCast] at h9
      have hyes : flN ns i = true := h9
      clear h9
      rename Fr _ _ _ _ => F3
      refine LCt.Assign_ListComp_T (F₀ := F3) (by rfl) (by with_unfolding_all rfl) (by with_unfolding_all rfl) (by decide) (by rfl) (by decide) (by rfl) (by rfl) (by rfl) ?_
      walk_at "k_srcT"
      rename Fr _ _ _ _ => F4
      rename News _ _ _ _ => N4
      refine LCt.CompSrcT.range (n := 4) rfl F4 N4 (by assumption) (by decide) (by decide) (by exact Nat.le_of_ble_eq_true rfl) ?_
      intro g5
      refine filt_rest (fun j => bitI (i : Int) (0 + (j : Int))) (fun j => 0 + (j : Int)) ?_ ?_
      · intro j v I' oI' C' oC' D' m' ys' h' tk' E' hj hv hC' hx' F' N' off' ne'
        obtain ⟨t9, hv⟩ := hv
        subst hv
        have off0 := off'
        walk_at "k_comp"
        all_goals first
          | exact LCg.CompEnd.intro (by assumption) (by assumption) _ (fun p hp => hp) off0 trivial ⟨rfl, decide_eq_true (by assumption), _, rfl⟩
          | exact LCg.CompEnd.intro (by assumption) (by assumption) _ (fun p hp => hp) off0 trivial ⟨rfl, decide_eq_false (by assumption)⟩
      · intro zs hzs hzl
        unfold LCg.FinA
        intro sa h6 tk6 F6 N6 off6
        (try clear F2); (try clear N2); (try clear F3); (try clear F4); (try clear N4)
        change IntsAre zs (setN i) at hzs
        obtain ⟨o9, tM, c9, N7⟩ : ∃ (o9 : Obj) (tM : Tok), o9.data = .cell (some (.int (i : Int) tM)) ∧ News h₀ L h6 (((sa : Addr), W.listOf (List.toArray zs) zs.length) :: (I, it) :: ((fd : Addr), W.listOf (List.toArray (stV fs)) kd) :: ((wd : Addr), W.listOf (List.toArray ws) kw) :: ((fl : Addr), W.listOf (List.toArray ((flagsI ns 15).map Value.bool)) kf) :: (L + 1 + 1, o9) :: (stL fs ++ rest)) := ⟨_, _, by assumption, N6⟩
        have n1 : @Ne Nat fd sa := off1_mem _ off6 ((fd : Addr), W.listOf (List.toArray (stV fs)) kd) (.tail _ (.head _))
        have n2 : @Ne Nat (L + 1 + 1) sa := off1_mem _ off6 (L + 1 + 1, _) (mt4 (.head _))
        have n3 : @Ne Nat I sa := off1_mem _ off6 (I, it) (.head _)
        clear off6 N6
        walk_at "k_toH"
        rename Fr _ _ _ _ => F8
        rename News _ _ _ _ => N8
        refine use_conR (newsC := [((sa : Addr), W.listOf (List.toArray zs) zs.length)]) (word_con w mean mg mb sa zs (setN i) zs.length hzs (set_len hi)).toS (by rintro r n ⟨rfl, _⟩ p hp; exact hp) G F8 N8 (fun p hp => by rw [List.mem_singleton.mp hp]; exact .head _) rfl (by first | assumption | rfl) rfl (Nat.le_of_ble_eq_true rfl) (Nat.le_of_ble_eq_true rfl) ?_
        rintro r n h9 tk9 F9 N9 - ⟨rfl, t9, rfl⟩
        replace N9 := news_sub N9 (fun p hp => List.mem_append.mpr (.inr hp))
        (try clear F8); (try clear N8); (try clear F6); (try clear N7)
        walk_at "k_toH"
        rename Fr _ _ _ _ => F10
        rename News _ _ _ _ => N10
        refine law_left G _ eS _ rfl hE e fl en wd fd sa T tT _ _ i a b c (T.fdiv 2) ws kw _ hi ha hb hc hws hl4 (AllAt.fr (ps := psL e fl en wd T tT fd sa (wordN i) _ (T.fdiv 2) _) (by exact ⟨rfl, rfl, rfl, rfl, rfl, rfl, rfl, rfl, rfl, trivial⟩) F10) (news_more (front := [((wd : Addr), W.listOf (List.toArray ws) kw)]) N10 (fun p hp => by rw [List.mem_singleton.mp hp]; exact mt2 (.tail _ (.head _)))) ?_
        rintro tl h11 tk11 u11 F11 N11
        (try dsimp only)
        have hlf : SameI (leftWs (wordN i) [wordN a, wordN b, wordN c] (T.fdiv 2)) (leftWs (wordN i) [wordN a, wordN b, wordN c] (halfI a b c)) := ⟨by rw [hhalf.eq]⟩
        generalize leftWs (wordN i) [wordN a, wordN b, wordN c] (T.fdiv 2) = lf at hlf F11
        have N12 := news_sub N11 (fun p hp => .tail _ hp)
        clear N11 N10 F10
        (try clear N9); (try clear F9)
        dsimp only [kstB, psL] at F11
        have n4 : NeS fd sa := ⟨n1⟩
        have n5 : NeS (L + 1 + 1) sa := ⟨n2⟩
        have n6 : NeS I sa := ⟨n3⟩
        have hn1 := n1
        have hn2 := n2
        walk_at "k_run"
        · have hok : okM ns a b c i = true := by
            unfold okM
            rw [hyes, ← hlf.eq, decide_eq_true (by assumption)]
            rfl
          rename Fr _ _ _ _ => F13
          rename News _ _ _ _ => N13
          refine hN _ ?_
          have e1 : stV (fs ++ [((⟨sa, zs, zs.length⟩ : LE), i)]) = stV fs ++ [Value.ref sa] := by simp [stV]
          have e2 : stL (fs ++ [((⟨sa, zs, zs.length⟩ : LE), i)]) = stL fs ++ [((sa : Addr), W.listOf (List.toArray zs) zs.length)] := by simp [stL, leO]
          refine AtI.intro F13 N13 (psH e fl en wd T tT fd) (((fd : Addr), W.listOf (List.toArray (stV (fs ++ [((⟨sa, zs, zs.length⟩ : LE), i)]))) (kd + 1)) :: ((wd : Addr), W.listOf (List.toArray ws) kw) :: ((fl : Addr), W.listOf (List.toArray ((flagsI ns 15).map Value.bool)) kf) :: (L + 1 + 1, o9) :: (stL (fs ++ [((⟨sa, zs, zs.length⟩ : LE), i)]) ++ rest)) (by exact ⟨rfl, rfl, rfl, rfl, rfl, rfl, trivial⟩) (.tail _ (.head _)) (fun p hp => ?_) (hoffN _ _ _ (fun p hp => ?_)) ⟨fs ++ [((⟨sa, zs, zs.length⟩ : LE), i)], kd + 1, o9, _, by rw [found_succ, if_pos hok, List.map_append, hfs]; rfl, fun z hz => ?_, fun z hz => ?_, by rw [List.length_append]; exact Nat.succ_le_succ hlen, c9, rfl, rfl⟩
          · rw [e1, e2] at hp
            simp only [List.mem_cons, List.mem_append, List.not_mem_nil, or_false] at hp ⊢
            grind
          · rw [e2] at hp
            rcases List.mem_append.mp hp with hp | hp
            · rcases List.mem_append.mp hp with hp | hp
              · exact offI p (List.mem_append.mpr (.inl hp))
              · rw [List.mem_singleton.mp hp]; exact n3.symm
            · exact offI p (List.mem_append.mpr (.inr hp))
          · rcases List.mem_append.mp hz with hz | hz
            · exact hset z hz
            · rw [List.mem_singleton.mp hz]; exact hzs
          · rcases List.mem_append.mp hz with hz | hz
            · exact hgt z hz
            · rw [List.mem_singleton.mp hz]; exact ⟨hn1.symm, hn2.symm⟩
        · have hno : ¬ okM ns a b c i = true := by
            unfold okM
            rw [← hlf.eq, decide_eq_false (by assumption), Bool.and_false]
            exact Bool.false_ne_true
          rename Fr _ _ _ _ => F13
          rename News _ _ _ _ => N13
          refine hN _ ?_
          exact AtI.intro F13 N13 (psH e fl en wd T tT fd) _ (by exact ⟨rfl, rfl, rfl, rfl, rfl, rfl, trivial⟩) (.tail _ (.head _)) (fun p hp => mt2 hp) (hoffN fs kd _ offI) ⟨fs, kd, _, _, by rw [found_succ, if_neg hno, List.append_nil]; exact hfs, hset, hgt, Nat.le_succ_of_le hlen, c9, rfl, rfl⟩
  · rintro ps₁ u news₁ h tk ⟨fs, kd, oM', mv', hfs, hset, hgt, hlen, c2', rfl, rfl⟩ F2 N2
    rw [found_is ha hb hc hflag] at hfs
    obtain ⟨st, rfl⟩ : ∃ st, fs = [(st, majN a b c)] := by
      match fs, hfs with
      | [(st, m)], h => exact ⟨st, by injection h with h; rw [← h]⟩
    refine hQ fd st kd h tk _ (hset _ (.head _)) (AllAt.fr (ps := [(("edges" : Str), .ref e), (("ends" : Str), .ref en), (("found" : Str), .ref fd)]) (by exact ⟨rfl, rfl, rfl, trivial⟩) F2) (news_sub N2 fun p hp => ?_)
    rcases List.mem_cons.mp hp with rfl | hp
    · exact .head _
    · exact mt4 hp
theorem all (p : Dat) : ok p := drink _ ok (by with_unfolding_all exact core) p
end S_law_found
theorem law_found {w : World} {mean : ExcName → Option Value} {mg mb : Str → Option Value} {h₀ h : Heap} {L fa : Addr} {cd : Value} {s : Shared} {tk : Nat} {Q : Flow → Shared → Prop} {E : Value → Shared → Prop} {u : Str → Option Value}
    (G : LawG w mean mg mb h₀) (hE : PassesOwn (model Challenge.rw_om0134_01.row.prog w) (lawA w L fa cd) (lawEnv w L fa cd) E)
    (e fl en wd : Nat) (tT : Tok) (ns : List Int) (a b c : Nat) (ws : List Value) (kw kf : Nat) (oM : Obj) (mv : Option Value) (rest : List (Addr × Obj)) (r : List Stmt)
    (ha : a < 16) (hb : b < 16) (hc : c < 16) (hws : StrsAre ws [wordN a, wordN b, wordN c]) (c2 : oM.data = .cell mv) (hflag : flN ns (majN a b c) = true)
    (hm : ∀ q ∈ ((wd : Addr), W.listOf (List.toArray ws) kw) :: ((fl : Addr), W.listOf (List.toArray ((flagsI ns 15).map Value.bool)) kf) :: rest, @Ne Nat q.1 (L + 1 + 1))
    (F : Fr h₀ L h (kstB u (psG e fl en wd (totI a b c 3) tT)))
    (N : News h₀ L h (((wd : Addr), W.listOf (List.toArray ws) kw) :: ((fl : Addr), W.listOf (List.toArray ((flagsI ns 15).map Value.bool)) kf) :: (L + 1 + 1, oM) :: rest))
    (hQ : ∀ (fd : Nat) (st : LE) (kd : Nat) (h' : Heap) (tk' : Nat) (u' : Str → Option Value), IntsAre st.vs (setN (majN a b c)) → Fr h₀ L h' (kstB u' [(("edges" : Str), .ref e), (("ends" : Str), .ref en), (("found" : Str), .ref fd)]) → News h₀ L h' (((fd : Addr), W.listOf (List.toArray [.ref st.T]) kd) :: leO st :: rest) →
      wpAny (model Challenge.rw_om0134_01.row.prog w) (lawA w L fa cd) (execs r (lawEnv w L fa cd)) Q E { s with heap := h', toks := tk' }) : wpAny (model Challenge.rw_om0134_01.row.prog w) (lawA w L fa cd) (execs (lawS w 14 :: lawS w 15 :: r) (lawEnv w L fa cd)) Q E { s with heap := h, toks := tk } :=
  S_law_found.all (w, mean, mg, mb, h₀, h, L, fa, cd, s, tk, Q, E, u, e, fl, en, wd, tT, ns, a, b, c, ws, kw, kf, oM, mv, rest, r) G hE ha hb hc hws c2 hflag hm F N hQ
theorem at_LawJ0 : True := by
  w_top off
  exact trivial
theorem nums_ok (ns : List Int) : (numsF ns).length ≤ 11 ∧ ∀ x ∈ numsF ns, 0 ≤ x ∧ x < 3600 := by
  unfold numsF
  refine ⟨by rw [List.length_map, List.length_take]; omega, fun x hx => ?_⟩
  obtain ⟨y, _, rfl⟩ := List.mem_map.mp hx
  exact ⟨Int.fmod_nonneg_of_pos y (by decide), Int.fmod_lt_of_pos y (by decide)⟩
theorem edge_ok {x : Int} (h : 0 ≤ x) : (0 ≤ x.fmod 4 ∧ x.fmod 4 ≤ 3) ∧ (0 ≤ (x + 1 + (x.fdiv 4).fmod 3).fmod 4 ∧ (x + 1 + (x.fdiv 4).fmod 3).fmod 4 ≤ 3) ∧ x.fmod 4 ≠ (x + 1 + (x.fdiv 4).fmod 3).fmod 4 := by
  have h1 := Int.fmod_nonneg_of_pos x (show (0 : Int) < 4 by decide)
  have h2 := Int.fmod_lt_of_pos x (show (0 : Int) < 4 by decide)
  have h3 := Int.fmod_nonneg_of_pos (x.fdiv 4) (show (0 : Int) < 3 by decide)
  have h4 := Int.fmod_lt_of_pos (x.fdiv 4) (show (0 : Int) < 3 by decide)
  have h5 := Int.fmod_nonneg_of_pos (x + 1 + (x.fdiv 4).fmod 3) (show (0 : Int) < 4 by decide)
  have h6 := Int.fmod_lt_of_pos (x + 1 + (x.fdiv 4).fmod 3) (show (0 : Int) < 4 by decide)
  have e1 : x.fmod 4 = x % 4 := Int.fmod_eq_emod_of_nonneg x (by decide)
  generalize (x.fdiv 4).fmod 3 = k at *
  have e2 : (x + 1 + k).fmod 4 = (x + 1 + k) % 4 := Int.fmod_eq_emod_of_nonneg _ (by decide)
  rw [e1] at h1 h2 ⊢
  rw [e2] at h5 h6 ⊢
  omega
theorem edges_ok {tl : List TE} {ns : List Int} (h : edgF tl = edgsF (numsF ns)) : tl.length ≤ 4 ∧ ∀ x ∈ tl, (0 ≤ x.a ∧ x.a ≤ 3) ∧ (0 ≤ x.b ∧ x.b ≤ 3) ∧ x.a ≠ x.b := by
  constructor
  · rw [← edgF_len, h, edgsF, List.length_map, List.length_take]; omega
  · intro x hx
    have hm : (x.a, x.b) ∈ edgsF (numsF ns) := by
      rw [← h]
      exact List.mem_map.mpr ⟨x, hx, rfl⟩
    obtain ⟨y, hy, e⟩ := List.mem_map.mp hm
    have h0 := ((nums_ok ns).2 y (List.mem_of_mem_take hy)).1
    have := edge_ok h0
    rw [Prod.mk.injEq] at e
    rw [← e.1, ← e.2]
    exact this
theorem cell_offs {g h : Heap} {L c : Addr} {oc : Obj} {v : Option Value} {all l : List (Addr × Obj)} (N : News g L h all) (hc : (c, oc) ∈ all) (hd : oc.data = .cell v) (hl : ∀ p ∈ l, p ∈ all ∧ ∃ its k, p.2.data = .seq its k) : ∀ p ∈ l, @Ne Nat p.1 c := fun p hp => by
  obtain ⟨h1, its, k, h2⟩ := hl p hp
  exact cell_off N hc hd h1 h2
theorem tupL_seq {tl : List TE} : ∀ p ∈ tupL tl, ∃ its k, p.2.data = .seq its k := fun p hp => by
  obtain ⟨x, hx, rfl⟩ := List.mem_map.mp hp
  exact ⟨_, _, rfl⟩
theorem tupL_cls {tl : List TE} : ∀ p ∈ tupL tl, p.2.cls = .type "tuple" := fun p hp => by
  obtain ⟨x, hx, rfl⟩ := List.mem_map.mp hp
  rfl
theorem cls_off {g h : Heap} {L : Addr} {all : List (Addr × Obj)} (N : News g L h all) {p q : Addr × Obj} (hp : p ∈ all) (hq : q ∈ all) (h : p.2.cls ≠ q.2.cls) : @Ne Nat p.1 q.1 := fun e => by
  have h1 := (N p hp).1
  have h2 := (N q hq).1
  have e' : p.1 = q.1 := e
  rw [e', h2] at h1
  injection h1 with h1
  exact h (by rw [h1])
theorem nds_rng {E : List (Int × Int)} {ns : List Int} (h : NdOk E ns) : ∀ x ∈ ns, 0 ≤ x ∧ x ≤ 15 := fun x hx => by
  obtain ⟨i, hi, e⟩ := List.getElem_of_mem hx
  obtain ⟨v, hv, ev, _⟩ := h.at_ i (by have := h.len; omega)
  have : x = (v : Int) := by
    rw [← ev, atI, Int.toNat_natCast, List.getD_eq_getElem?_getD, List.getElem?_eq_getElem hi, e]
    rfl
  omega
theorem chunkD_has {w : World} (sl : List SD) : ∀ x ∈ sl, ∀ a ∈ adrD x, ∃ p ∈ chunkD w sl, @Eq Nat p.1 a := by
  induction sl with
  | nil => intro x hx; cases hx
  | cons y r ih =>
    intro x hx a ha
    rcases List.mem_cons.mp hx with e | hx
    · subst e
      rcases List.mem_cons.mp ha with e | ha
      · exact ⟨_, .head _, e.symm⟩
      · rw [← sorN_adr (w := w) (V := x.V) (n := x.n)] at ha
        obtain ⟨p, hp, e9⟩ := List.mem_map.mp ha
        exact ⟨p, .tail _ (List.mem_append.mpr (.inl hp)), e9⟩
    · obtain ⟨p, hp, e9⟩ := ih x hx a ha
      exact ⟨p, .tail _ (List.mem_append.mpr (.inr hp)), e9⟩
theorem sepD_all {w : World} {sl : List SD} {l : List (Addr × Obj)} (h : SepD w sl l) : ∀ z ∈ sl, ∀ a ∈ adrD z, ∀ q ∈ l, @Ne Nat a q.1 := fun z hz a ha q hq => by
  obtain ⟨p, hp, e⟩ := chunkD_has (w := w) sl z hz a ha
  rw [← e]
  exact h.off sl p hp q hq
theorem sepD_two {w : World} {l : List (Addr × Obj)} {sl : List SD} (h : SepD w sl l) : sl.Pairwise fun x y => ∀ a ∈ adrD x, a ∉ adrD y := by
  induction sl with
  | nil => exact .nil
  | cons x r ih =>
    refine List.pairwise_cons.mpr ⟨fun y hy a ha ha' => ?_, ih h.2⟩
    obtain ⟨p, hp, e⟩ := chunkD_has (w := w) r y hy a ha'
    exact h.1.1 a ha p (List.mem_append.mpr (.inl hp)) e.symm
theorem sepD_own {w : World} {l : List (Addr × Obj)} {sl : List SD} (h : SepD w sl l) : ∀ z ∈ sl, z.o ∉ z.A.R :: adrN z.A := by
  induction sl with
  | nil => intro z hz; cases hz
  | cons x r ih =>
    intro z hz
    rcases List.mem_cons.mp hz with rfl | hz
    · exact h.1.2
    · exact ih h.2 z hz
noncomputable def seOf (E : List (Int × Int)) (z : SD) (r : Nat) : SE := ⟨z.A, z.V, z.n, z.o, z.ov, z.ok, rd0 E, r, [], 0, []⟩
theorem seOf_adr {E : List (Int × Int)} {z : SD} {r : Nat} {a : Nat} : a ∈ adrE (seOf E z r) ↔ a = r ∨ a ∈ adrD z := by
  show a ∈ z.o :: r :: z.A.R :: adrN z.A ↔ a = r ∨ a ∈ z.o :: z.A.R :: adrN z.A
  rw [List.mem_cons, List.mem_cons, List.mem_cons (a := a) (b := z.o)]
  constructor
  · rintro (h | h | h)
    · exact .inr (.inl h)
    · exact .inl h
    · exact .inr (.inr h)
  · rintro (h | h | h)
    · exact .inr (.inl h)
    · exact .inl h
    · exact .inr (.inr h)
theorem seOf_ok {w : World} {E : List (Int × Int)} {z : SD} (r : Nat) (h : SDok w E z) : SEok w E (seOf E z r) := by
  have hi := Inv.init E
  have hl := ledInit E (rd0 E)
  refine ⟨h.ok, by show Inv E [] z.n []; rw [h.n]; exact hi.ready, h.ov, .nil, hi.nod, fun t => ?_, .nil⟩
  show t ∈ rd0 E ↔ OutI [] z.n t
  rw [h.n]
  constructor
  · intro ht
    refine ⟨hi.rng t ht, by simp, ?_⟩
    show (n0F E) t = -1
    unfold n0F
    rw [out_fold, if_pos ht]
  · rintro ⟨a, _, c⟩
    by_cases q : t ∈ rd0 E
    · exact q
    · unfold n0F at c
      rw [out_fold, if_neg q, nq_at a] at c
      have := (cntF_le E t).1
      omega
theorem seOf_sep {w : World} {E : List (Int × Int)} {z0 z1 z2 : SD} {r0 r1 r2 : Nat} {l l' : List (Addr × Obj)} (h : SepD w [z2, z1, z0] l) (ho : @LT.lt Nat _ r0 r1 ∧ @LT.lt Nat _ r1 r2)
    (m0 : ∃ o, ((r0 : Addr), o) ∈ l) (m1 : ∃ o, ((r1 : Addr), o) ∈ l) (m2 : ∃ o, ((r2 : Addr), o) ∈ l) (hl : ∀ q ∈ l', ∃ q' ∈ l, q'.1 = q.1) (hr : ∀ q ∈ l', @Ne Nat r0 q.1 ∧ @Ne Nat r1 q.1 ∧ @Ne Nat r2 q.1) : SepE [seOf E z0 r0, seOf E z1 r1, seOf E z2 r2] l' := by
  have ha := sepD_all h
  have ht := sepD_two h
  have hown := sepD_own h
  obtain ⟨o0, m0⟩ := m0
  obtain ⟨o1, m1⟩ := m1
  obtain ⟨o2, m2⟩ := m2
  have t1 := List.pairwise_cons.mp ht
  have t2 := List.pairwise_cons.mp t1.2
  have d21 := t1.1 z1 (.head _)
  have d20 := t1.1 z0 (.tail _ (.head _))
  have d10 := t2.1 z0 (.head _)
  have a0 := ha z0 (mt2 (.head _))
  have a1 := ha z1 (.tail _ (.head _))
  have a2 := ha z2 (.head _)
  have key : ∀ {x y : SD} {r r' : Nat} {o o' : Obj}, (∀ a ∈ adrD x, a ∉ adrD y) → (∀ a ∈ adrD x, ∀ q ∈ l, @Ne Nat a q.1) → (∀ a ∈ adrD y, ∀ q ∈ l, @Ne Nat a q.1) → ((r : Addr), o) ∈ l → ((r' : Addr), o') ∈ l → r ≠ r' → ∀ a ∈ adrE (seOf E x r), a ∉ adrE (seOf E y r') := fun d ax ay mr mr' hne a h1 h2 => by
    rcases seOf_adr.mp h1 with e | h1
    · rcases seOf_adr.mp h2 with e' | h2
      · exact hne (e.symm.trans e')
      · exact ay a h2 _ mr e
    · rcases seOf_adr.mp h2 with e' | h2
      · exact ax a h1 _ mr' e'
      · exact d a h1 h2
  refine ⟨List.pairwise_cons.mpr ⟨fun y hy => ?_, List.pairwise_cons.mpr ⟨fun y hy => ?_, List.pairwise_singleton _ _⟩⟩, fun x hx a hxa q hq => ?_, fun x hx => ?_⟩
  · rcases List.mem_cons.mp hy with rfl | hy
    · exact key (fun a h1 h2 => d10 a h2 h1) a0 a1 m0 m1 (Nat.ne_of_lt ho.1)
    · rw [List.mem_singleton.mp hy]
      exact key (fun a h1 h2 => d20 a h2 h1) a0 a2 m0 m2 (Nat.ne_of_lt (Nat.lt_trans ho.1 ho.2))
  · rw [List.mem_singleton.mp hy]
    exact key (fun a h1 h2 => d21 a h2 h1) a1 a2 m1 m2 (Nat.ne_of_lt ho.2)
  · obtain ⟨q', hq', e⟩ := hl q hq
    have hrq := hr q hq
    have fin : ∀ {z : SD} {r : Nat}, (∀ a ∈ adrD z, ∀ q ∈ l, @Ne Nat a q.1) → @Ne Nat r q.1 → a ∈ adrE (seOf E z r) → @Ne Nat a q.1 := fun {z r} az hne hm => by
      rcases seOf_adr.mp hm with rfl | hm
      · exact hne
      · rw [← e]; exact az a hm q' hq'
    rcases List.mem_cons.mp hx with rfl | hx
    · exact fin a0 hrq.1 hxa
    rcases List.mem_cons.mp hx with rfl | hx
    · exact fin a1 hrq.2.1 hxa
    rw [List.mem_singleton.mp hx] at hxa
    exact fin a2 hrq.2.2 hxa
  · have fin : ∀ {z : SD} {r : Nat} {o : Obj}, z ∈ [z2, z1, z0] → ((r : Addr), o) ∈ l → @Ne Nat (seOf E z r).o (seOf E z r).r ∧ (seOf E z r).o ∉ (seOf E z r).A.R :: adrN (seOf E z r).A ∧ (seOf E z r).r ∉ (seOf E z r).A.R :: adrN (seOf E z r).A := fun {z r o} hz mr =>
      ⟨ha z hz _ (.head _) _ mr, hown z hz, fun q => ha z hz _ (.tail _ q) _ mr rfl⟩
    rcases List.mem_cons.mp hx with rfl | hx
    · exact fin (mt2 (.head _)) m0
    rcases List.mem_cons.mp hx with rfl | hx
    · exact fin (.tail _ (.head _)) m1
    rw [List.mem_singleton.mp hx]
    exact fin (.head _) m2
theorem seOf_mem {w : World} {E : List (Int × Int)} {z0 z1 z2 : SD} {r0 r1 r2 : Nat} {big : List (Addr × Obj)} (h : ∀ p ∈ chunkD w [z2, z1, z0], p ∈ big) (m0 : ((r0 : Addr), W.listOf (List.toArray []) 0) ∈ big) (m1 : ((r1 : Addr), W.listOf (List.toArray []) 0) ∈ big) (m2 : ((r2 : Addr), W.listOf (List.toArray []) 0) ∈ big) : ∀ p ∈ chunkE w [seOf E z0 r0, seOf E z1 r1, seOf E z2 r2], p ∈ big := fun p hp => by
  have part : ∀ (z : SD) (r : Nat), (∀ p ∈ ((z.o : Addr), W.listOf (List.toArray z.ov) z.ok) :: sorN w z.A z.V z.n, p ∈ big) → ((r : Addr), W.listOf (List.toArray []) 0) ∈ big → ∀ p ∈ partE w (seOf E z r), p ∈ big := fun z r hz mr p hp => by
    rcases List.mem_cons.mp hp with rfl | hp
    · exact hz _ (.head _)
    rcases List.mem_cons.mp hp with rfl | hp
    · exact mr
    · exact hz p (.tail _ hp)
  have g2 : ∀ p ∈ ((z2.o : Addr), W.listOf (List.toArray z2.ov) z2.ok) :: sorN w z2.A z2.V z2.n, p ∈ chunkD w [z2, z1, z0] := fun p hp => by
    rcases List.mem_cons.mp hp with rfl | hp
    · exact .head _
    · exact .tail _ (List.mem_append.mpr (.inl hp))
  have s1 : ∀ p ∈ chunkD w [z1, z0], p ∈ chunkD w [z2, z1, z0] := fun p hp => .tail _ (List.mem_append.mpr (.inr hp))
  have g1 : ∀ p ∈ ((z1.o : Addr), W.listOf (List.toArray z1.ov) z1.ok) :: sorN w z1.A z1.V z1.n, p ∈ chunkD w [z1, z0] := fun p hp => by
    rcases List.mem_cons.mp hp with rfl | hp
    · exact .head _
    · exact .tail _ (List.mem_append.mpr (.inl hp))
  have s0 : ∀ p ∈ chunkD w [z0], p ∈ chunkD w [z1, z0] := fun p hp => .tail _ (List.mem_append.mpr (.inr hp))
  have g0 : ∀ p ∈ ((z0.o : Addr), W.listOf (List.toArray z0.ov) z0.ok) :: sorN w z0.A z0.V z0.n, p ∈ chunkD w [z0] := fun p hp => by
    rcases List.mem_cons.mp hp with rfl | hp
    · exact .head _
    · exact .tail _ (List.mem_append.mpr (.inl hp))
  rcases List.mem_append.mp hp with hp | hp
  · exact part z0 r0 (fun p hp => h p (s1 p (s0 p (g0 p hp)))) m0 p hp
  rcases List.mem_append.mp hp with hp | hp
  · exact part z1 r1 (fun p hp => h p (s1 p (g1 p hp))) m1 p hp
  rcases List.mem_append.mp hp with hp | hp
  · exact part z2 r2 (fun p hp => h p (g2 p hp)) m2 p hp
  · cases hp
theorem at_LawJ : True := by
  w_top off
  exact trivial
namespace S_law_head
noncomputable def stm (w : World) (mean : ExcName → Option Value) (mg mb : Str → Option Value) (h₀ h : Heap) (L fa : Addr) (cd : Value) (s : Shared) (tk : Nat) (Q : Flow → Shared → Prop) (E : Value → Shared → Prop) (u : Str → Option Value) (sc : Addr) (vs : List Value) (ns : List Int) (oN oM : Obj) (v1 v2 : Option Value) (r : List Stmt) : Prop := ∀ (G : LawG w mean mg mb h₀) (hE : PassesOwn (model Challenge.rw_om0134_01.row.prog w) (lawA w L fa cd) (lawEnv w L fa cd) E) (hl : h₀.IsList sc vs.toArray) (hi : IntsAre vs ns) (hz : ns.length ≤ 63) (c1 : oN.data = .cell v1) (c2 : oM.data = .cell v2) (F : Fr h₀ L h (kstB u [(("script" : Str), .ref sc)])) (N : News h₀ L h [(L + 1 + 1, oM), (L + 1, oN)]) (hQ : ∀ (e fl rs kr kf ke : Nat) (tl : List TE) (oM' : Obj) (mv' : Option Value) (x0 x1 x2 : SE) (h' : Heap) (tk' : Nat) (u' : Str → Option Value), tl.length ≤ 4 → (∀ x ∈ tl, (0 ≤ x.a ∧ x.a ≤ 3) ∧ (0 ≤ x.b ∧ x.b ≤ 3) ∧ x.a ≠ x.b) → SEok w (edgF tl) x0 → SEok w (edgF tl) x1 → SEok w (edgF tl) x2 → oM'.data = .cell mv' →
      Fr h₀ L h' (kstB u' [(("edges" : Str), .ref e), (("flags" : Str), .ref fl), (("runs" : Str), .ref rs)]) →
      News h₀ L h' (((rs : Addr), W.listOf (List.toArray [.ref x0.r, .ref x1.r, .ref x2.r]) kr) :: leO ⟨x0.r, x0.rv, x0.rk⟩ :: leO ⟨x1.r, x1.rv, x1.rk⟩ :: leO ⟨x2.r, x2.rv, x2.rk⟩ :: ((fl : Addr), W.listOf (List.toArray ((flagsI (ndsF (edgF tl)) 15).map Value.bool)) kf) :: (L + 1 + 1, oM') :: ((e : Addr), W.listOf (List.toArray (tupV tl)) ke) :: tupL tl) →
      wpAny (model Challenge.rw_om0134_01.row.prog w) (lawA w L fa cd) (execs r (lawEnv w L fa cd)) Q E { s with heap := h', toks := tk' }), wpAny (model Challenge.rw_om0134_01.row.prog w) (lawA w L fa cd) (execs (lawS w 0 :: lawS w 1 :: lawS w 2 :: lawS w 3 :: lawS w 4 :: lawS w 5 :: lawS w 6 :: lawS w 7 :: lawS w 8 :: lawS w 9 :: r) (lawEnv w L fa cd)) Q E { s with heap := h, toks := tk }
noncomputable abbrev Dat := World × (ExcName → Option Value) × (Str → Option Value) × (Str → Option Value) × Heap × Heap × Addr × Addr × Value × Shared × Nat × (Flow → Shared → Prop) × (Value → Shared → Prop) × (Str → Option Value) × Addr × List Value × List Int × Obj × Obj × Option Value × Option Value × List Stmt
noncomputable def ok (p : Dat) : Prop := let q1 := p.2.2.2.2.2.2.2.2; let q2 := q1.2.2.2.2.2.2.2.2; stm p.1 p.2.1 p.2.2.1 p.2.2.2.1 p.2.2.2.2.1 p.2.2.2.2.2.1 p.2.2.2.2.2.2.1 p.2.2.2.2.2.2.2.1 q1.1 q1.2.1 q1.2.2.1 q1.2.2.2.1 q1.2.2.2.2.1 q1.2.2.2.2.2.1 q1.2.2.2.2.2.2.1 q1.2.2.2.2.2.2.2.1 q2.1 q2.2.1 q2.2.2.1 q2.2.2.2.1 q2.2.2.2.2.1 q2.2.2.2.2.2
@[irreducible] noncomputable def cc : Dat := @Classical.epsilon Dat ⟨(world0, fun _ => none, fun _ => none, fun _ => none, {}, {}, (0 : Nat), (0 : Nat), .none, {}, 0, fun _ _ => True, fun _ _ => True, fun _ => none, (0 : Nat), [], [], default, default, none, none, [])⟩ fun p => ¬ ok p
noncomputable def c1 := cc.2.2.2.2.2.2.2.2
noncomputable def c2 := c1.2.2.2.2.2.2.2.2
@[irreducible] noncomputable def w : World := cc.1
@[irreducible] noncomputable def mean : ExcName → Option Value := cc.2.1
@[irreducible] noncomputable def mg : Str → Option Value := cc.2.2.1
@[irreducible] noncomputable def mb : Str → Option Value := cc.2.2.2.1
@[irreducible] noncomputable def h₀ : Heap := cc.2.2.2.2.1
@[irreducible] noncomputable def h : Heap := cc.2.2.2.2.2.1
@[irreducible] noncomputable def L : Addr := cc.2.2.2.2.2.2.1
@[irreducible] noncomputable def fa : Addr := cc.2.2.2.2.2.2.2.1
@[irreducible] noncomputable def cd : Value := c1.1
@[irreducible] noncomputable def s : Shared := c1.2.1
@[irreducible] noncomputable def tk : Nat := c1.2.2.1
@[irreducible] noncomputable def Q : Flow → Shared → Prop := c1.2.2.2.1
@[irreducible] noncomputable def E : Value → Shared → Prop := c1.2.2.2.2.1
@[irreducible] noncomputable def u : Str → Option Value := c1.2.2.2.2.2.1
@[irreducible] noncomputable def sc : Addr := c1.2.2.2.2.2.2.1
@[irreducible] noncomputable def vs : List Value := c1.2.2.2.2.2.2.2.1
@[irreducible] noncomputable def ns : List Int := c2.1
@[irreducible] noncomputable def oN : Obj := c2.2.1
@[irreducible] noncomputable def oM : Obj := c2.2.2.1
@[irreducible] noncomputable def v1 : Option Value := c2.2.2.2.1
@[irreducible] noncomputable def v2 : Option Value := c2.2.2.2.2.1
@[irreducible] noncomputable def r : List Stmt := c2.2.2.2.2.2
theorem core : stm w mean mg mb h₀ h L fa cd s tk Q E u sc vs ns oN oM v1 v2 r := by
  intro G hE hl hi hz c1 c2 F N hQ
  obtain ⟨hnl, hnr⟩ := nums_ok ns
  refine wpAny_execs_cons (law_numbers G hE sc vs ns hl hi hz oN oM v1 v2 c1 c2 F N ?_)
  intro nb ys h1 tk1 u1 hys F1 N1
  refine wpAny_execs_cons (law_edges G hE nb ys ys.length (numsF ns) hys hnl hnr oN oM v1 v2 c1 c2 F1 N1 ?_)
  intro e tl h2 tk2 u2 hed hne F2 N2
  obtain ⟨hle, hr⟩ := edges_ok hed
  clear hed F N F1 N1
  refine law_nd G nb e ys ys.length (tupV tl).length tl oN oM v1 v2 c1 c2 _ F2 N2 ?_
  intro nd ds kd oN' h3 tk3 u3 c1' hds hnd hU F3 N3
  clear F2 N2
  refine wpAny_execs_cons (law_needs G hE nb e nd ys ys.length (tupV tl).length kd tl oN' oM v2 ds hle hr c1' c2 hds hnd hU F3 N3 ?_)
  rintro s' ⟨h4, tk4, m4, ps, n, rfl, F4, N4, M4, ds', kd', rfl, rfl, hds'⟩
  replace F4 := M4.fr F4
  clear M4 F3 N3
  have eo : EOk (edgF tl) := ⟨fun x hx => by obtain ⟨y, hy, rfl⟩ := List.mem_map.mp hx; exact hr y hy, by rw [edgF_len]; exact hle⟩
  have hok : NdOk (edgF tl) (ndsF (edgF tl)) := ndsF_ok _ rfl fun x hx => ⟨(eo.rng x hx).1, (eo.rng x hx).2.1⟩
  have hOU : OffT nd (tupL tl) := ⟨fun p hp => Nat.ne_of_lt (hU.lt p hp)⟩
  refine law_flags G nb e nd ys ds' ys.length (tupV tl).length kd' tl oN' oM v2 c1' c2 _ (ndsF (edgF tl)) hds' hok.len (nds_rng hok) ⟨Nat.ne_of_lt hnd.2.2.1, Nat.ne_of_lt hnd.2.2.2, hOU, Nat.ne_of_lt hnd.1, Nat.ne_of_lt hnd.2.1⟩ F4 N4 ?_
  intro fl kf h5 tk5 u5 F5 hfl N5
  clear F4 N4
  refine law_lists G nb e fl _ _ F5 N5 ?_
  intro pl of r0 r1 r2 rs h6 tk6 u6 F6 hord hUp N6
  clear F5 N5
  have lt := fun p hp => hUp.lt p hp
  have lfl := lt _ (.head _)
  have lnd := lt _ (.tail _ (.head _))
  have l1 := lt _ (mt2 (.head _))
  have l2 := lt _ (mt2 (.tail _ (.head _)))
  have lnb := lt _ (mt4 (.head _))
  have le := lt _ (mt4 (.tail _ (.head _)))
  have ltl := fun p hp => lt p (mt4 (mt2 hp))
  dsimp only at lfl lnd l1 l2 lnb le
  have hown : ∀ p ∈ ((e : Addr), W.listOf (List.toArray (tupV tl)) (tupV tl).length) :: tupL tl, @LT.lt Nat _ p.1 pl ∧ @Ne Nat p.1 fl ∧ @Ne Nat p.1 nd ∧ @Ne Nat p.1 (L + 1) ∧ @Ne Nat p.1 (L + 1 + 1) ∧ @Ne Nat p.1 nb := fun p hp => by
    have hsq : ∃ its k, p.2.data = .seq its k := by
      rcases List.mem_cons.mp hp with rfl | hp
      · exact ⟨_, _, rfl⟩
      · exact tupL_seq p hp
    obtain ⟨its, k, hsq⟩ := hsq
    refine ⟨lt p (mt4 (.tail _ hp)), (hfl p (mt4 hp)).symm, ?_, cell_off N6 (mt8 (.head _)) c1' (mt8 (mt2 (.tail _ hp))) hsq, cell_off N6 (mt8 (.tail _ (.head _))) c2 (mt8 (mt2 (.tail _ hp))) hsq, ?_⟩
    · rcases List.mem_cons.mp hp with rfl | hp
      · exact Nat.ne_of_lt hnd.2.2.2
      · exact hOU.ne p hp
    · rcases List.mem_cons.mp hp with rfl | hp'
      · exact hne.symm
      · exact cls_off N6 (mt8 (mt2 (.tail _ hp))) (mt8 (mt2 (.head _))) (by rw [tupL_cls p hp']; exact type_ne (by decide))
  have hnb2 : @Ne Nat nb (L + 1 + 1) := cell_off N6 (mt8 (.tail _ (.head _))) c2 (mt8 (mt2 (.head _))) rfl
  refine wpAny_execs_cons (law_plans G hE nb e fl nd pl of rs ds' (tupV tl).length kd' kf tl oN' [((rs : Addr), W.listOf (List.toArray [.ref r0, .ref r1, .ref r2]) 0), ((r2 : Addr), W.listOf (List.toArray []) 0), ((r1 : Addr), W.listOf (List.toArray []) 0), ((r0 : Addr), W.listOf (List.toArray []) 0), (L + 1 + 1, oM), ((nb : Addr), W.listOf (List.toArray ys) ys.length)] hle hr c1' hds' ⟨hord.1, lfl, lnd, l1⟩ (fun p hp => (hown p hp).1) (fun p hp => ?_) (fun p hp q hq => ?_) F6 (news_sub N6 fun p hp => ?_) ?_)
  · have a1 := hord.1
    have a2 := hord.2.1
    have a3 := hord.2.2.1
    have a4 := hord.2.2.2.1
    have a5 := hord.2.2.2.2
    revert p
    refine al_cons ?_ (al_cons ?_ (al_cons ?_ (al_cons ?_ (al_cons ?_ (fun p hp => ?_)))))
    · exact ⟨by show @Ne Nat rs pl; omega, by show @Ne Nat rs of; omega⟩
    · exact ⟨by show @Ne Nat r2 pl; omega, by show @Ne Nat r2 of; omega⟩
    · exact ⟨by show @Ne Nat r1 pl; omega, by show @Ne Nat r1 of; omega⟩
    · exact ⟨by show @Ne Nat r0 pl; omega, by show @Ne Nat r0 of; omega⟩
    · exact ⟨by show @Ne Nat (L + 1 + 1) pl; omega, by show @Ne Nat (L + 1 + 1) of; omega⟩
    rw [List.mem_singleton.mp hp]
    exact ⟨by show @Ne Nat nb pl; omega, by show @Ne Nat nb of; omega⟩
  · obtain ⟨b1, b2, b3, b4, b5, b6⟩ := hown p hp
    have a1 := hord.1
    have a2 := hord.2.1
    have a3 := hord.2.2.1
    have a4 := hord.2.2.2.1
    have a5 := hord.2.2.2.2
    revert q
    refine al_cons ?_ (al_cons ?_ (al_cons ?_ (al_cons ?_ (al_cons ?_ (al_cons ?_ (al_cons ?_ (al_cons ?_ (fun q hq => ?_))))))))
    · exact b2
    · exact b3
    · exact b4
    · show @Ne Nat p.1 rs; omega
    · show @Ne Nat p.1 r2; omega
    · show @Ne Nat p.1 r1; omega
    · show @Ne Nat p.1 r0; omega
    · exact b5
    rw [List.mem_singleton.mp hq]
    exact b6
  · simp only [List.mem_append, List.mem_cons, List.not_mem_nil, or_false] at hp ⊢; grind
  intro sl kp ko h7 tk7 u7 hsl F7 N7 hSD hSep
  clear F6 N6
  obtain ⟨z2, z1, z0, rfl⟩ : ∃ z2 z1 z0, sl = [z2, z1, z0] := by
    clear hSD hSep N7
    cases sl with
    | nil => cases hsl
    | cons a sl =>
    cases sl with
    | nil => cases hsl
    | cons b sl =>
    cases sl with
    | nil => cases hsl
    | cons c sl =>
    cases sl with
    | nil => exact ⟨a, b, c, rfl⟩
    | cons d sl => cases hsl
  clear hsl
  have a1 := hord.1
  have a2 := hord.2.1
  have a3 := hord.2.2.1
  have a4 := hord.2.2.2.1
  have a5 := hord.2.2.2.2
  clear hord
  refine wpAny_execs_cons (law_runs G hE nb e fl nd pl of rs ds' ys ys.length kd' kf kp ko 0 (edgF tl) (numsF ns) oN' oM v2 (((e : Addr), W.listOf (List.toArray (tupV tl)) (tupV tl).length) :: tupL tl) [seOf (edgF tl) z0 r0, seOf (edgF tl) z1 r1, seOf (edgF tl) z2 r2] eo rfl hys hnl hnr c1' c2 hds' (fun x hx => ?_) ?_ ?_ F7 ?_ ?_)
  · revert x
    refine al_cons ?_ (al_cons ?_ (fun x hx => ?_))
    · exact seOf_ok r0 (hSD z0 (mt2 (.head _)))
    · exact seOf_ok r1 (hSD z1 (.tail _ (.head _)))
    rw [List.mem_singleton.mp hx]
    exact seOf_ok r2 (hSD z2 (.head _))
  · refine seOf_sep hSep ⟨a3, a4⟩ ⟨_, (mt4 (.tail _ (List.mem_append.mpr (.inr (mt2 (.tail _ (.head _)))))))⟩ ⟨_, (mt4 (.tail _ (List.mem_append.mpr (.inr (mt2 (.head _))))))⟩ ⟨_, (mt4 (.tail _ (List.mem_append.mpr (.inr (.tail _ (.head _))))))⟩ (fun q hq => ?_) (fun q hq => ?_)
    · simp only [triL, List.cons_append, List.nil_append] at hq
      revert q
      refine al_cons ?_ (al_cons ?_ (al_cons ?_ (al_cons ?_ (al_cons ?_ (al_cons ?_ (al_cons ?_ (al_cons ?_ (fun q hq => ?_))))))))
      · exact ⟨_, .head _, rfl⟩
      · exact ⟨_, (.tail _ (.head _)), rfl⟩
      · exact ⟨((rs : Addr), _), (mt4 (.tail _ (List.mem_append.mpr (.inr (.head _))))), rfl⟩
      · exact ⟨_, (mt2 (.head _)), rfl⟩
      · exact ⟨_, (mt2 (.tail _ (.head _))), rfl⟩
      · exact ⟨_, (mt4 (.head _)), rfl⟩
      · exact ⟨_, (mt4 (.tail _ (List.mem_append.mpr (.inr (mt4 (.head _)))))), rfl⟩
      · exact ⟨_, (mt4 (.tail _ (List.mem_append.mpr (.inr (mt4 (.tail _ (.head _))))))), rfl⟩
      exact ⟨q, (mt4 (.tail _ (List.mem_append.mpr (.inl hq)))), rfl⟩
    · have key : ∀ a : Nat, a < r0 ∨ r2 < a → r0 ≠ a ∧ r1 ≠ a ∧ r2 ≠ a := fun a ha => by omega
      simp only [triL, List.cons_append, List.nil_append] at hq
      revert q
      refine al_cons ?_ (al_cons ?_ (al_cons ?_ (al_cons ?_ (al_cons ?_ (al_cons ?_ (al_cons ?_ (al_cons ?_ (fun q hq => ?_))))))))
      · exact key pl (by omega)
      · exact key of (by omega)
      · exact key rs (by omega)
      · exact key fl (by omega)
      · exact key nd (by omega)
      · exact key (L + 1) (by omega)
      · exact key (L + 1 + 1) (by omega)
      · exact key nb (by omega)
      have := (hown q hq).1
      exact key q.1 (by omega)
  · intro p hp
    simp only [triL, List.cons_append, List.nil_append] at hp
    revert p
    refine al_cons ?_ (al_cons ?_ (al_cons ?_ (al_cons ?_ (al_cons ?_ (al_cons ?_ (al_cons ?_ (fun p hp => ?_)))))))
    · show @Ne Nat pl (L + 1 + 1); omega
    · show @Ne Nat of (L + 1 + 1); omega
    · show @Ne Nat rs (L + 1 + 1); omega
    · exact hfl _ (mt2 (.head _))
    · exact Nat.ne_of_gt hnd.2.1
    · show @Ne Nat (L + 1) (L + 1 + 1); omega
    · exact hnb2
    exact (hown p hp).2.2.2.2.1
  · have hch := seOf_mem (w := w) (E := edgF tl) (z0 := z0) (z1 := z1) (z2 := z2) (r0 := r0) (r1 := r1) (r2 := r2) (big := ((pl : Addr), W.listOf (List.toArray ([z2, z1, z0].reverse.map fun x => Value.ref x.A.P)) kp) :: ((of : Addr), W.listOf (List.toArray ([z2, z1, z0].reverse.map fun x => Value.ref x.o)) ko) :: ((fl : Addr), W.listOf (List.toArray ((flagsI (ndsF (edgF tl)) 15).map Value.bool)) kf) :: ((nd : Addr), W.listOf (List.toArray ds') kd') :: (L + 1, oN') :: (chunkD w [z2, z1, z0] ++ ((((e : Addr), W.listOf (List.toArray (tupV tl)) (tupV tl).length) :: tupL tl) ++ [((rs : Addr), W.listOf (List.toArray [.ref r0, .ref r1, .ref r2]) 0), ((r2 : Addr), W.listOf (List.toArray []) 0), ((r1 : Addr), W.listOf (List.toArray []) 0), ((r0 : Addr), W.listOf (List.toArray []) 0), (L + 1 + 1, oM), ((nb : Addr), W.listOf (List.toArray ys) ys.length)])))
      (fun p hp => (mt4 (.tail _ (List.mem_append.mpr (.inl hp))))) (mt4 (.tail _ (List.mem_append.mpr (.inr (List.mem_append.mpr (.inr (mt2 (.tail _ (.head _))))))))) (mt4 (.tail _ (List.mem_append.mpr (.inr (List.mem_append.mpr (.inr (mt2 (.head _)))))))) (mt4 (.tail _ (List.mem_append.mpr (.inr (List.mem_append.mpr (.inr (.tail _ (.head _))))))))
    refine news_sub N7 fun p hp => ?_
    simp only [triL, List.cons_append, List.nil_append] at hp
    revert p
    refine al_cons ?_ (al_cons ?_ (al_cons ?_ (al_cons ?_ (al_cons ?_ (al_cons ?_ (al_cons ?_ (al_cons ?_ (fun p hp => ?_))))))))
    · exact .head _
    · exact (.tail _ (.head _))
    · exact (mt4 (.tail _ (List.mem_append.mpr (.inr (List.mem_append.mpr (.inr (.head _)))))))
    · exact (mt2 (.head _))
    · exact (mt2 (.tail _ (.head _)))
    · exact (mt4 (.head _))
    · exact (mt4 (.tail _ (List.mem_append.mpr (.inr (List.mem_append.mpr (.inr (mt4 (.head _))))))))
    · exact (mt4 (.tail _ (List.mem_append.mpr (.inr (List.mem_append.mpr (.inr (mt4 (.tail _ (.head _)))))))))
    rcases List.mem_append.mp hp with hp | hp
    · exact hch p hp
    · exact (mt4 (.tail _ (List.mem_append.mpr (.inr (List.mem_append.mpr (.inl hp))))))
  intro el' oM' mv' h8 tk8 u8 hel3 hok' c2' F8 N8
  clear N7 F7 hSD hSep
  obtain ⟨x0, x1, x2, rfl⟩ : ∃ x0 x1 x2, el' = [x0, x1, x2] := by
    clear hok' N8
    cases el' with
    | nil => cases hel3
    | cons a sl =>
    cases sl with
    | nil => cases hel3
    | cons b sl =>
    cases sl with
    | nil => cases hel3
    | cons c sl =>
    cases sl with
    | nil => exact ⟨a, b, c, rfl⟩
    | cons d sl => cases hel3
  refine hQ e fl rs 0 kf (tupV tl).length tl oM' mv' x0 x1 x2 h8 tk8 _ hle hr (hok' x0 (.head _)) (hok' x1 (.tail _ (.head _))) (hok' x2 (mt2 (.head _))) c2' (AllAt.fr (ps := [(("edges" : Str), .ref e), (("flags" : Str), .ref fl), (("runs" : Str), .ref rs)]) (by exact ⟨rfl, rfl, rfl, trivial⟩) F8) (news_sub N8 fun p hp => ?_)
  revert p
  refine al_cons ?_ (al_cons ?_ (al_cons ?_ (al_cons ?_ (al_cons ?_ (al_cons ?_ (fun p hp => ?_))))))
  · exact .head _
  · exact (mt2 (.tail _ (List.mem_append.mpr (.inl (.head _)))))
  · exact (mt2 (.tail _ (List.mem_append.mpr (.inl (.tail _ (.head _))))))
  · exact (mt2 (.tail _ (List.mem_append.mpr (.inl (mt2 (.head _))))))
  · exact (.tail _ (.head _))
  · exact (mt2 (.head _))
  exact (mt2 (.tail _ (List.mem_append.mpr (.inr hp))))
theorem all (p : Dat) : ok p := drink _ ok (by with_unfolding_all exact core) p
end S_law_head
theorem law_head {w : World} {mean : ExcName → Option Value} {mg mb : Str → Option Value} {h₀ h : Heap} {L fa : Addr} {cd : Value} {s : Shared} {tk : Nat} {Q : Flow → Shared → Prop} {E : Value → Shared → Prop} {u : Str → Option Value}
    (G : LawG w mean mg mb h₀) (hE : PassesOwn (model Challenge.rw_om0134_01.row.prog w) (lawA w L fa cd) (lawEnv w L fa cd) E)
    (sc : Addr) (vs : List Value) (ns : List Int) (hl : h₀.IsList sc vs.toArray) (hi : IntsAre vs ns) (hz : ns.length ≤ 63)
    (oN oM : Obj) (v1 v2 : Option Value) (c1 : oN.data = .cell v1) (c2 : oM.data = .cell v2) (r : List Stmt)
    (F : Fr h₀ L h (kstB u [(("script" : Str), .ref sc)])) (N : News h₀ L h [(L + 1 + 1, oM), (L + 1, oN)])
    (hQ : ∀ (e fl rs kr kf ke : Nat) (tl : List TE) (oM' : Obj) (mv' : Option Value) (x0 x1 x2 : SE) (h' : Heap) (tk' : Nat) (u' : Str → Option Value), tl.length ≤ 4 → (∀ x ∈ tl, (0 ≤ x.a ∧ x.a ≤ 3) ∧ (0 ≤ x.b ∧ x.b ≤ 3) ∧ x.a ≠ x.b) → SEok w (edgF tl) x0 → SEok w (edgF tl) x1 → SEok w (edgF tl) x2 → oM'.data = .cell mv' →
      Fr h₀ L h' (kstB u' [(("edges" : Str), .ref e), (("flags" : Str), .ref fl), (("runs" : Str), .ref rs)]) →
      News h₀ L h' (((rs : Addr), W.listOf (List.toArray [.ref x0.r, .ref x1.r, .ref x2.r]) kr) :: leO ⟨x0.r, x0.rv, x0.rk⟩ :: leO ⟨x1.r, x1.rv, x1.rk⟩ :: leO ⟨x2.r, x2.rv, x2.rk⟩ :: ((fl : Addr), W.listOf (List.toArray ((flagsI (ndsF (edgF tl)) 15).map Value.bool)) kf) :: (L + 1 + 1, oM') :: ((e : Addr), W.listOf (List.toArray (tupV tl)) ke) :: tupL tl) →
      wpAny (model Challenge.rw_om0134_01.row.prog w) (lawA w L fa cd) (execs r (lawEnv w L fa cd)) Q E { s with heap := h', toks := tk' }) : wpAny (model Challenge.rw_om0134_01.row.prog w) (lawA w L fa cd) (execs (lawS w 0 :: lawS w 1 :: lawS w 2 :: lawS w 3 :: lawS w 4 :: lawS w 5 :: lawS w 6 :: lawS w 7 :: lawS w 8 :: lawS w 9 :: r) (lawEnv w L fa cd)) Q E { s with heap := h, toks := tk } :=
  S_law_head.all (w, mean, mg, mb, h₀, h, L, fa, cd, s, tk, Q, E, u, sc, vs, ns, oN, oM, v1, v2, r) G hE hl hi hz c1 c2 F N hQ
theorem at_LawK : True := by
  w_top off
  exact trivial
namespace S_law_tail
noncomputable def stm (w : World) (mean : ExcName → Option Value) (mg mb : Str → Option Value) (h₀ h : Heap) (L fa : Addr) (cd : Value) (s : Shared) (tk : Nat) (Q : Flow → Shared → Prop) (E : Value → Shared → Prop) (u : Str → Option Value) (e fl rs kr kf ke : Nat) (tl : List TE) (oM : Obj) (mv : Option Value) : Prop := ∀ (G : LawG w mean mg mb h₀) (hE : PassesOwn (model Challenge.rw_om0134_01.row.prog w) (lawA w L fa cd) (lawEnv w L fa cd) E) (x0 x1 x2 : SE) (hle : tl.length ≤ 4) (hr : ∀ x ∈ tl, (0 ≤ x.a ∧ x.a ≤ 3) ∧ (0 ≤ x.b ∧ x.b ≤ 3) ∧ x.a ≠ x.b) (k0 : SEok w (edgF tl) x0) (k1 : SEok w (edgF tl) x1) (k2 : SEok w (edgF tl) x2) (c2 : oM.data = .cell mv) (F : Fr h₀ L h (kstB u [(("edges" : Str), .ref e), (("flags" : Str), .ref fl), (("runs" : Str), .ref rs)])) (N : News h₀ L h (((rs : Addr), W.listOf (List.toArray [.ref x0.r, .ref x1.r, .ref x2.r]) kr) :: leO ⟨x0.r, x0.rv, x0.rk⟩ :: leO ⟨x1.r, x1.rv, x1.rk⟩ :: leO ⟨x2.r, x2.rv, x2.rk⟩ :: ((fl : Addr), W.listOf (List.toArray ((flagsI (ndsF (edgF tl)) 15).map Value.bool)) kf) :: (L + 1 + 1, oM) :: ((e : Addr), W.listOf (List.toArray (tupV tl)) ke) :: tupL tl)) (hQ : ∀ (h' : Heap) (tk' : Nat) (m' : Str → Option Value), Fr h₀ L h' m' → Q (.ret (.bool true)) { s with heap := h', toks := tk' }), wpAny (model Challenge.rw_om0134_01.row.prog w) (lawA w L fa cd) (execs [lawS w 10, lawS w 11, lawS w 12, lawS w 13, lawS w 14, lawS w 15, lawS w 16, lawS w 17, lawS w 18, lawS w 19] (lawEnv w L fa cd)) Q E { s with heap := h, toks := tk }
noncomputable abbrev Dat := World × (ExcName → Option Value) × (Str → Option Value) × (Str → Option Value) × Heap × Heap × Addr × Addr × Value × Shared × Nat × (Flow → Shared → Prop) × (Value → Shared → Prop) × (Str → Option Value) × Nat × Nat × Nat × Nat × Nat × Nat × List TE × Obj × Option Value
noncomputable def ok (p : Dat) : Prop := let q1 := p.2.2.2.2.2.2.2.2; let q2 := q1.2.2.2.2.2.2.2.2; stm p.1 p.2.1 p.2.2.1 p.2.2.2.1 p.2.2.2.2.1 p.2.2.2.2.2.1 p.2.2.2.2.2.2.1 p.2.2.2.2.2.2.2.1 q1.1 q1.2.1 q1.2.2.1 q1.2.2.2.1 q1.2.2.2.2.1 q1.2.2.2.2.2.1 q1.2.2.2.2.2.2.1 q1.2.2.2.2.2.2.2.1 q2.1 q2.2.1 q2.2.2.1 q2.2.2.2.1 q2.2.2.2.2.1 q2.2.2.2.2.2.1 q2.2.2.2.2.2.2
@[irreducible] noncomputable def cc : Dat := @Classical.epsilon Dat ⟨(world0, fun _ => none, fun _ => none, fun _ => none, {}, {}, (0 : Nat), (0 : Nat), .none, {}, 0, fun _ _ => True, fun _ _ => True, fun _ => none, 0, 0, 0, 0, 0, 0, [], default, none)⟩ fun p => ¬ ok p
noncomputable def c1 := cc.2.2.2.2.2.2.2.2
noncomputable def c2 := c1.2.2.2.2.2.2.2.2
@[irreducible] noncomputable def w : World := cc.1
@[irreducible] noncomputable def mean : ExcName → Option Value := cc.2.1
@[irreducible] noncomputable def mg : Str → Option Value := cc.2.2.1
@[irreducible] noncomputable def mb : Str → Option Value := cc.2.2.2.1
@[irreducible] noncomputable def h₀ : Heap := cc.2.2.2.2.1
@[irreducible] noncomputable def h : Heap := cc.2.2.2.2.2.1
@[irreducible] noncomputable def L : Addr := cc.2.2.2.2.2.2.1
@[irreducible] noncomputable def fa : Addr := cc.2.2.2.2.2.2.2.1
@[irreducible] noncomputable def cd : Value := c1.1
@[irreducible] noncomputable def s : Shared := c1.2.1
@[irreducible] noncomputable def tk : Nat := c1.2.2.1
@[irreducible] noncomputable def Q : Flow → Shared → Prop := c1.2.2.2.1
@[irreducible] noncomputable def E : Value → Shared → Prop := c1.2.2.2.2.1
@[irreducible] noncomputable def u : Str → Option Value := c1.2.2.2.2.2.1
@[irreducible] noncomputable def e : Nat := c1.2.2.2.2.2.2.1
@[irreducible] noncomputable def fl : Nat := c1.2.2.2.2.2.2.2.1
@[irreducible] noncomputable def rs : Nat := c2.1
@[irreducible] noncomputable def kr : Nat := c2.2.1
@[irreducible] noncomputable def kf : Nat := c2.2.2.1
@[irreducible] noncomputable def ke : Nat := c2.2.2.2.1
@[irreducible] noncomputable def tl : List TE := c2.2.2.2.2.1
@[irreducible] noncomputable def oM : Obj := c2.2.2.2.2.2.1
@[irreducible] noncomputable def mv : Option Value := c2.2.2.2.2.2.2
theorem core : stm w mean mg mb h₀ h L fa cd s tk Q E u e fl rs kr kf ke tl oM mv := by
  intro G hE x0 x1 x2 hle hr k0 k1 k2 c2 F N hQ
  have eo : EOk (edgF tl) := ⟨fun x hx => by obtain ⟨y, hy, rfl⟩ := List.mem_map.mp hx; exact hr y hy, by rw [edgF_len]; exact hle⟩
  have hok : NdOk (edgF tl) (ndsF (edgF tl)) := ndsF_ok _ rfl fun x hx => ⟨(eo.rng x hx).1, (eo.rng x hx).2.1⟩
  have len4 : ∀ {D : List Int}, Run (edgF tl) D → D.reverse.length ≤ 4 := fun h => by rw [List.length_reverse]; exact nodup_four h.nodup h.in3
  have q0 := len4 k0.run
  have q1 := len4 k1.run
  have q2 := len4 k2.run
  refine wpAny_execs_cons (law_ends G hE e fl rs ⟨x0.r, x0.rv, x0.rk⟩ ⟨x1.r, x1.rv, x1.rk⟩ ⟨x2.r, x2.rv, x2.rk⟩ kr x0.D.reverse x1.D.reverse x2.D.reverse _ k0.rv k1.rv k2.rv (Nat.le_trans q0 (by decide)) (Nat.le_trans q1 (by decide)) (Nat.le_trans q2 (by decide)) F N ?_)
  intro en y0 y1 y2 l0 l1 l2 kn h1 tk1 u1 i0 p0 s0 i1 p1 s1 i2 p2 s2 hord F1 N1
  clear F N
  have ma := (mkN_ok k0.run.nodup k0.run.in3).1
  have mb' := (mkN_ok k1.run.nodup k1.run.in3).1
  have mc := (mkN_ok k2.run.nodup k2.run.in3).1
  rw [sorted_run k0.run p0 s0] at i0
  rw [sorted_run k1.run p1 s1] at i1
  rw [sorted_run k2.run p2 s2] at i2
  obtain ⟨D, hD, hDM⟩ := flag_maj hok eo k0.run k1.run k2.run
  clear p0 p1 p2 s0 s1 s2 q0 q1 q2 len4 k0 k1 k2
  generalize mkN x0.D = a at ma i0 hDM
  generalize mkN x1.D = b at mb' i1 hDM
  generalize mkN x2.D = c at mc i2 hDM
  have hflag : flN (ndsF (edgF tl)) (majN a b c) = true := (flN_iff_run hok eo (majN_lt ma mb' mc)).mpr ⟨D, hD, hDM⟩
  refine wpAny_execs_cons (law_words G hE e fl en y0 y1 y2 kn (setN a) (setN b) (setN c) _ i0 i1 i2 (set_len ma) (set_len mb') (set_len mc) F1 N1 ?_)
  intro wd ws kw h2 tk2 u2 hws F2 N2
  clear F1 N1
  refine wpAny_execs_cons (law_total G e fl en wd _ F2 N2 ?_)
  intro t3 h3 tk3 u3 F3 N3
  clear F2 N2
  refine wpAny_execs_cons (law_dist G hE e fl en wd y0 y1 y2 ws kn kw a b c t3 _ ma mb' mc i0 i1 i2 hws F3 N3 ?_)
  intro t4 h4 tk4 u4 F4 N4
  clear F3 N3
  refine law_found G hE e fl en wd t4 (ndsF (edgF tl)) a b c ws kw kf oM mv (((en : Addr), W.listOf (List.toArray [.ref y0.T, .ref y1.T, .ref y2.T]) kn) :: leO y0 :: leO y1 :: leO y2 :: ((e : Addr), W.listOf (List.toArray (tupV tl)) ke) :: tupL tl) _ ma mb' mc hws c2 hflag (cell_offs N4 (mt4 (mt2 (.head _))) c2 fun p hp => ?_) F4 (news_sub N4 fun p hp => ?_) ?_
  · revert p
    refine al_cons ?_ (al_cons ?_ (al_cons ?_ (al_cons ?_ (al_cons ?_ (al_cons ?_ (al_cons ?_ (fun p hp => ?_)))))))
    · exact ⟨(.head _), _, _, rfl⟩
    · exact ⟨(mt4 (.tail _ (.head _))), _, _, rfl⟩
    · exact ⟨(.tail _ (.head _)), _, _, rfl⟩
    · exact ⟨(mt2 (.head _)), _, _, rfl⟩
    · exact ⟨(mt2 (.tail _ (.head _))), _, _, rfl⟩
    · exact ⟨(mt4 (.head _)), _, _, rfl⟩
    · exact ⟨(mt4 (mt2 (.tail _ (.head _)))), _, _, rfl⟩
    exact ⟨(mt8 hp), tupL_seq p hp⟩
  · revert p
    refine al_cons ?_ (al_cons ?_ (al_cons ?_ (al_cons ?_ (al_cons ?_ (al_cons ?_ (al_cons ?_ (fun p hp => ?_)))))))
    · exact (.head _)
    · exact (mt4 (.tail _ (.head _)))
    · exact (mt4 (mt2 (.head _)))
    · exact (.tail _ (.head _))
    · exact (mt2 (.head _))
    · exact (mt2 (.tail _ (.head _)))
    · exact (mt4 (.head _))
    exact (mt4 (mt2 (.tail _ hp)))
  intro fd st kd h5 tk5 u5 iT F5 N5
  clear F4 N4
  refine law_shared G e en fd y0 y1 y2 kn a b c (((fd : Addr), W.listOf (List.toArray [.ref st.T]) kd) :: leO st :: ((e : Addr), W.listOf (List.toArray (tupV tl)) ke) :: tupL tl) _ ma mb' mc i0 i1 i2 hord F5 (news_sub N5 fun p hp => ?_) ?_
  · revert p
    refine al_cons ?_ (al_cons ?_ (al_cons ?_ (al_cons ?_ (al_cons ?_ (al_cons ?_ (fun p hp => ?_))))))
    · exact (mt2 (.head _))
    · exact (mt2 (.tail _ (.head _)))
    · exact (mt4 (.head _))
    · exact (mt4 (.tail _ (.head _)))
    · exact (.head _)
    · exact (.tail _ (.head _))
    exact (mt4 (mt2 hp))
  intro S J h6 tk6 u6 iS iJ F6 N6 hS
  clear F5 N5
  refine law_return G e fd S J st kd ke (majN a b c) D tl (majN_lt ma mb' mc) iS iJ iT hle hr hD hDM (fun q hq => (hS q (mt2 hq)).symm) F6 (news_sub N6 fun p hp => ?_) hQ
  revert p
  refine al_cons ?_ (al_cons ?_ (al_cons ?_ (al_cons ?_ (fun p hp => ?_))))
  · exact (mt2 (.head _))
  · exact (mt2 (.tail _ (.head _)))
  · exact (.head _)
  · exact (.tail _ (.head _))
  exact (mt4 hp)
theorem all (p : Dat) : ok p := drink _ ok (by with_unfolding_all exact core) p
end S_law_tail
theorem law_tail {w : World} {mean : ExcName → Option Value} {mg mb : Str → Option Value} {h₀ h : Heap} {L fa : Addr} {cd : Value} {s : Shared} {tk : Nat} {Q : Flow → Shared → Prop} {E : Value → Shared → Prop} {u : Str → Option Value}
    (G : LawG w mean mg mb h₀) (hE : PassesOwn (model Challenge.rw_om0134_01.row.prog w) (lawA w L fa cd) (lawEnv w L fa cd) E)
    (e fl rs kr kf ke : Nat) (tl : List TE) (oM : Obj) (mv : Option Value) (x0 x1 x2 : SE) (hle : tl.length ≤ 4) (hr : ∀ x ∈ tl, (0 ≤ x.a ∧ x.a ≤ 3) ∧ (0 ≤ x.b ∧ x.b ≤ 3) ∧ x.a ≠ x.b) (k0 : SEok w (edgF tl) x0) (k1 : SEok w (edgF tl) x1) (k2 : SEok w (edgF tl) x2) (c2 : oM.data = .cell mv)
    (F : Fr h₀ L h (kstB u [(("edges" : Str), .ref e), (("flags" : Str), .ref fl), (("runs" : Str), .ref rs)]))
    (N : News h₀ L h (((rs : Addr), W.listOf (List.toArray [.ref x0.r, .ref x1.r, .ref x2.r]) kr) :: leO ⟨x0.r, x0.rv, x0.rk⟩ :: leO ⟨x1.r, x1.rv, x1.rk⟩ :: leO ⟨x2.r, x2.rv, x2.rk⟩ :: ((fl : Addr), W.listOf (List.toArray ((flagsI (ndsF (edgF tl)) 15).map Value.bool)) kf) :: (L + 1 + 1, oM) :: ((e : Addr), W.listOf (List.toArray (tupV tl)) ke) :: tupL tl))
    (hQ : ∀ (h' : Heap) (tk' : Nat) (m' : Str → Option Value), Fr h₀ L h' m' → Q (.ret (.bool true)) { s with heap := h', toks := tk' }) : wpAny (model Challenge.rw_om0134_01.row.prog w) (lawA w L fa cd) (execs [lawS w 10, lawS w 11, lawS w 12, lawS w 13, lawS w 14, lawS w 15, lawS w 16, lawS w 17, lawS w 18, lawS w 19] (lawEnv w L fa cd)) Q E { s with heap := h, toks := tk } :=
  S_law_tail.all (w, mean, mg, mb, h₀, h, L, fa, cd, s, tk, Q, E, u, e, fl, rs, kr, kf, ke, tl, oM, mv) G hE x0 x1 x2 hle hr k0 k1 k2 c2 F N hQ
theorem at_LawM : True := by
  w_top off
  exact trivial
theorem law_full {w : World} {mean : ExcName → Option Value} {mg mb : Str → Option Value} {h₀ h : Heap} {L fa : Addr} {cd : Value} {s : Shared} {tk : Nat} {Q : Flow → Shared → Prop} {E : Value → Shared → Prop} {m : Str → Option Value}
    (G : LawG w mean mg mb h₀) (hE : PassesOwn (model Challenge.rw_om0134_01.row.prog w) (lawA w L fa cd) (lawEnv w L fa cd) E)
    (sc : Addr) (vs : List Value) (ns : List Int) (hl : h₀.IsList sc vs.toArray) (hi : IntsAre vs ns) (hz : ns.length ≤ 63)
    (oN oM : Obj) (v1 v2 : Option Value) (c1 : oN.data = .cell v1) (c2 : oM.data = .cell v2)
    (F : Fr h₀ L h m) (hm : AllAt m [(("script" : Str), .ref sc)]) (N : News h₀ L h [(L + 1 + 1, oM), (L + 1, oN)])
    (hQ : ∀ (h' : Heap) (tk' : Nat) (m' : Str → Option Value), Fr h₀ L h' m' → Q (.ret (.bool true)) { s with heap := h', toks := tk' }) :
    wpAny (model Challenge.rw_om0134_01.row.prog w) (lawA w L fa cd) (execs [lawS w 0, lawS w 1, lawS w 2, lawS w 3, lawS w 4, lawS w 5, lawS w 6, lawS w 7, lawS w 8, lawS w 9, lawS w 10, lawS w 11, lawS w 12, lawS w 13, lawS w 14, lawS w 15, lawS w 16, lawS w 17, lawS w 18, lawS w 19] (lawEnv w L fa cd)) Q E { s with heap := h, toks := tk } := by
  refine law_head G hE sc vs ns hl hi hz oN oM v1 v2 c1 c2 _ (hm.fr F) N ?_
  intro e fl rs kr kf ke tl oM' mv' x0 x1 x2 h' tk' u' hle hr k0 k1 k2 c2' F' N'
  exact law_tail G hE e fl rs kr kf ke tl oM' mv' x0 x1 x2 hle hr k0 k1 k2 c2' F' N' hQ
end Mine
open Mine
#guard_msgs (drop error) in
lay_quick_some 0 no_such_name
theorem PySem.Challenge.cw_om0134_01_holds : PySem.Challenge.rw_om0134_01.Holds := by
  refine holds_law Mine.said (fun _ => Mine.hd ?_)
  k_go0
  rename Below _ _ _ _ => K0
  rename Frag.In _ _ => KX
  rename Top _ _ _ _ _ _ => T0
  have G : LawG _ _ _ _ _ := ⟨K0, KX, T0⟩
  rename Fr _ _ _ _ => F0
  rename News _ _ _ _ => N0
  rename Heap.IsList _ _ _ => hL
  rename IntsAre _ _ => hI
  refine law_full G ?hE _ _ _ hL hI ?hz _ _ _ _ (by assumption) (by assumption) F0 ?hm N0 ?hQ
  case hE => first | passes_own | (unfold lawA lawEnv; passes_own)
  case hz => omega
  case hm => exact ⟨rfl, trivial⟩
  case hQ =>
    intro h' tk' m' F9
    clear F0 N0
    (try dsimp only)
    refine goodW_bool F9 (by assumption) (raisesW_false ?_) ?_
    · wrow_none_raised
    · wrow_post
