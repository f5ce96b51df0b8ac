import PyProof.Rows.All
import Wide.All
import OpenK.AllK
import Wide.FinOn
import PySem.Challenge.RW_re0146_01
open PySem PySem.W PyProof.Rows
set_option Elab.async false
namespace Mine
/-- the law over any program -/
@[reducible] def lawOf (p : Program) : OpenLaw := { prog := p, name := Str.ofString "law", about := [Str.ofString "int_divmod"], foot := 10, most := some 63, bound := none, writes := false }
theorem carryL {p : Program} (e : PySem.Challenge.pw_re0146_01 = p) (k : (lawOf p).Holds) : PySem.Challenge.rw_re0146_01.Holds := by subst e; exact k
theorem backW {p : Program} {G : Prop} (e : PySem.Challenge.pw_re0146_01 = p) (k : PySem.Challenge.pw_re0146_01 = p → G) : G := k e
local macro_rules | `(tactic| w_on) => `(tactic| (refine carryL (p := ?p) ?e ?k; (case e => (unfold PySem.Challenge.pw_re0146_01; conv => lhs; reduce)); w_top on))
set_option maxRecDepth 1000000 in
set_option maxHeartbeats 8000000 in
open_top hd for PySem.Challenge.rw_re0146_01
end Mine
noncomputable section
namespace Mine
set_option maxRecDepth 100000
section
open PySem PySem.W PyProof.Rows PySem.Spec
noncomputable abbrev PP : Program := Challenge.rw_re0146_01.row.prog
noncomputable abbrev Ar (dep : Nat) (env : Env) (outer : List Env) : Around := { handled := none, depth := dep, frames := some (env :: outer), guards := none, units := 3 * dep }
theorem wp_lift {α : Type} {M : Model} {A A' : Around} {t : Sem α} {Q : α → Shared → Prop} {E : Value → Shared → Prop} {s : Shared} (h : wpAny M A t Q E s)
    (hh : A'.handled = A.handled) (hd : A'.depth ≤ A.depth) (hf : A'.frames = A.frames) (hg : A.guards = none) (hu : A'.units ≤ A.units) : wpAny M A' t Q E s :=
  fun Γ p hΓ => h Γ p ⟨hΓ.1.trans hh, Nat.le_trans hΓ.2.1 hd, fun l hl => hΓ.2.2.1 l (hf.trans hl), (fun _ hg' => (nomatch (hg.symm.trans hg'))), Nat.le_trans hΓ.2.2.2.2 hu⟩
noncomputable def KeepsBut (led : List (Addr × Obj)) (h h' : Heap) : Prop := ∀ b o, h.get? b = some o → (∀ p ∈ led, p.1 ≠ b) → h'.get? b = some o
noncomputable def FreshBut (led : List (Addr × Obj)) (h : Heap) (nl : List (Addr × Obj)) : Prop := ∀ b o, h.get? b = some o → (∀ p ∈ led, p.1 ≠ b) → ∀ p ∈ nl, b ≠ p.1
noncomputable def Heads (h : Heap) : Prop := CodeHd h 34 30 ∧ CodeHd h 41 37
theorem Heads.keeps {h h' : Heap} (x : Heads h) (k : ∀ b o, h.get? b = some o → h'.get? b = some o) : Heads h' := ⟨CodeHd.keeps x.1 k, CodeHd.keeps x.2 k⟩
inductive Gr (w : World) (h₀ : Heap) (outer : List Env) : Prop
  | mk : ∀ (A₀ : Around) (base : Heap), Below A₀ base outer h₀ → (hd.heap_39 w.params).In h₀ → ∀ (p : Program) (loose : List Str) (mean : ExcName → Option Value) (mg mb : Str → Option Value), Top p loose mean mg mb h₀ → Heads h₀ → Gr w h₀ outer
noncomputable def Con (dep : Nat) (w : World) (f : Addr) (vs : List Value) (led : List (Addr × Obj)) (pre : Heap → Prop) (ret : Value → List (Addr × Obj) → Prop) : Prop :=
  ∀ (env : Env) (outer : List Env) (h₀ : Heap) (L : Addr) (m : Str → Option Value) (hp : Heap) (gn : Array GenState) (dr : Drawn) (tk : Nat) (os : OsState) (Q E : Value → Shared → Prop),
    env.frame = some L → env.scope.kind = .function → Gr w h₀ outer → Fr h₀ L hp m → News h₀ L hp led → pre hp →
    (∀ v nl h' tk', ret v nl → Fr h₀ L h' m → News h₀ L h' nl → KeepsBut led hp h' → FreshBut led hp nl → Q v ⟨h', gn, dr, tk', os⟩) →
    wpAny (model PP w) (Ar dep env outer) (call (.ref f) vs) Q E ⟨hp, gn, dr, tk, os⟩
theorem off1_of {a : Addr} : ∀ {l : List (Addr × Obj)}, (∀ p ∈ l, p.1 ≠ a) → LCg.Off1 a l
  | [], _ => trivial
  | _ :: _, h => ⟨h _ List.mem_cons_self, off1_of fun p hp => h p (List.mem_cons_of_mem _ hp)⟩
theorem off1_mem {a : Addr} : ∀ {l : List (Addr × Obj)}, LCg.Off1 a l → ∀ p ∈ l, p.1 ≠ a
  | [], _, _, h => nomatch h
  | _ :: _, x, p, h => by
    rcases List.mem_cons.mp h with rfl | h
    · exact x.1
    · exact off1_mem x.2 p h
theorem cN1 (L : Nat) : L + 1 ≠ L + 1 + 1 := Nat.ne_of_lt (Nat.lt_succ_self _)
theorem cN2 (L : Nat) : L + 1 ≠ L + 1 + 1 + 1 := Nat.ne_of_lt (Nat.lt_succ_of_lt (Nat.lt_succ_self _))
theorem cN3 (L : Nat) : L + 1 ≠ L + 1 + 1 + 1 + 1 := Nat.ne_of_lt (Nat.lt_succ_of_lt (Nat.lt_succ_of_lt (Nat.lt_succ_self _)))
theorem cL1 {a L : Nat} (h : a < L) : a ≠ L + 1 := Nat.ne_of_lt (Nat.lt_succ_of_lt h)
theorem cL2 {a L : Nat} (h : a < L) : a ≠ L + 1 + 1 := cL1 (Nat.lt_succ_of_lt h)
theorem cL3 {a L : Nat} (h : a < L) : a ≠ L + 1 + 1 + 1 := cL2 (Nat.lt_succ_of_lt h)
theorem cL4 {a L : Nat} (h : a < L) : a ≠ L + 1 + 1 + 1 + 1 := cL3 (Nat.lt_succ_of_lt h)
noncomputable abbrev ledT (ps qs : Array Value) (ic : Addr) (io : Obj) (jc : Addr) (jo : Obj) : List (Addr × Obj) := [(30, tabObj ps), (ic, io), (37, tabObj qs), (jc, jo)]
noncomputable def OffG (a : Addr) : List (Addr × Obj) → Prop → Prop
  | [], k => k
  | q :: r, k => (@Ne Nat q.1 a) ∧ OffG a r k
noncomputable def OffF (rest : List (Addr × Obj)) : List (Addr × Obj) → Prop
  | [] => True
  | p :: r => OffG p.1 rest (OffF rest r)
theorem offG_of {a : Addr} {k : Prop} : ∀ {l : List (Addr × Obj)}, LCg.Off1 a l → k → OffG a l k
  | [], _, h => h
  | _ :: _, x, h => ⟨x.1, offG_of x.2 h⟩
theorem offs_of {rest : List (Addr × Obj)} : ∀ {nl : List (Addr × Obj)}, (∀ q ∈ nl, LCg.Off1 q.1 rest) → OffF rest nl
  | [], _ => trivial
  | _ :: _, h => offG_of (h _ List.mem_cons_self) (offs_of fun q hq => h q (List.mem_cons_of_mem _ hq))
inductive Rem (led : List (Addr × Obj)) : List (Addr × Obj) → List (Addr × Obj) → Prop
  | nil : Rem led [] []
  | keep {p : Addr × Obj} {news rest : List (Addr × Obj)} : (∀ q ∈ led, q.1 ≠ p.1) → Rem led news rest → Rem led (p :: news) (p :: rest)
  | skip {p : Addr × Obj} {news rest : List (Addr × Obj)} : Rem led news rest → Rem led (p :: news) rest
theorem Rem.mem {led news rest : List (Addr × Obj)} (x : Rem led news rest) : ∀ p ∈ rest, p ∈ news ∧ ∀ q ∈ led, q.1 ≠ p.1 := by
  induction x with
  | nil => exact fun _ hp => nomatch hp
  | keep h _ ih =>
    intro p hp
    rcases List.mem_cons.mp hp with rfl | hp
    · exact ⟨List.mem_cons_self, h⟩
    · exact ⟨List.mem_cons_of_mem _ (ih p hp).1, (ih p hp).2⟩
  | skip _ ih => exact fun p hp => ⟨List.mem_cons_of_mem _ (ih p hp).1, (ih p hp).2⟩
theorem rem_all (news : List (Addr × Obj)) : Rem [] news news := by
  induction news with
  | nil => exact .nil
  | cons p r ih => exact .keep (fun q hq => nomatch hq) ih
theorem Con.use {dep : Nat} {w : World} {f : Addr} {vs : List Value} {led : List (Addr × Obj)} {pre : Heap → Prop} {ret : Value → List (Addr × Obj) → Prop} (C : Con dep w f vs led pre ret) {rest : List (Addr × Obj)}
    {env : Env} {outer : List Env} {A : Around} {h₀ : Heap} {L : Addr} {m : Str → Option Value} {news : List (Addr × Obj)} {hp : Heap} {gn : Array GenState} {dr : Drawn} {tk : Nat} {os : OsState} {Q E : Value → Shared → Prop}
    (G : Gr w h₀ outer) (F : Fr h₀ L hp m) (N : News h₀ L hp news) (hm : ∀ p ∈ led, p ∈ news) (hrm : Rem led news rest) (hpre : pre hp)
    (ha : A.frames = some (env :: outer)) (hf : env.frame = some L) (hk : env.scope.kind = .function) (hh : A.handled = none) (hd : A.depth ≤ dep) (hu : A.units ≤ 3 * dep)
    (k : ∀ v nl h' tk', ret v nl → Fr h₀ L h' m → News h₀ L h' (nl ++ rest) → (∀ q ∈ nl, LCg.Off1 q.1 rest) → Q v ⟨h', gn, dr, tk', os⟩) :
    wpAny (model PP w) A (call (.ref f) vs) Q E ⟨hp, gn, dr, tk, os⟩ := by
  refine wp_lift (A := Ar dep env outer) (C env outer h₀ L m hp gn dr tk os Q E hf hk G F (fun q hq => N q (hm q hq)) hpre fun v nl h' tk' hr F' N' hk hfr => ?_) hh hd ha rfl hu
  refine k v nl h' tk' hr F' (fun q hq => ?_) fun q hq => off1_of fun r hr => hfr r.1 r.2 (N r (hrm.mem r hr).1).1 (hrm.mem r hr).2 q hq
  rcases List.mem_append.mp hq with hq | hq
  · exact N' q hq
  · have z := hrm.mem q hq
    exact ⟨hk _ _ (N q z.1).1 z.2, (N q z.1).2⟩
theorem keepsBut2 {led : List (Addr × Obj)} {h g h' : Heap} {L : Addr} {m : Str → Option Value} (k : KeepsBut led h g) (F : Fr g L h' m) : KeepsBut led h h' := fun b o e n => F.keep b o (k b o e n)
theorem freshBut_of {led : List (Addr × Obj)} {h g h' : Heap} {L : Addr} {nl : List (Addr × Obj)} (k : KeepsBut led h g) (N : News g L h' nl) : FreshBut led h nl := fun b o e n p hp q => by
  have := (N p hp).2.2
  rw [← q, k b o e n] at this
  cases this
theorem hidden {h : Heap} (led : List (Addr × Obj)) : KeepsBut led h (hideAll h (led.map (·.1))) := fun b o e hn => hideAll_get _ e fun q => by
  obtain ⟨p, hp, hq⟩ := List.mem_map.mp q
  exact hn p hp hq
noncomputable abbrev valOf : Flow → Value
  | .ret v => v
  | _ => .none
section
variable {w : World} {dep : Nat} {name qual : Str} {params : Arguments} {body : List Stmt} {scope : Scope} {dV kV doc pm cdv ct oc : Value} {an od : Option Addr} {osl : Array (Option Value)} {f : Addr} {vs : List Value} {binds : List (Str × Value)} {led : List (Addr × Obj)} {pre pre' : Heap → Prop} {ret : Value → List (Addr × Obj) → Prop}
theorem con0 (ho : (hd.heap_39 w.params).lookup f = some ⟨oc, od, .func (fnOf name qual params body scope dV kV doc pm an cdv ct), osl⟩) (hcd : codeIn (hd.heap_39 w.params) cdv qual = true) (hroom : dep < recursionLimit)
    (hbind : ∀ s, BindsTo s (fnOf name qual params body scope dV kV doc pm an cdv ct) ⟨vs, []⟩ binds) (hloc : ∀ y ∈ binds, scope.names.lookup y.1 = some .local)
    (hpre : ∀ hp g, pre hp → KeepsBut led hp g → pre' g)
    (hb : ∀ (outer : List Env) (g : Heap) (L' : Addr) (h₁ : Heap) (gn : Array GenState) (dr : Drawn) (tk : Nat) (os : OsState) (Q : Flow → Shared → Prop) (E : Value → Shared → Prop), Gr w g outer → pre' g → Fr g L' h₁ (fun y => binds.reverse.lookup y) → News g L' h₁ led → LCg.Off1 L' led → PassesOwn (model PP w) (Ar (dep + 1) (envOf qual scope L' f cdv) outer) (envOf qual scope L' f cdv) E →
      (∀ fl nl h' tk' m', ret (valOf fl) nl → Fr g L' h' m' → News g L' h' nl → Q fl ⟨h', gn, dr, tk', os⟩) →
      wpAny (model PP w) (Ar (dep + 1) (envOf qual scope L' f cdv) outer) (execs body (envOf qual scope L' f cdv)) Q E ⟨h₁, gn, dr, tk, os⟩)
    (hco : scope.isCoroutine = false) (hgen : scope.isGenerator = false) (hk : scope.kind = .function) (hcell : ∀ x ∈ scope.names, x.2 ≠ .cell) : Con dep w f vs led pre ret := by
  intro env outer h₀ L m hp gn dr tk os Q E hf hke G F N hpr hret
  obtain ⟨A₀, base, B, X₀, p, loose, mean, mg, mb, T, H⟩ := G
  refine wpAny_call ?_
  obtain ⟨FG, BG, st, lv⟩ := groundX (R := fun r s' => match r with | .ok (.ret v) => Q v s' | .ok _ => False | .error e => E e s') (A := Ar dep env outer) (A₀ := A₀) (s := ⟨hp, gn, dr, tk, os⟩) (news := led) B F N rfl hf hke
  refine codeAny_call_def (fd := fnX name qual params body scope [] dV kV doc pm an cdv ct) (body := body) (binds := binds) hroom ((X₀.keeps F.keep) _ _ ho) rfl (T.nolimit.keeps F.keep) (codeRec_of (X₀.keeps F.keep) hcd) rfl (hbind _) hcell hloc (fun h₁ hns hk₁ => ?_) hco hgen hk
  refine wpAny_mono (hb (env :: outer) (hideAll hp (led.map (·.1))) hp.objs.size h₁ gn dr _ os (fun fl s' => LeaveK h₀ L m (hideAll hp (led.map (·.1))) (fun r s' => match r with | .ok (.ret v) => Q v s' | .ok _ => False | .error e => E e s') (valOf fl) s') (fun e s' => wpAny (model PP w) (Ar (dep + 1) (envOf qual scope hp.objs.size f cdv) (env :: outer)) (leaving (envOf qual scope hp.objs.size f cdv) e) (fun _ s'' => E e s'') (fun e' s'' => E e' s'') s') ⟨_, _, BG, X₀.keeps st, _, _, _, _, _, T.keeps st, H.keeps st⟩ (hpre _ _ hpr (hidden led))
      ⟨hns, fun b o e => hk₁ b o (of_hideAll _ e), Nat.le_of_eq (hideAll_size _ _)⟩ (fun p hp => ⟨hk₁ _ _ (N p hp).1, Nat.ne_of_lt (Heap.lt_size (N p hp).1), hideAll_none _ (List.mem_map_of_mem hp)⟩) (off1_of fun p hp => Nat.ne_of_lt (Heap.lt_size (N p hp).1)) (by passes_own) fun fl nl h' tk' m' hr F' N' => ?_) (fun fl s' hl => lv _ _ hl) fun _ _ y => y
  exact ⟨_, m', nl, F', N', fun F'' N'' => hret _ nl h' tk' hr F'' N'' (keepsBut2 (hidden led) F') (freshBut_of (hidden led) N')⟩
theorem con1 (ho : (hd.heap_39 w.params).lookup f = some ⟨oc, od, .func (fnOf name qual params body scope dV kV doc pm an cdv ct), osl⟩) (hcd : codeIn (hd.heap_39 w.params) cdv qual = true) (hroom : dep < recursionLimit)
    (hbind : ∀ s, BindsTo s (fnOf name qual params body scope dV kV doc pm an cdv ct) ⟨vs, []⟩ binds) (hkind : (binds.all fun y => scope.names.lookup y.1 == some .local || scope.names.lookup y.1 == some .cell) = true)
    (hnd : ((cellsFrom 0 scope.names []).map (·.1)).Nodup) (hpre : ∀ hp g, pre hp → KeepsBut led hp g → pre' g)
    (hb : ∀ (outer : List Env) (g : Heap) (L' : Addr) (h₁ : Heap) (gn : Array GenState) (dr : Drawn) (tk : Nat) (os : OsState) (cells : List (Addr × Obj)) (Q : Flow → Shared → Prop) (E : Value → Shared → Prop), Gr w g outer → pre' g → Fr g L' h₁ (bindL (envOfC qual scope L' f cdv).kindOf binds fun _ => none) → News g L' h₁ (cells ++ led) → (∀ p ∈ led, p.1 < L') →
      CellsAre (bindC (envOfC qual scope L' f cdv).kindOf binds fun _ => none) (cellsFrom (L' + 1) scope.names []) cells → PassesOwn (model PP w) (Ar (dep + 1) (envOfC qual scope L' f cdv) outer) (envOfC qual scope L' f cdv) E →
      (∀ fl nl h' tk' m', ret (valOf fl) nl → Fr g L' h' m' → News g L' h' nl → Q fl ⟨h', gn, dr, tk', os⟩) →
      wpAny (model PP w) (Ar (dep + 1) (envOfC qual scope L' f cdv) outer) (execs body (envOfC qual scope L' f cdv)) Q E ⟨h₁, gn, dr, tk, os⟩)
    (hco : scope.isCoroutine = false) (hgen : scope.isGenerator = false) (hk : scope.kind = .function) : Con dep w f vs led pre ret := by
  intro env outer h₀ L m hp gn dr tk os Q E hf hke G F N hpr hret
  obtain ⟨A₀, base, B, X₀, p, loose, mean, mg, mb, T, H⟩ := G
  refine wpAny_call ?_
  obtain ⟨FG, BG, st, lv⟩ := groundX (R := fun r s' => match r with | .ok (.ret v) => Q v s' | .ok _ => False | .error e => E e s') (A := Ar dep env outer) (A₀ := A₀) (s := ⟨hp, gn, dr, tk, os⟩) (news := led) B F N rfl hf hke
  refine codeAny_call_function (fd := fnX name qual params body scope [] dV kV doc pm an cdv ct) hroom ((X₀.keeps F.keep) _ _ ho) rfl hco hgen rfl (codeRec_of (X₀.keeps F.keep) hcd) (hbind _ _ _ _ _ ?_)
  refine wpAny_newFunctionEnv_cells hk (kindsX hkind _) fun env' he s' x => ?_
  subst he
  refine ⟨(T.nolimit.keeps F.keep).keeps x.toInCall.keep, codeAny_func ?_⟩
  obtain ⟨h₁, tk, rfl, _⟩ := x.done
  have hk₁ := x.toInCall.keep
  obtain ⟨cells, NC, Y⟩ := Cl.news (h₀ := hp) (Nat.le_refl _) fun n c hm => ⟨x.cell n c (lookup_of_mem_nodup (cellsFrom_names scope.names 0 (hp.objs.size + 1) [] [] rfl ▸ hnd) hm), x.above n c hm⟩
  refine wpAny_mono (hb (env :: outer) (hideAll hp (led.map (·.1))) hp.objs.size h₁ gn dr tk os cells (fun fl s' => LeaveK h₀ L m (hideAll hp (led.map (·.1))) (fun r s' => match r with | .ok (.ret v) => Q v s' | .ok _ => False | .error e => E e s') (valOf fl) s') (fun e s' => wpAny (model PP w) (Ar (dep + 1) (envOfC qual scope hp.objs.size f cdv) (env :: outer)) (leaving (envOfC qual scope hp.objs.size f cdv) e) (fun _ s'' => E e s'') (fun e' s'' => E e' s'') s') ⟨_, _, BG, X₀.keeps st, _, _, _, _, _, T.keeps st, H.keeps st⟩ (hpre _ _ hpr (hidden led))
      ⟨x.toInCall.ns, fun b o e => hk₁ b o (of_hideAll _ e), Nat.le_of_eq (hideAll_size _ _)⟩ (fun p hp => ?_) (fun p hp => Heap.lt_size (N p hp).1) Y (by passes_own) fun fl nl h' tk' m' hr F' N' => ?_) (fun fl s' hl => lv _ _ hl) fun _ _ y => y
  · rcases List.mem_append.mp hp with hp | hp
    · refine ⟨(NC p hp).1, (NC p hp).2.1, ?_⟩
      cases q : (hideAll _ (led.map (·.1))).get? p.1 with
      | none => rfl
      | some o => have := of_hideAll _ q; rw [(NC p hp).2.2] at this; cases this
    · exact ⟨hk₁ _ _ (N p hp).1, Nat.ne_of_lt (Heap.lt_size (N p hp).1), hideAll_none _ (List.mem_map_of_mem hp)⟩
  · exact ⟨_, m', nl, F', N', fun F'' N'' => hret _ nl h' tk' hr F'' N'' (keepsBut2 (hidden led) F') (freshBut_of (hidden led) N')⟩
theorem con0L (ho : (hd.heap_39 w.params).lookup f = some ⟨oc, od, .func (fnOf name qual params body scope dV kV doc pm an cdv ct), osl⟩) (hcd : codeIn (hd.heap_39 w.params) cdv qual = true) (hroom : dep < recursionLimit)
    (hbind : ∀ s, BindsTo s (fnOf name qual params body scope dV kV doc pm an cdv ct) ⟨vs, []⟩ binds) (hloc : ∀ y ∈ binds, scope.names.lookup y.1 = some .local)
    (hpre : ∀ hp g, pre hp → KeepsBut led hp g → pre' g)
    (hb : ∀ (outer : List Env) (g : Heap) (L' : Addr) (h₁ : Heap) (gn : Array GenState) (dr : Drawn) (tk : Nat) (os : OsState) (Q : Flow → Shared → Prop) (E : Value → Shared → Prop), let ee := envOf qual scope L' f cdv; let AA := Ar (dep + 1) ee outer; Gr w g outer → pre' g → Fr g L' h₁ (fun y => binds.reverse.lookup y) → News g L' h₁ led → LCg.Off1 L' led → PassesOwn (model PP w) AA ee E →
      (∀ fl nl h' tk' m', ret (valOf fl) nl → Fr g L' h' m' → News g L' h' nl → Q fl ⟨h', gn, dr, tk', os⟩) →
      wpAny (model PP w) AA (execs body ee) Q E ⟨h₁, gn, dr, tk, os⟩)
    (hco : scope.isCoroutine = false) (hgen : scope.isGenerator = false) (hk : scope.kind = .function) (hcell : ∀ x ∈ scope.names, x.2 ≠ .cell) : Con dep w f vs led pre ret := con0 ho hcd hroom hbind hloc hpre hb hco hgen hk hcell
theorem con1L (ho : (hd.heap_39 w.params).lookup f = some ⟨oc, od, .func (fnOf name qual params body scope dV kV doc pm an cdv ct), osl⟩) (hcd : codeIn (hd.heap_39 w.params) cdv qual = true) (hroom : dep < recursionLimit)
    (hbind : ∀ s, BindsTo s (fnOf name qual params body scope dV kV doc pm an cdv ct) ⟨vs, []⟩ binds) (hkind : (binds.all fun y => scope.names.lookup y.1 == some .local || scope.names.lookup y.1 == some .cell) = true)
    (hnd : ((cellsFrom 0 scope.names []).map (·.1)).Nodup) (hpre : ∀ hp g, pre hp → KeepsBut led hp g → pre' g)
    (hb : ∀ (outer : List Env) (g : Heap) (L' : Addr) (h₁ : Heap) (gn : Array GenState) (dr : Drawn) (tk : Nat) (os : OsState) (cells : List (Addr × Obj)) (Q : Flow → Shared → Prop) (E : Value → Shared → Prop), let ee := envOfC qual scope L' f cdv; let AA := Ar (dep + 1) ee outer; Gr w g outer → pre' g → Fr g L' h₁ (bindL (envOfC qual scope L' f cdv).kindOf binds fun _ => none) → News g L' h₁ (cells ++ led) → (∀ p ∈ led, p.1 < L') →
      CellsAre (bindC (envOfC qual scope L' f cdv).kindOf binds fun _ => none) (cellsFrom (L' + 1) scope.names []) cells → PassesOwn (model PP w) AA ee E →
      (∀ fl nl h' tk' m', ret (valOf fl) nl → Fr g L' h' m' → News g L' h' nl → Q fl ⟨h', gn, dr, tk', os⟩) →
      wpAny (model PP w) AA (execs body ee) Q E ⟨h₁, gn, dr, tk, os⟩)
    (hco : scope.isCoroutine = false) (hgen : scope.isGenerator = false) (hk : scope.kind = .function) : Con dep w f vs led pre ret := con1 ho hcd hroom hbind hkind hnd hpre hb hco hgen hk
end
end
set_option compiler.extract_closed false in
local macro_rules | `(tactic| walk_at $s:str) => `(tactic| k_extra $s)
set_option compiler.extract_closed false in
local macro_rules | `(tactic| k_lt $h:ident) => `(tactic| (revert $h; k_extra "k_lt"))
set_option compiler.extract_closed false in
local macro_rules | `(tactic| k_ne) => `(tactic| k_extra "k_ne")
section
open PySem PySem.W PyProof.Rows PySem.Spec
theorem bl1 {k : Int} (h : -128 ≤ k) (g : k < 128) : Builtin.Int.intBits k ≤ 64 := intBits_le_64 (Int.lt_of_lt_of_le (by decide) h) (Int.lt_trans g (by decide))
theorem bl2 : Builtin.Int.intBits 2 ≤ 64 := bl1 (by decide) (by decide)
theorem bl4 : Builtin.Int.intBits 4 ≤ 64 := bl1 (by decide) (by decide)
theorem bl8 {k : Int} (h : 0 ≤ k) (g : k < 8) : Builtin.Int.intBits k ≤ 64 := bl1 (Int.le_trans (by decide) h) (Int.lt_trans g (by decide))
theorem bl5 {k : Int} (h : 1 ≤ k ∧ k ≤ 4) : Builtin.Int.intBits k ≤ 64 := bl1 (Int.le_trans (by decide) h.1) (Int.lt_of_le_of_lt h.2 (by decide))
theorem blN {b n : Nat} (h : b < n) (g : n ≤ 3) : Builtin.Int.intBits (b : Int) ≤ 64 := bl1 (Int.le_trans (by decide) (Int.natCast_nonneg b)) (Int.ofNat_lt.mpr (Nat.lt_trans (Nat.lt_of_lt_of_le h g) (by decide)))
theorem nn1 {n : Nat} (h : 1 ≤ n) : -(n : Int) ≤ -1 := Int.neg_le_neg (Int.ofNat_le.mpr h)
theorem nn0 {n : Nat} : -(n : Int) ≤ 0 := Int.neg_nonpos_of_nonneg (Int.natCast_nonneg n)
theorem np0 {n : Nat} (h : 1 ≤ n) : (0 : Int) < (n : Int) := Int.natCast_pos.mpr h
theorem npm {n : Nat} : (-1 : Int) < (n : Int) := Int.lt_of_lt_of_le (by decide) (Int.natCast_nonneg n)
theorem n3 {n : Nat} (h : n ≤ 3) : n ≤ 16777216 := Nat.le_trans h (by decide)
theorem n8 {n : Nat} (h : n ≤ 8) : n ≤ 16777216 := Nat.le_trans h (by decide)
theorem sum8 {a b c d k : Nat} (h : a + b = c) (g : c ≤ k) (e : d = a) : d ≤ k := e ▸ Nat.le_trans (Nat.le.intro h) g
theorem sum2 {a b d : Nat} (h : a + b ≤ 2) (e : d = a) : d ≤ 8 := e ▸ Nat.le_trans (Nat.le_trans (Nat.le_add_right _ _) h) (by decide)
theorem sub0 {l : Nat} {z : Int} {k : Nat} (e : (l : Int) = z) (h : l ≤ k) : z - 0 ≤ (k : Int) := by rw [Int.sub_zero, ← e]; exact Int.ofNat_le.mpr h
theorem lr4 {l : Nat} {z : Int} (e : (l : Int) = z) (h : z ≤ 4) : l ≤ 4 := Int.ofNat_le.mp (e ▸ h)
theorem tlN {lo hi : Int} {l : Nat} (h : 0 ≤ lo) (g : hi ≤ l) (e : lo + 1 = hi) : lo.toNat < l := (Int.toNat_lt h).mpr (Int.lt_of_lt_of_le (Int.lt_add_one_of_le (Int.le_refl lo)) (e.symm ▸ g))
theorem mx8 {a : Int} (h : 0 ≤ a) (g : a < 8) : 0 ≤ a ∧ a < 1000000 := ⟨h, Int.lt_trans g (by decide)⟩
theorem le3 {n : Nat} (h : n ≤ 3) : n = 0 ∨ n = 1 ∨ n = 2 ∨ n = 3 := match n, h with
  | 0, _ => .inl rfl
  | 1, _ => .inr (.inl rfl)
  | 2, _ => .inr (.inr (.inl rfl))
  | 3, _ => .inr (.inr (.inr rfl))
  | n + 4, h => absurd h (Nat.not_le.mpr (Nat.le_add_left 4 n))
theorem dep {k j : Nat} (h : k < j) (g : j ≤ 440) : 440 - (k + 1) + 1 = 440 - k := Nat.sub_add_cancel (Nat.sub_pos_of_lt (Nat.lt_of_lt_of_le h g))
theorem noGap {lo hi : Int} (h : hi - lo ≤ 0) : ¬ lo < hi := Int.not_lt.mpr (Int.le_of_sub_nonpos h)
theorem i8 {i : Nat} (h : i < 8) : 0 ≤ (i : Int) ∧ (i : Int) < 8 := ⟨Int.natCast_nonneg i, Int.ofNat_lt.mpr h⟩
theorem mu2 (a : Int) : a * 2 = a + a := by rw [show (2 : Int) = 1 + 1 from rfl, Int.mul_add, Int.mul_one]
inductive RetZ (y : Int) (v : Value) (nl : List (Addr × Obj)) : Prop
  | mk : ∀ t, v = .int y t → nl = [] → RetZ y v nl
inductive RetL (ns : List Int) (v : Value) (nl : List (Addr × Obj)) : Prop
  | mk : ∀ D us c, v = .ref D → nl = [(D, ({ cls := .type "list", data := .seq (List.toArray us) c } : Obj))] → IntsAre us ns → RetL ns v nl
inductive RetN (ns : List Int) (v : Value) (nl : List (Addr × Obj)) : Prop
  | mk : ∀ D us n, v = .ref D → nl = [(D, PySem.W.listOf (List.toArray us) n)] → IntsAre us ns → RetN ns v nl
theorem fin_int {P : Int → Prop} (k : Nat) (h : ∀ n : Fin k, P (n.val : Int)) (x : Int) (h0 : 0 ≤ x) (h1 : x < k) : P x := by
  have e : x = ((⟨x.toNat, by omega⟩ : Fin k).val : Int) := by show x = (x.toNat : Int); omega
  rw [e]; exact h _
section
variable {prog : Program} {w : World} {A : Around} {E : Value → Shared → Prop} {s : Shared} {h₀ : Heap} {L : Addr} {m : Str → Option Value} {news : List (Addr × Obj)} {value slice : PySem.Expr} {x y : Str} {t u : Tok} {i : Int} {n : Nat} {Q : Value → Shared → Prop}
theorem itS (hk : x.length = n) (h0 : -(n : Int) ≤ i) (h1 : i < (n : Int)) (hn : n ≤ 16777216) (e : Txt.item x i = y) (h : ∀ t' k, Q (.str y t') { s with toks := k })
    (hs : subscripted slice false (.str x t) (.int i u) = operate [.str x t, .int i u] (getItem (.str x t) (.int i u)))
    (ht : ∀ r, letTemporaryGo value (.str x t) r = pure ()) :
    wpAny (model prog w) A (subscriptTail value slice (.str x t) (.int i u)) Q E s :=
  KXi.item hk h0 h1 hn (fun _ => by rw [e]; exact h _ _) hs ht
theorem eqS {b : Bool} (hb : (x == y) = b) (h : Q (.bool b) s) : wpAny (model prog w) A (compareOp .Eq (.str x t) (.str y u)) Q E s := PyProof.Rows.eq_str (by rw [← hb] at h; exact h)
end
theorem eq1 (z k : Nat) : (({ cps := #[z] } : Str) == { cps := #[k] }) = decide (z = k) := by
  by_cases h : z = k
  · subst h; simp
  · rw [decide_eq_false h]; apply beq_false_of_ne; intro e; injection e with e; simp at e; exact h e
theorem eq1c {z k : Nat} {y : Str} (h : y = { cps := #[k] }) : (({ cps := #[z] } : Str) == y) = decide (z = k) := by rw [h]; exact eq1 z k
noncomputable abbrev mOf {g h : Heap} {L : Addr} {m : Str → Option Value} (_ : Fr g L h m) : Str → Option Value := m
inductive EndI (y : Int) (h : Heap) (gn : Array GenState) (dr : Drawn) (os : OsState) (v : Value) (s' : Shared) : Prop
  | mk : ∀ t tk', v = .int y t → s' = ⟨h, gn, dr, tk', os⟩ → EndI y h gn dr os v s'
inductive EndS (g : Heap) (L : Addr) (news : List (Addr × Obj)) (m : Str → Option Value) (x : Str) (y : Int) (gn : Array GenState) (dr : Drawn) (os : OsState) (fl : Flow) (s' : Shared) : Prop
  | mk : fl = .next → ∀ h' tk' t y', y' = y → s' = ⟨h', gn, dr, tk', os⟩ → Fr g L h' (fun n => if n = x then some (.int y' t) else m n) → News g L h' news → EndS g L news m x y gn dr os fl s'
theorem viaG {G : Prop} (h : ∀ P : Prop, (G → P) → P) : G := h G id
section
variable {dep : Nat} {w : World} {f : Addr} {vs : List Value} {pre : Heap → Prop} {env : Env} {outer : List Env} {A : Around} {h₀ : Heap} {L : Addr} {m : Str → Option Value} {news : List (Addr × Obj)} {hp : Heap} {gn : Array GenState} {dr : Drawn} {tk : Nat} {os : OsState} {Q E : Value → Shared → Prop}
theorem Con.useZ {y : Int} (C : Con dep w f vs [] pre (RetZ y)) (G : Gr w h₀ outer) (F : Fr h₀ L hp m) (N : News h₀ L hp news) (hpre : pre hp)
    (ha : A.frames = some (env :: outer)) (hf : env.frame = some L) (hk : env.scope.kind = .function) (hh : A.handled = none) (hd : A.depth ≤ dep) (hu : A.units ≤ 3 * dep)
    (k : ∀ t h' tk', Fr h₀ L h' m → News h₀ L h' news → Q (.int y t) ⟨h', gn, dr, tk', os⟩) : wpAny (model PP w) A (call (.ref f) vs) Q E ⟨hp, gn, dr, tk, os⟩ := by
  refine Con.use C G F N (fun p hp => nomatch hp) (rem_all news) hpre ha hf hk hh hd hu ?_
  rintro _ _ h' tk' ⟨t, rfl, rfl⟩ F' N' _
  exact k t h' tk' F' N'
theorem Con.useN {ns : List Int} (C : Con dep w f vs [] pre (RetN ns)) (G : Gr w h₀ outer) (F : Fr h₀ L hp m) (N : News h₀ L hp news) (hpre : pre hp)
    (ha : A.frames = some (env :: outer)) (hf : env.frame = some L) (hk : env.scope.kind = .function) (hh : A.handled = none) (hd : A.depth ≤ dep) (hu : A.units ≤ 3 * dep)
    (k : ∀ D us n h' tk', IntsAre us ns → Fr h₀ L h' m → News h₀ L h' ((D, PySem.W.listOf (List.toArray us) n) :: news) → LCg.Off1 D news → Q (.ref D) ⟨h', gn, dr, tk', os⟩) : wpAny (model PP w) A (call (.ref f) vs) Q E ⟨hp, gn, dr, tk, os⟩ := by
  refine Con.use C G F N (fun p hp => nomatch hp) (rem_all news) hpre ha hf hk hh hd hu ?_
  rintro _ _ h' tk' ⟨D, us, n, rfl, rfl, hi⟩ F' N' o
  exact k D us n h' tk' hi F' N' (o _ List.mem_cons_self)
theorem Con.useL {ns : List Int} (C : Con dep w f vs [] pre (RetL ns)) (G : Gr w h₀ outer) (F : Fr h₀ L hp m) (N : News h₀ L hp news) (hpre : pre hp)
    (ha : A.frames = some (env :: outer)) (hf : env.frame = some L) (hk : env.scope.kind = .function) (hh : A.handled = none) (hd : A.depth ≤ dep) (hu : A.units ≤ 3 * dep)
    (k : ∀ D us n h' tk', IntsAre us ns → Fr h₀ L h' m → News h₀ L h' ((D, PySem.W.listOf (List.toArray us) n) :: news) → LCg.Off1 D news → Q (.ref D) ⟨h', gn, dr, tk', os⟩) : wpAny (model PP w) A (call (.ref f) vs) Q E ⟨hp, gn, dr, tk, os⟩ := by
  refine Con.use C G F N (fun p hp => nomatch hp) (rem_all news) hpre ha hf hk hh hd hu ?_
  rintro _ _ h' tk' ⟨D, us, n, rfl, rfl, hi⟩ F' N' o
  exact k D us n h' tk' hi F' N' (o _ List.mem_cons_self)
theorem Con.useB {b : Bool} (C : Con dep w f vs [] pre (fun v nl => ∃ c, v = .bool c ∧ c = b ∧ nl = [])) (G : Gr w h₀ outer) (F : Fr h₀ L hp m) (N : News h₀ L hp news) (hpre : pre hp)
    (ha : A.frames = some (env :: outer)) (hf : env.frame = some L) (hk : env.scope.kind = .function) (hh : A.handled = none) (hd : A.depth ≤ dep) (hu : A.units ≤ 3 * dep)
    (k : ∀ h' tk', Fr h₀ L h' m → News h₀ L h' news → Q (.bool b) ⟨h', gn, dr, tk', os⟩) : wpAny (model PP w) A (call (.ref f) vs) Q E ⟨hp, gn, dr, tk, os⟩ := by
  refine Con.use C G F N (fun p hp => nomatch hp) (rem_all news) hpre ha hf hk hh hd hu ?_
  rintro _ _ h' tk' ⟨t, rfl, rfl, rfl⟩ F' N' _
  exact k h' tk' F' N'
end
section
variable {M : Model} {A : Around} {T : Sem Flow} {g h : Heap} {L : Addr} {m : Str → Option Value} {news : List (Addr × Obj)} {gn : Array GenState} {dr : Drawn} {os : OsState} {Q : Flow → Shared → Prop} {E : Value → Shared → Prop} {s : Shared} {x : Str}
theorem joinI {y : Int} (h1 : wpAny M A T (EndS g L news m x y gn dr os) E s)
    (h2 : ∀ h' tk' t, Fr g L h' (fun n => if n = x then some (.int y t) else m n) → News g L h' news → Q .next ⟨h', gn, dr, tk', os⟩) : wpAny M A T Q E s := by
  refine wpAny_mono h1 ?_ fun _ _ e => e
  rintro _ _ ⟨rfl, h', tk', t, y', rfl, rfl, F', N'⟩
  exact h2 h' tk' t F' N'
end
end
section
open PySem PySem.W PyProof.Rows PySem.Spec
theorem lift0 {l : Addr} {its : Array Value} {h g : Heap} (x : h.IsList l its) (k : KeepsBut [] h g) : g.IsList l its := let ⟨o, e, r⟩ := x; ⟨o, k _ _ e fun _ hp => (nomatch hp), r⟩
theorem lift_list {h g : Heap} {l : Addr} {its : Array Value} (x : h.IsList l its) (k : ∀ b o, h.get? b = some o → g.get? b = some o) : g.IsList l its := let ⟨o, e, r⟩ := x; ⟨o, k _ _ e, r⟩
noncomputable def Small (rs : List Int) : Prop := rs.length = 8 ∧ ∀ v ∈ rs, 0 ≤ v ∧ v < 8
theorem small_mem {rs : List Int} {k : Int} (hk : k ∈ rs) (h : Small rs) : 0 ≤ k ∧ k < 8 := h.2 k hk
theorem small_at {rs : List Int} (h : Small rs) (i : Nat) : 0 ≤ rs.getD i 0 ∧ rs.getD i 0 < 8 := by
  rw [List.getD_eq_getElem?_getD]
  cases e : rs[i]? with
  | none => exact ⟨Int.le_refl 0, by decide⟩
  | some v => exact h.2 v (List.mem_of_getElem? e)
noncomputable def again (rs : List Int) : List Int := rs.map fun k => rs.getD k.toNat 0
theorem small_step {rs : List Int} (h : Small rs) : Small (rs.map fun k => rs.getD k.toNat 0) := by
  refine ⟨by rw [List.length_map]; exact h.1, fun v hv => ?_⟩
  obtain ⟨k, _, rfl⟩ := List.mem_map.mp hv
  exact small_at h _
section
variable {prog : Program} {w : World} {A : Around} {E : Value → Shared → Prop} {s : Shared} {g : Heap} {L l : Addr} {m : Str → Option Value} {news : List (Addr × Obj)} {us : List Value} {rs : List Int} {x : Int} {tk : Tok} {Q : Value → Shared → Prop} {value slice : PySem.Expr}
theorem sub8 (F : Fr g L s.heap m) (N : News g L s.heap news) (hl : LCg.SrcAt g l us.toArray news) (hi : IntsAre us rs) (hs8 : Small rs) (hx : 0 ≤ x ∧ x < 8) (h : ∀ t, Q (.int (rs.getD x.toNat 0) t) s)
    (hs : subscripted slice false (.ref l) (.int x tk) = operate [.ref l, .int x tk] (getItem (.ref l) (.int x tk))) :
    wpAny (model prog w) A (subscriptTail value slice (.ref l) (.int x tk)) Q E s := by
  have h8 := hs8.1
  have hlt : x.toNat < rs.length := by rw [h8]; exact (Int.toNat_lt hx.1).mpr hx.2
  have hlen : x.toNat < us.length := by rw [hi.length]; exact hlt
  obtain ⟨t, ht⟩ : ∃ t, us[x.toNat]? = some (.int (rs.getD x.toNat 0) t) := by
    have e := List.getElem?_eq_getElem hlen
    obtain ⟨k, t, e2, hk⟩ := IntsAre.at hi x.toNat _ e
    refine ⟨t, ?_⟩
    rw [e, e2, List.getD_eq_getElem?_getD, hk]
    rfl
  have hl' := hl.list F.keep N
  exact tail_any hl'.typeIs slot_list_getitem.lookup (wpAny_getItem_list hl' hx.1 (Int.lt_trans hx.2 (by decide)) (by simpa using ht) (h t)) hs
end
theorem src_of {g : Heap} {l : Addr} {its : Array Value} {news : List (Addr × Obj)} (h : g.IsList l its) : LCg.SrcAt g l its news := .inl h
theorem src_in {g : Heap} {l : Addr} {its : Array Value} {n : Nat} {news : List (Addr × Obj)} (h : (l, ({ cls := .type "list", data := .seq its n } : Obj)) ∈ news) : LCg.SrcAt g l its news := .inr ⟨_, h, rfl, n, rfl⟩
end
section
open PySem PySem.W PyProof.Rows PySem.Spec
section
variable {w : World} {dep : Nat} {name qual : Str} {params : Arguments} {body : List Stmt} {scope : Scope} {cl : List (Str × Addr)} {dV kV doc pm cdv ct : Value} {an : Option Addr} {f c : Addr} {fo oc : Obj} {vs : List Value} {vs0 : Array Value} {t : Tok} {binds : List (Str × Value)} {led : List (Addr × Obj)} {pre pre' : Heap → Prop} {ret : Value → List (Addr × Obj) → Prop}
theorem conF (hm : (f, fo) ∈ led) (ho : fo.data = .func (fnX name qual params body scope cl dV kV doc pm an (.ref c) ct)) (hc : (c, oc) ∈ led) (hcd : oc.data = .fields vs0) (hcv : vs0[1]? = some (.str qual t)) (hroom : dep < recursionLimit)
    (hbind : ∀ s, BindsTo s (fnX name qual params body scope cl dV kV doc pm an (.ref c) ct) ⟨vs, []⟩ binds) (hloc : ∀ y ∈ binds, scope.names.lookup y.1 = some .local) (hpre : ∀ hp g, pre hp → KeepsBut led hp g → pre' g)
    (hb : ∀ (outer : List Env) (g : Heap) (L' : Addr) (h₁ : Heap) (gn : Array GenState) (dr : Drawn) (tk : Nat) (os : OsState) (Q : Flow → Shared → Prop) (E : Value → Shared → Prop), Gr w g outer → pre' g → Fr g L' h₁ (fun y => binds.reverse.lookup y) → News g L' h₁ led → (∀ p ∈ led, p.1 < L') → PassesOwn (model PP w) (Ar (dep + 1) (envX qual scope L' f (.ref c) cl) outer) (envX qual scope L' f (.ref c) cl) E →
      (∀ fl nl h' tk' m', ret (valOf fl) nl → Fr g L' h' m' → News g L' h' nl → Q fl ⟨h', gn, dr, tk', os⟩) →
      wpAny (model PP w) (Ar (dep + 1) (envX qual scope L' f (.ref c) cl) outer) (execs body (envX qual scope L' f (.ref c) cl)) Q E ⟨h₁, gn, dr, tk, os⟩)
    (hco : scope.isCoroutine = false) (hgen : scope.isGenerator = false) (hk : scope.kind = .function) (hcell : ∀ x ∈ scope.names, x.2 ≠ .cell) : Con dep w f vs led pre ret := by
  intro env outer h₀ L m hp gn dr tk os Q E hf hke G F N hpr hret
  obtain ⟨A₀, base, B, X₀, p, loose, mean, mg, mb, T, H⟩ := G
  refine wpAny_call ?_
  obtain ⟨FG, BG, st, lv⟩ := groundX (R := fun r s' => match r with | .ok (.ret v) => Q v s' | .ok _ => False | .error e => E e s') (A := Ar dep env outer) (A₀ := A₀) (s := ⟨hp, gn, dr, tk, os⟩) (news := led) B F N rfl hf hke
  refine codeAny_call_def (fd := fnX name qual params body scope cl dV kV doc pm an (.ref c) ct) (body := body) (binds := binds) hroom (N _ hm).1 ho (T.nolimit.keeps F.keep) (codeRec_news N hc hcd hcv) rfl (hbind _) hcell hloc (fun h₁ hns hk₁ => ?_) hco hgen hk
  refine wpAny_mono (hb (env :: outer) (hideAll hp (led.map (·.1))) hp.objs.size h₁ gn dr _ os (fun fl s' => LeaveK h₀ L m (hideAll hp (led.map (·.1))) (fun r s' => match r with | .ok (.ret v) => Q v s' | .ok _ => False | .error e => E e s') (valOf fl) s') (fun e s' => wpAny (model PP w) (Ar (dep + 1) (envX qual scope hp.objs.size f (.ref c) cl) (env :: outer)) (leaving (envX qual scope hp.objs.size f (.ref c) cl) e) (fun _ s'' => E e s'') (fun e' s'' => E e' s'') s') ⟨_, _, BG, X₀.keeps st, _, _, _, _, _, T.keeps st, H.keeps st⟩ (hpre _ _ hpr (hidden led))
      ⟨hns, fun b o e => hk₁ b o (of_hideAll _ e), Nat.le_of_eq (hideAll_size _ _)⟩ (fun p hp => ⟨hk₁ _ _ (N p hp).1, Nat.ne_of_lt (Heap.lt_size (N p hp).1), hideAll_none _ (List.mem_map_of_mem hp)⟩) (fun p hp => Heap.lt_size (N p hp).1) (by passes_own) fun fl nl h' tk' m' hr F' N' => ?_) (fun fl s' hl => lv _ _ hl) fun _ _ y => y
  exact ⟨_, m', nl, F', N', fun F'' N'' => hret _ nl h' tk' hr F'' N'' (keepsBut2 (hidden led) F') (freshBut_of (hidden led) N')⟩
end
end
section
open PySem PySem.W PyProof.Rows PySem.Spec
inductive St (P : Addr) (ln cl : Nat) (q : Str) (c : Addr) (oc : Obj) : Array Value → Prop
  | empty : c ≠ P → St P ln cl q c oc #[]
  | full {vs : Array Value} {t : Tok} : oc.data = .fields vs → vs[1]? = some (.str q t) → c ≠ P → St P ln cl q c oc #[rawInt ln, rawInt cl, .ref c]
inductive Spl (P : Addr) (o : Obj) (extra : List (Addr × Obj)) : List (Addr × Obj) → List (Addr × Obj) → Prop
  | here : Spl P o extra ((P, o) :: extra) []
  | there {p : Addr × Obj} {news own : List (Addr × Obj)} : Spl P o extra news own → Spl P o extra (p :: news) (p :: own)
theorem Spl.eq {P : Addr} {o : Obj} {extra news own : List (Addr × Obj)} (x : Spl P o extra news own) : news = own ++ (P, o) :: extra := by
  induction x with
  | here => rfl
  | there _ ih => rw [ih]; rfl
section
variable {prog : Program} {w : World} {M : Model} {A : Around} {E : Value → Shared → Prop} {s : Shared} {L c P a : Addr} {h₀ : Heap} {m mg mb : Str → Option Value} {news own : List (Addr × Obj)} {c₀ : Addr} {o₀ : Obj} {p : Program} {loose : List Str} {mean : ExcName → Option Value}
  {name qual : Str} {params : Arguments} {body : List Stmt} {scope : Scope} {ps : Array Value} {pos : Pos} {firstLine : Nat} {clos : List (Str × Addr)} {cn : Str} {cs : Scope} {ccd : Value} {cl : List (Str × Addr)} {Q : Value → Shared → Prop}
theorem nestAny (F : Fr h₀ L s.heap m) (N : News h₀ L s.heap news) (T : Top p loose mean mg mb h₀) (C : CodeHd h₀ c P) (hcd : ccd = .ref c) (S : Spl P (tabObj ps) [(c₀, o₀)] news own) (I : St P pos.line pos.col qual c₀ o₀ ps) (hP : @LT.lt Nat _ P L) (hc : @LT.lt Nat _ c₀ L) (hown : ∀ p ∈ own, L < p.1)
    (hcl : closureFor scope (envX cn cs L a ccd cl) = pure clos)
    (h : ∀ f c' oc vs t ctv doc h' tk, Fr h₀ L h' m →
      News h₀ L h' ((f, fnMade name qual params body scope clos doc ((mg "__name__").getD .none) c' ctv) :: (c', oc) :: (P, tabObj #[rawInt pos.line, rawInt pos.col, .ref c']) :: own) →
      oc.data = .fields vs → vs[1]? = some (.str qual t) → LCg.Off1 c' ((P, tabObj ps) :: own) → (∀ q ∈ (c', oc) :: (P, tabObj ps) :: own, q.1 < f) → Q (.ref f) { s with heap := h', toks := tk }) :
    wpAny M A (makeFunction name qual params (.stmts body) scope (envX cn cs L a ccd cl) [] [] [] pos firstLine) Q E s := by
  have e := S.eq
  subst e
  cases I with
  | empty hne =>
    have hPo : ∀ p ∈ own, p.1 ≠ P := fun p hp q => by have h1 := hown p hp; rw [q] at h1; exact Nat.lt_irrefl _ (Nat.lt_trans h1 hP)
    have U : UpdF P (tabObj #[]) (own ++ [(P, tabObj #[]), (c₀, o₀)]) (fun o => own ++ [(P, o), (c₀, o₀)]) := by
      clear N hown S h
      induction own with
      | nil => exact UpdF.head (fun p hp => by rw [List.mem_singleton.mp hp]; exact hne)
      | cons q r ih => exact UpdF.tail (hPo q List.mem_cons_self) (ih fun p hp => hPo p (List.mem_cons_of_mem _ hp))
    refine nest_K F N T C hcd U trivial rfl hcl fun f c' oc vs t ctv doc h' tk F' N' d1 d2 l1 l2 => h f c' oc vs t ctv doc h' tk F' (fun q hq => N' q ?_) d1 d2 (off1_of fun q hq => ?_) fun q hq => ?_
    · rcases List.mem_cons.mp hq with rfl | hq
      · exact List.mem_cons_self
      · rcases List.mem_cons.mp hq with rfl | hq
        · exact List.mem_cons_of_mem _ List.mem_cons_self
        · refine List.mem_cons_of_mem _ (List.mem_cons_of_mem _ ?_)
          rcases List.mem_cons.mp hq with rfl | hq
          · exact List.mem_append_right _ (by simp)
          · exact List.mem_append_left _ hq
    · refine Nat.ne_of_lt (l1 q ?_)
      rcases List.mem_cons.mp hq with rfl | hq
      · exact List.mem_append_right _ (by simp)
      · exact List.mem_append_left _ hq
    · rcases List.mem_cons.mp hq with rfl | hq
      · exact l2
      · refine Nat.lt_trans (l1 q ?_) l2
        rcases List.mem_cons.mp hq with rfl | hq
        · exact List.mem_append_right _ (by simp)
        · exact List.mem_append_left _ hq
  | @full vs t d1 d2 hne =>
    refine nestHit_K (c' := c₀) F N T C hcd (List.mem_append_right _ List.mem_cons_self) (by simp [TriplesOk, rawInt]) (by simp [codeAmong, rawInt]) hcl fun f ctv doc h' tk F' N' l1 => h f c₀ o₀ vs t ctv doc h' tk F' (fun q hq => N' q ?_) d1 d2 (off1_of fun q hq => ?_) fun q hq => l1 q ?_
    · rcases List.mem_cons.mp hq with rfl | hq
      · exact List.mem_cons_self
      · refine List.mem_cons_of_mem _ ?_
        rcases List.mem_cons.mp hq with rfl | hq
        · exact List.mem_append_right _ (by simp)
        · rcases List.mem_cons.mp hq with rfl | hq
          · exact List.mem_append_right _ (by simp)
          · exact List.mem_append_left _ hq
    · rcases List.mem_cons.mp hq with rfl | hq
      · exact Ne.symm hne
      · exact Nat.ne_of_gt (Nat.lt_trans hc (hown q hq))
    · rcases List.mem_cons.mp hq with rfl | hq
      · exact List.mem_append_right _ (by simp)
      · rcases List.mem_cons.mp hq with rfl | hq
        · exact List.mem_append_right _ (by simp)
        · exact List.mem_append_left _ hq
end
theorem St.ne {P : Addr} {ln cl : Nat} {q : Str} {c : Addr} {oc : Obj} {ps : Array Value} (x : St P ln cl q c oc ps) : c ≠ P := by cases x <;> assumption
noncomputable abbrev StI := St 30 32 4 (Str.ofString "_int2digits.<locals>.inner")
noncomputable abbrev StD := St 37 47 4 (Str.ofString "_digits2int.<locals>.inner")
noncomputable def fillP (n : Int) : Nat → Int → Int → Int → List Int → List Int
  | 0, _, _, _, ns => ns
  | k + 1, x, lo, hi, ns =>
    if lo + 1 = hi then ns.set lo.toNat x else
    let mid := (lo + hi).fdiv (2 ^ Int.toNat 1)
    let sh := (mid - lo) * n
    let up := x.fdiv (2 ^ sh.toNat)
    fillP n k up mid hi (fillP n k (Builtin.bitXor x (up * 2 ^ sh.toNat)) lo mid ns)
theorem fill_len (n : Int) : ∀ (k : Nat) (x lo hi : Int) (ns : List Int), (fillP n k x lo hi ns).length = ns.length
  | 0, _, _, _, _ => rfl
  | k + 1, x, lo, hi, ns => by
    unfold fillP
    split
    · rw [List.length_set]
    · dsimp only; rw [fill_len, fill_len]
theorem bX (x sh : Int) (h0 : 0 ≤ x) (h1 : x < 128) (s0 : 0 ≤ sh) (s1 : sh < 9) : 0 ≤ Builtin.bitXor x (x.fdiv (2 ^ sh.toNat) * 2 ^ sh.toNat) ∧ Builtin.bitXor x (x.fdiv (2 ^ sh.toNat) * 2 ^ sh.toNat) < 128 ∧ 0 ≤ x.fdiv (2 ^ sh.toNat) ∧ x.fdiv (2 ^ sh.toNat) < 128 := by
  refine fin_int (P := fun x => 0 ≤ Builtin.bitXor x (x.fdiv (2 ^ sh.toNat) * 2 ^ sh.toNat) ∧ Builtin.bitXor x (x.fdiv (2 ^ sh.toNat) * 2 ^ sh.toNat) < 128 ∧ 0 ≤ x.fdiv (2 ^ sh.toNat) ∧ x.fdiv (2 ^ sh.toNat) < 128) 128 ?_ x h0 h1
  exact fin_int (P := fun sh => ∀ x : Fin 128, 0 ≤ Builtin.bitXor (x.val : Int) ((x.val : Int).fdiv (2 ^ sh.toNat) * 2 ^ sh.toNat) ∧ Builtin.bitXor (x.val : Int) ((x.val : Int).fdiv (2 ^ sh.toNat) * 2 ^ sh.toNat) < 128 ∧ 0 ≤ (x.val : Int).fdiv (2 ^ sh.toNat) ∧ (x.val : Int).fdiv (2 ^ sh.toNat) < 128) 9 (by decide +kernel) sh s0 s1
theorem midB (lo hi : Int) (h : lo + 1 < hi) (h4 : hi ≤ lo + 4) : lo < (lo + hi).fdiv (2 ^ Int.toNat 1) ∧ (lo + hi).fdiv (2 ^ Int.toNat 1) < hi ∧ (lo + hi).fdiv (2 ^ Int.toNat 1) ≤ lo + 2 := by
  have e : (lo + hi).fdiv (2 ^ Int.toNat 1) = (lo + hi) / 2 := Int.fdiv_eq_ediv_of_nonneg _ (by decide)
  rw [e]
  refine ⟨Int.lt_of_add_one_le (Int.le_ediv_of_mul_le (by decide) ?_), Int.ediv_lt_of_lt_mul (by decide) ?_, Int.ediv_le_of_le_mul (by decide) ?_⟩
  · rw [mu2, Int.add_assoc]
    exact Int.add_le_add_left (by rw [Int.add_comm]; exact Int.add_one_le_of_lt h) lo
  · rw [mu2]
    exact Int.add_lt_add_right (Int.lt_trans (Int.lt_add_one_of_le (Int.le_refl lo)) h) hi
  · rw [mu2, Int.add_assoc]
    exact Int.add_le_add_left (by rw [Int.add_left_comm]; exact h4) lo
section
variable {prog : Program} {w : World} {A : Around} {E : Value → Shared → Prop} {s : Shared} {a n : Int} {t u : Tok} {Q : Value → Shared → Prop}
theorem rsh (hn : 0 ≤ n) (h : ∀ t' k, Q (.int (a.fdiv (2 ^ n.toNat)) t') { s with toks := k }) : wpAny (model prog w) A (binaryOp .RShift (.int a t) (.int n u)) Q E s := rshift_int hn (h _ _)
theorem lsh (hn : 0 ≤ n ∧ n ≤ 1000) (ha : 0 ≤ a ∧ a < 1000000) (h : ∀ t' k, Q (.int (a * 2 ^ n.toNat) t') { s with toks := k }) : wpAny (model prog w) A (binaryOp .LShift (.int a t) (.int n u)) Q E s := lshift_int_small hn.1 (by omega) (by omega) (h _ _)
end
noncomputable abbrev ledI (D : Addr) (us : List Value) (c0 : Nat) (r : List (Addr × Obj)) : List (Addr × Obj) := (D, PySem.W.listOf us.toArray c0) :: r
section
variable {w : World} {n : Int} {tn : Tok} {D c1 c2 c3 f cc : Addr} {o1 o2 o3 fo oc : Obj} {vs0 : Array Value} {t : Tok} {doc pm ct : Value} {params : Arguments} {body : List Stmt} {scope : Scope} {qual : Str} {cl : List (Str × Addr)}
theorem inner_ind {g₀ hh : Heap} {L₀ : Addr} {news : List (Addr × Obj)} (_ : News g₀ L₀ hh news) (_ : (f, fo) ∈ news) (ho : fo.data = .func (fnX (Str.ofString "inner") qual params body scope cl .none .none doc pm none (.ref cc) ct))
    (hcd : oc.data = .fields vs0) (hcv : vs0[1]? = some (.str qual t)) (_ : o1.data = .cell (some (.ref D))) (_ : o2.data = .cell (some (.ref f))) (_ : o3.data = .cell (some (.int n tn))) (_ : (c1, o1) ∈ news) (_ : (c2, o2) ∈ news) (_ : (c3, o3) ∈ news)
    (hbind : ∀ s a b c, BindsTo s (fnX (Str.ofString "inner") qual params body scope cl .none .none doc pm none (.ref cc) ct) ⟨[a, b, c], []⟩ [(Str.ofString "x", a), (Str.ofString "L", b), (Str.ofString "R", c)])
    (hloc : ∀ y ∈ [Str.ofString "x", Str.ofString "L", Str.ofString "R"], scope.names.lookup y = some .local)
    (hco : scope.isCoroutine = false) (hgen : scope.isGenerator = false) (hk : scope.kind = .function) (hcell : ∀ x ∈ scope.names, x.2 ≠ .cell)
    (step : ∀ k : Nat, k < 4 → (∀ (x lo hi : Int) (tx tl th : Tok) (us : List Value) (ns : List Int) (c0 : Nat), hi - lo ≤ k → 0 ≤ lo → lo < hi → hi ≤ ns.length → ns.length ≤ 4 → 0 ≤ x → x < 128 → IntsAre us ns →
          Con (440 - k) w f [.int x tx, .int lo tl, .int hi th] (ledI D us c0 [(c1, o1), (c2, o2), (c3, o3), (f, fo), (cc, oc)]) (fun _ => True)
            (fun v nl => v = .none ∧ ∃ us', nl = ledI D us' c0 [(c1, o1), (c2, o2), (c3, o3), (f, fo), (cc, oc)] ∧ IntsAre us' (fillP n k x lo hi ns))) →
        ∀ (x lo hi : Int) (tx tl th : Tok) (us : List Value) (ns : List Int) (c0 : Nat), hi - lo ≤ (k : Int) + 1 → 0 ≤ lo → lo < hi → hi ≤ ns.length → ns.length ≤ 4 → 0 ≤ x → x < 128 → IntsAre us ns →
        ∀ (outer : List Env) (g : Heap) (L' : Addr) (h₁ : Heap) (gn : Array GenState) (dr : Drawn) (tk : Nat) (os : OsState) (Q : Flow → Shared → Prop) (E : Value → Shared → Prop), Gr w g outer → Fr g L' h₁ (fun y => [(Str.ofString "x", Value.int x tx), (Str.ofString "L", Value.int lo tl), (Str.ofString "R", Value.int hi th)].reverse.lookup y) →
          News g L' h₁ (ledI D us c0 [(c1, o1), (c2, o2), (c3, o3), (f, fo), (cc, oc)]) →
          (∀ fl nl h' tk' m' us', valOf fl = .none → nl = ledI D us' c0 [(c1, o1), (c2, o2), (c3, o3), (f, fo), (cc, oc)] → IntsAre us' (fillP n (k + 1) x lo hi ns) → Fr g L' h' m' → News g L' h' nl → Q fl ⟨h', gn, dr, tk', os⟩) →
          wpAny (model PP w) (Ar (440 - k) (envX qual scope L' f (.ref cc) cl) outer)
            (execs body (envX qual scope L' f (.ref cc) cl)) Q E ⟨h₁, gn, dr, tk, os⟩) :
    ∀ (k : Nat) (x lo hi : Int) (tx tl th : Tok) (us : List Value) (ns : List Int) (c0 : Nat), k ≤ 4 → hi - lo ≤ k → 0 ≤ lo → lo < hi → hi ≤ ns.length → ns.length ≤ 4 → 0 ≤ x → x < 128 → IntsAre us ns →
      Con (440 - k) w f [.int x tx, .int lo tl, .int hi th] (ledI D us c0 [(c1, o1), (c2, o2), (c3, o3), (f, fo), (cc, oc)]) (fun _ => True)
        (fun v nl => v = .none ∧ ∃ us', nl = ledI D us' c0 [(c1, o1), (c2, o2), (c3, o3), (f, fo), (cc, oc)] ∧ IntsAre us' (fillP n k x lo hi ns)) := by
  intro k
  induction k with
  | zero => intro x lo hi tx tl th us ns c0 _ h1 h2 h3; exact absurd h3 (noGap h1)
  | succ k ih =>
    intro x lo hi tx tl th us ns c0 hk4 h1 h2 h3 h4 h5 h6 h7 hi0
    refine conF (f := f) (List.mem_cons_of_mem _ (List.mem_cons_of_mem _ (List.mem_cons_of_mem _ (List.mem_cons_of_mem _ List.mem_cons_self)))) ho (List.mem_cons_of_mem _ (List.mem_cons_of_mem _ (List.mem_cons_of_mem _ (List.mem_cons_of_mem _ (List.mem_cons_of_mem _ List.mem_cons_self))))) hcd hcv (Nat.lt_of_le_of_lt (Nat.sub_le 440 (k + 1)) (by decide)) (fun s => hbind s _ _ _)
      (fun y hy => hloc y.1 (by rcases List.mem_cons.mp hy with rfl | hy; · simp
                                rcases List.mem_cons.mp hy with rfl | hy; · simp
                                rcases List.mem_cons.mp hy with rfl | hy; · simp
                                cases hy)) (pre' := fun _ => True) (fun _ _ _ _ => trivial) ?_ hco hgen hk hcell
    intro outer h₀ L h₁ gn dr tk os Q E G _ F N l0 hE hQ
    have e : 440 - (k + 1) + 1 = 440 - k := dep hk4 (by decide)
    rw [e]
    exact step k hk4 (fun x lo hi tx tl th us ns c0 => ih x lo hi tx tl th us ns c0 (Nat.le_of_succ_le hk4)) x lo hi tx tl th us ns c0 h1 h2 h3 h4 h5 h6 h7 hi0 outer h₀ L h₁ gn dr tk os Q E G F N fun fl nl h' tk' m' us' hv hn hi' F' N' => hQ fl nl h' tk' m' ⟨hv, us', hn, hi'⟩ F' N'
end
end
section
open PySem PySem.W PyProof.Rows PySem.Spec
theorem fold_rep (v : Value) : ∀ (k : Nat) (acc : Array Value), List.foldl (fun x1 x2 => x1 ++ x2) acc (List.replicate k #[v]) = acc ++ (List.replicate k v).toArray
  | 0, acc => by simp
  | k + 1, acc => by
    rw [List.replicate_succ, List.foldl_cons, fold_rep v k, List.replicate_succ]
    apply Array.ext'
    simp
theorem ints_rep (z : Int) (t : Tok) : ∀ k : Nat, IntsAre (List.replicate k (.int z t)) (List.replicate k z)
  | 0 => .nil
  | k + 1 => .cons z t (ints_rep z t k)
section
variable {prog : Program} {w : World} {A : Around} {E : Value → Shared → Prop} {s : Shared} {h₀ : Heap} {L l : Addr} {m : Str → Option Value} {news : List (Addr × Obj)} {z x : Int} {k : Nat} {t u : Tok} {Q : Value → Shared → Prop}
theorem mulZ (F : Fr h₀ L s.heap m) (N : News h₀ L s.heap news) (hm : (l, ({ cls := .type "list", data := .seq #[.int z t] k } : Obj)) ∈ news) (hx : 0 ≤ x ∧ x ≤ 4)
    (h : ∀ D us c h', Fr h₀ L h' m → News h₀ L h' ((D, PySem.W.listOf (List.toArray us) c) :: news) → (∀ q ∈ news, q.1 < D) → IntsAre us (List.replicate x.toNat z) → Q (.ref D) { s with heap := h' }) :
    wpAny (model prog w) A (binaryOp .Mult (.ref l) (.int x u)) Q E s := by
  refine PyProof.Rows.mul_list F N (N _ hm).1 (Int.le_trans (by decide) hx.1) (Int.lt_of_le_of_lt hx.2 (by decide)) (by show 1 * x.toNat ≤ 2 ^ 24; rw [Nat.one_mul]; exact Int.toNat_le.mpr (Int.le_trans hx.2 (by decide))) fun h' F' N' => ?_
  have e : List.foldl (fun x1 x2 => x1 ++ x2) #[] (List.replicate (if (#[Value.int z t] : Array Value).isEmpty = true then 0 else x.toNat) #[Value.int z t]) = (List.replicate x.toNat (Value.int z t)).toArray := by
    rw [if_neg (show ¬ (#[Value.int z t] : Array Value).isEmpty = true from by simp), fold_rep]; simp
  rw [e] at N'
  exact h _ _ _ h' F' N' (fun q hq => Heap.lt_size (N q hq).1) (ints_rep z t _)
end
theorem shB (n lo hi : Int) (h : lo + 1 < hi) (h4 : hi ≤ lo + 4) (hn : n = 1 ∨ n = 4) : 0 ≤ ((lo + hi).fdiv (2 ^ Int.toNat 1) - lo) * n ∧ ((lo + hi).fdiv (2 ^ Int.toNat 1) - lo) * n < 9 := by
  have := midB lo hi h h4
  have a := Int.sub_nonneg_of_le (Int.le_of_lt this.1)
  have b := Int.sub_left_le_of_le_add this.2.2
  rcases hn with rfl | rfl
  · exact ⟨Int.mul_nonneg a (by decide), Int.lt_of_le_of_lt (Int.mul_le_mul_of_nonneg_right b (by decide)) (by decide)⟩
  · exact ⟨Int.mul_nonneg a (by decide), Int.lt_of_le_of_lt (Int.mul_le_mul_of_nonneg_right b (by decide)) (by decide)⟩
theorem rem_none (led : List (Addr × Obj)) : ∀ news : List (Addr × Obj), Rem led news []
  | [] => .nil
  | _ :: r => .skip (rem_none led r)
theorem lenI {prog : Program} {w : World} {A : Around} {E : Value → Shared → Prop} {s : Shared} {h₀ : Heap} {L l : Addr} {news : List (Addr × Obj)} {us : List Value} {ns : List Int} {k : Nat} {Q : Value → Shared → Prop}
    (z : Int) (N : News h₀ L s.heap news) (hm : (l, ({ cls := .type "list", data := .seq (List.toArray us) k } : Obj)) ∈ news) (hi : IntsAre us ns) (hz : (ns.length : Int) = z) (h8 : z ≤ 64) (h : ∀ t' k, Q (.int z t') { s with toks := k }) : wpAny (model prog w) A (call (.builtin "len") [.ref l]) Q E s := by
  have e : us.toArray.size = ns.length := by simp [hi.length]
  subst hz
  refine PyProof.Rows.len_list (items := us.toArray) ⟨_, (N _ hm).1, rfl, _, rfl⟩ (by rw [e]; omega) ?_
  rw [e]
  exact h _ _
theorem lenB (x n : Int) (h0 : 0 ≤ x) (h1 : x < 128) (hn : n = 1 ∨ n = 4) (hn1 : n = 1 → x < 16) : 0 ≤ ((Builtin.Int.intBits x : Int) + n - 1).fdiv n ∧ ((Builtin.Int.intBits x : Int) + n - 1).fdiv n ≤ 4 ∧ (x ≠ 0 → 1 ≤ ((Builtin.Int.intBits x : Int) + n - 1).fdiv n) ∧ (x = 0 → ((Builtin.Int.intBits x : Int) + n - 1).fdiv n = 0) := by
  rcases hn with rfl | rfl
  · exact fin_int (P := fun x => 0 ≤ ((Builtin.Int.intBits x : Int) + 1 - 1).fdiv 1 ∧ ((Builtin.Int.intBits x : Int) + 1 - 1).fdiv 1 ≤ 4 ∧ (x ≠ 0 → 1 ≤ ((Builtin.Int.intBits x : Int) + 1 - 1).fdiv 1) ∧ (x = 0 → ((Builtin.Int.intBits x : Int) + 1 - 1).fdiv 1 = 0)) 16 (by decide +kernel) x h0 (hn1 rfl)
  · exact fin_int (P := fun x => 0 ≤ ((Builtin.Int.intBits x : Int) + 4 - 1).fdiv 4 ∧ ((Builtin.Int.intBits x : Int) + 4 - 1).fdiv 4 ≤ 4 ∧ (x ≠ 0 → 1 ≤ ((Builtin.Int.intBits x : Int) + 4 - 1).fdiv 4) ∧ (x = 0 → ((Builtin.Int.intBits x : Int) + 4 - 1).fdiv 4 = 0)) 128 (by decide +kernel) x h0 h1
theorem mA {lo mid hi : Int} {k : Nat} (e : hi - lo ≤ (k : Int) + 1) (h : mid < hi) : mid - lo ≤ (k : Int) := by omega
theorem mC {lo mid hi : Int} {k : Nat} (e : hi - lo ≤ (k : Int) + 1) (h : lo < mid) : hi - mid ≤ (k : Int) := by omega
theorem mD {lo mid : Int} (e : 0 ≤ lo) (h : lo < mid) : 0 ≤ mid := Int.le_trans e (Int.le_of_lt h)
theorem mE {mid hi l : Int} (h : mid < hi) (e : hi ≤ l) : mid ≤ l := Int.le_trans (Int.le_of_lt h) e
theorem sB1 {lo hi : Int} (h : lo < hi) (g : lo + 1 ≠ hi) : lo + 1 < hi := by omega
theorem sB2 {lo hi : Int} {k : Nat} (h : k < 4) (e : hi - lo ≤ (k : Int) + 1) : hi ≤ lo + 4 := by omega
theorem lt3 {l d : Nat} (h : l + 1 + 1 + 1 < d) : l < d := Nat.lt_of_succ_lt (Nat.lt_of_succ_lt (Nat.lt_of_succ_lt h))
theorem lsL {a : Int} (h : a < 9) : a ≤ 1000 := by omega
theorem lsX {a : Int} (h : 0 ≤ a ∧ a < 128) : 0 ≤ a ∧ a < 1000000 := ⟨h.1, Int.lt_trans h.2 (by decide)⟩
theorem sB4 {lo hi : Int} {k : Nat} (h : k < 2) (e : hi - lo ≤ (k : Int) + 1) : hi ≤ lo + 4 := by omega
end
section
open PySem PySem.W PyProof.Rows PySem.Spec
noncomputable def Apart1 (led : List (Addr × Obj)) (l : Addr) (us : List Value) (h : Heap) : Prop := h.IsList l us.toArray ∧ ∀ p ∈ led, p.1 ≠ l
theorem lift_but {led : List (Addr × Obj)} {l : Addr} {us : List Value} {h g : Heap} (x : Apart1 led l us h) (k : KeepsBut led h g) : g.IsList l us.toArray := let ⟨⟨o, e, r⟩, n⟩ := x; ⟨o, k _ _ e n, r⟩
section
variable {w : World} {q c1 c2 c3 f cc : Addr} {o1 o2 o3 fo oc : Obj} {vs0 : Array Value} {t tn : Tok} {doc pm ct : Value} {params : Arguments} {body : List Stmt} {scope : Scope} {qual : Str} {cl : List (Str × Addr)} {us : List Value} {ns : List Int}
theorem inner_indD {g₀ hh : Heap} {L₀ : Addr} {news : List (Addr × Obj)} (_ : News g₀ L₀ hh news) (_ : (f, fo) ∈ news) (ho : fo.data = .func (fnX (Str.ofString "inner") qual params body scope cl .none .none doc pm none (.ref cc) ct))
    (hcd : oc.data = .fields vs0) (hcv : vs0[1]? = some (.str qual t)) (_ : o1.data = .cell (some (.ref q))) (_ : o2.data = .cell (some (.ref f))) (_ : o3.data = .cell (some (.int 4 tn))) (_ : (c1, o1) ∈ news) (_ : (c2, o2) ∈ news) (_ : (c3, o3) ∈ news)
    (hap : ∀ p ∈ [(c1, o1), (c2, o2), (c3, o3), (f, fo), (cc, oc)], p.1 ≠ q)
    (hbind : ∀ s a b, BindsTo s (fnX (Str.ofString "inner") qual params body scope cl .none .none doc pm none (.ref cc) ct) ⟨[a, b], []⟩ [(Str.ofString "L", a), (Str.ofString "R", b)])
    (hloc : ∀ y ∈ [Str.ofString "L", Str.ofString "R"], scope.names.lookup y = some .local)
    (hco : scope.isCoroutine = false) (hgen : scope.isGenerator = false) (hk : scope.kind = .function) (hcell : ∀ x ∈ scope.names, x.2 ≠ .cell)
    (step : ∀ k : Nat, k < 2 → (∀ (lo hi : Int) (tl th : Tok), hi - lo ≤ k → 0 ≤ lo → lo < hi → hi ≤ ns.length →
          Con (440 - k) w f [.int lo tl, .int hi th] [(c1, o1), (c2, o2), (c3, o3), (f, fo), (cc, oc)] (fun h => h.IsList q us.toArray)
            (fun v nl => nl = [(c1, o1), (c2, o2), (c3, o3), (f, fo), (cc, oc)] ∧ ∃ z t, v = .int z t ∧ 0 ≤ z ∧ z < 16 ^ k)) →
        ∀ (lo hi : Int) (tl th : Tok), hi - lo ≤ (k : Int) + 1 → 0 ≤ lo → lo < hi → hi ≤ ns.length →
        ∀ (outer : List Env) (g : Heap) (L' : Addr) (h₁ : Heap) (gn : Array GenState) (dr : Drawn) (tk : Nat) (os : OsState) (Q : Flow → Shared → Prop) (E : Value → Shared → Prop), Gr w g outer → g.IsList q us.toArray → Fr g L' h₁ (fun y => [(Str.ofString "L", Value.int lo tl), (Str.ofString "R", Value.int hi th)].reverse.lookup y) →
          News g L' h₁ [(c1, o1), (c2, o2), (c3, o3), (f, fo), (cc, oc)] →
          (∀ z t h' tk' m', 0 ≤ z → z < 16 ^ (k + 1) → Fr g L' h' m' → News g L' h' [(c1, o1), (c2, o2), (c3, o3), (f, fo), (cc, oc)] → Q (.ret (.int z t)) ⟨h', gn, dr, tk', os⟩) →
          wpAny (model PP w) (Ar (440 - k) (envX qual scope L' f (.ref cc) cl) outer)
            (execs body (envX qual scope L' f (.ref cc) cl)) Q E ⟨h₁, gn, dr, tk, os⟩) :
    ∀ (k : Nat) (lo hi : Int) (tl th : Tok), k ≤ 2 → hi - lo ≤ k → 0 ≤ lo → lo < hi → hi ≤ ns.length →
      Con (440 - k) w f [.int lo tl, .int hi th] [(c1, o1), (c2, o2), (c3, o3), (f, fo), (cc, oc)] (fun h => h.IsList q us.toArray)
        (fun v nl => nl = [(c1, o1), (c2, o2), (c3, o3), (f, fo), (cc, oc)] ∧ ∃ z t, v = .int z t ∧ 0 ≤ z ∧ z < 16 ^ k) := by
  intro k
  induction k with
  | zero => intro lo hi tl th _ h1 h2 h3; exact absurd h3 (noGap h1)
  | succ k ih =>
    intro lo hi tl th hk4 h1 h2 h3 h4
    refine conF (f := f) (List.mem_cons_of_mem _ (List.mem_cons_of_mem _ (List.mem_cons_of_mem _ List.mem_cons_self))) ho (List.mem_cons_of_mem _ (List.mem_cons_of_mem _ (List.mem_cons_of_mem _ (List.mem_cons_of_mem _ List.mem_cons_self)))) hcd hcv (Nat.lt_of_le_of_lt (Nat.sub_le 440 (k + 1)) (by decide)) (fun s => hbind s _ _)
      (fun y hy => hloc y.1 (by rcases List.mem_cons.mp hy with rfl | hy; · simp
                                rcases List.mem_cons.mp hy with rfl | hy; · simp
                                cases hy)) (pre' := fun h => h.IsList q us.toArray) (fun hp g x kb => lift_but ⟨x, hap⟩ kb) ?_ hco hgen hk hcell
    intro outer h₀ L h₁ gn dr tk os Q E G hl F N l0 hE hQ
    have e : 440 - (k + 1) + 1 = 440 - k := dep hk4 (by decide)
    rw [e]
    exact step k hk4 (fun lo hi tl th => ih lo hi tl th (Nat.le_of_succ_le hk4)) lo hi tl th h1 h2 h3 h4 outer h₀ L h₁ gn dr tk os Q E G hl F N fun z t h' tk' m' hz0 hz1 F' N' => hQ _ _ h' tk' m' ⟨rfl, z, t, rfl, hz0, hz1⟩ F' N'
end
theorem ne_of_base {g h : Heap} {L l : Addr} {its : Array Value} {news led : List (Addr × Obj)} (hl : g.IsList l its) (N : News g L h news) (hs : ∀ p ∈ led, p ∈ news) : ∀ p ∈ led, p.1 ≠ l := fun p hp e => by
  obtain ⟨o, ho, _⟩ := hl
  have := (N p (hs p hp)).2.2
  rw [e, ho] at this
  cases this
theorem p16 {k : Nat} (h : k < 2) : (16 : Int) ^ k ≤ 16 ∧ 16 ≤ (16 : Int) ^ (k + 1) := by
  rcases k with _ | _ | k
  · decide
  · decide
  · omega
theorem endB {k : Nat} {lo hi z1 z2 : Int} (hk : k < 2) (h : hi - lo ≤ (k : Int) + 1) (h2 : lo < hi) (h3 : lo + 1 ≠ hi) (a0 : 0 ≤ z1) (a1 : z1 < 16 ^ k) (b0 : 0 ≤ z2) (b1 : z2 < 16 ^ k) : 0 ≤ z1 * 2 ^ (((lo + hi).fdiv (2 ^ Int.toNat 1) - lo) * 4).toNat + z2 ∧ z1 * 2 ^ (((lo + hi).fdiv (2 ^ Int.toNat 1) - lo) * 4).toNat + z2 < 16 ^ (k + 1) := by
  have g := sB1 h2 h3
  obtain rfl : k = 1 := by
    rcases k with _ | _ | k
    · exact absurd (Int.le_add_of_sub_left_le h) (Int.not_le.mpr g)
    · rfl
    · exact absurd hk (Nat.not_lt.mpr (Nat.le_add_left 2 k))
  have g2 : lo + 1 + 1 ≤ hi := Int.add_one_le_of_lt g
  rw [Int.add_assoc] at g2
  obtain rfl : hi = lo + 2 := Int.le_antisymm (Int.le_add_of_sub_left_le h) g2
  have e : (lo + (lo + 2)).fdiv (2 ^ Int.toNat 1) = lo + 1 := by
    rw [show lo + (lo + 2) = (lo + 1) * 2 from ((mu2 _).trans ((Int.add_assoc lo 1 (lo + 1)).trans (congrArg (lo + ·) (Int.add_left_comm 1 lo 1)))).symm]
    exact Int.mul_fdiv_cancel _ (by decide)
  rw [e, Int.add_comm lo 1, Int.add_sub_cancel]
  refine ⟨Int.add_nonneg (Int.mul_nonneg a0 (by decide)) b0, Int.lt_of_lt_of_le (Int.add_lt_add_left b1 _) ?_⟩
  have := Int.mul_le_mul_of_nonneg_right (c := 16) (Int.add_one_le_of_lt a1) (by decide)
  rw [Int.add_mul] at this
  exact this
theorem truL {prog : Program} {w : World} {A : Around} {E : Value → Shared → Prop} {s : Shared} {g : Heap} {L l : Addr} {m : Str → Option Value} {us : List Value} {ns : List Int} {Q : Bool → Shared → Prop}
    (F : Fr g L s.heap m) (hl : g.IsList l us.toArray) (hi : IntsAre us ns) (h8 : ns.length ≤ 64) (h : ∀ k, Q (decide (0 < ns.length)) { s with toks := k }) : wpAny (model prog w) A (PySem.truthy (.ref l)) Q E s := by
  have e := hi.length
  refine PySem.wpAny_truthy_list (lift_list hl F.keep) (by rw [List.size_toArray, e]; first | exact Nat.lt_of_le_of_lt h8 (by decide) | omega) ?_
  have e2 : (!us.toArray.isEmpty) = decide (0 < ns.length) := by
    rw [← e]
    cases us <;> simp
  rw [e2]; exact h _
theorem lenL {prog : Program} {w : World} {A : Around} {E : Value → Shared → Prop} {s : Shared} {g : Heap} {L l : Addr} {m : Str → Option Value} {us : List Value} {ns : List Int} {Q : Value → Shared → Prop}
    (F : Fr g L s.heap m) (hl : g.IsList l us.toArray) (hi : IntsAre us ns) (h8 : ns.length ≤ 64) (h : ∀ t' k, Q (.int (ns.length : Int) t') { s with toks := k }) : wpAny (model prog w) A (call (.builtin "len") [.ref l]) Q E s := by
  have e : us.toArray.size = ns.length := by simp [hi.length]
  refine PyProof.Rows.len_list (items := us.toArray) (lift_list hl F.keep) (by rw [e]; first | exact Nat.lt_of_le_of_lt h8 (by decide) | exact Nat.le_trans h8 (by decide) | omega) ?_
  rw [e]
  exact h _ _
end
section
open PySem PySem.W PyProof.Rows PySem.Spec
section
variable {prog : Program} {w : World} {A : Around} {E : Value → Shared → Prop} {s : Shared} {env : Env} {h₀ : Heap}
inductive ForJ (prog : Program) (w : World) (A : Around) (h₀ : Heap) (env : Env) (target : Expr) (body : List Stmt) (Q : Flow → Shared → Prop) (E : Value → Shared → Prop) (s₁ : Shared) (ax : Addr) (vs : List Value) (m : Str → Option Value) (news : List (Addr × Obj)) (I : Addr) : Prop
  | mk : ∀ J : List Value → (Str → Option Value) → List (Addr × Obj) → Prop, J vs m news →
      (∀ m' news' h tk, J [] m' news' → Fr h₀ env.locals h m' → News h₀ env.locals h news' → Q .next { s₁ with heap := h, toks := tk }) →
      (∀ v r m' news' it h tk, J (v :: r) m' news' → it.cls = .type "list_iterator" → Fr h₀ env.locals h m' → News h₀ env.locals h ((I, it) :: news') → LCg.Off1 I news' →
        wpAny (model prog w) A (assign target env v) (fun _ s₂ => wpAny (model prog w) A (execs body env) (UnrPost h₀ env.locals { s₁ with heap := h, toks := tk } I it (fun m'' n'' => LCg.SrcAt h₀ ax (List.toArray vs) n'' ∧ J r m'' n'') Q) E s₂) E { s₁ with heap := h, toks := tk }) →
      ForJ prog w A h₀ env target body Q E s₁ ax vs m news I
inductive ForSrc (prog : Program) (w : World) (A : Around) (h₀ : Heap) (env : Env) (target : Expr) (body : List Stmt) (Q : Flow → Shared → Prop) (E : Value → Shared → Prop) : Value → Shared → Prop
  | mk : ∀ s₁ ax vs m news, A.handled = none → Fr h₀ env.locals s₁.heap m → News h₀ env.locals s₁.heap news → LCg.SrcAt h₀ ax (List.toArray vs) news →
    (∀ I : Addr, (∀ p ∈ news, p.1 < I) → ForJ prog w A h₀ env target body Q E s₁ ax vs m news I) → ForSrc prog w A h₀ env target body Q E (.ref ax) s₁
inductive StF (s₁ : Shared) (h₀ : Heap) (L ax I : Addr) (vs : List Value) (J : List Value → (Str → Option Value) → List (Addr × Obj) → Prop) : Nat → Shared → Prop
  | mk : ∀ h' tk i m' news', i ≤ vs.length → h'.IsListIter I ax i ∧ h'.IsList ax vs.toArray → Fr h₀ L h' m' → News h₀ L h' news' → (∀ p ∈ news', p.1 ≠ I) → LCg.SrcAt h₀ ax vs.toArray news' → J (vs.drop i) m' news' → StF s₁ h₀ L ax I vs J (vs.length + 1 - i) { s₁ with heap := h', toks := tk }
theorem stepLt {i n : Nat} (h : i < n) : n + 1 - (i + 1) < n + 1 - i := Nat.sub_lt_sub_left (Nat.lt_succ_of_lt h) (Nat.lt_succ_self i)
theorem drop_at {vs : List Value} {i : Nat} {v : Value} (h : i < vs.length) (hv : vs[i]? = some v) : vs.drop i = v :: vs.drop (i + 1) := by
  rw [List.drop_eq_getElem_cons h]
  congr 1
  exact Option.some.inj ((List.getElem?_eq_getElem h).symm.trans hv)
theorem StF.next {s₁ s₄ : Shared} {h₀ : Heap} {L ax I : Addr} {vs : List Value} {J : List Value → (Str → Option Value) → List (Addr × Obj) → Prop} {h₂ : Heap} {tk₂ i : Nat} {it : Obj} (hlt : i < vs.length) (hic : it.cls = .type "list_iterator") (hid : h₂.IsListIter I ax (i + 1)) (hit : h₂.get? I = some it)
    (e : UnrEnd h₀ L { s₁ with heap := h₂, toks := tk₂ } I it (fun m'' n'' => LCg.SrcAt h₀ ax vs.toArray n'' ∧ J (vs.drop (i + 1)) m'' n'') s₄) : ∃ k, k < vs.length + 1 - i ∧ StF s₁ h₀ L ax I vs J k s₄ := by
  obtain ⟨h₅, tk₅, m₅, n₅, rfl, F₅, N₅, off₅, S₅, J₅⟩ := e
  have z := (N₅ (I, it) List.mem_cons_self).1
  obtain ⟨it', hit', hic', hid'⟩ := hid
  rw [hit] at hit'
  cases hit'
  have N₆ : News h₀ L h₅ n₅ := fun p hp => N₅ p (List.mem_cons_of_mem _ hp)
  exact ⟨_, stepLt hlt, .mk h₅ tk₅ (i + 1) m₅ n₅ hlt ⟨⟨it, z, hic', hid'⟩, S₅.list F₅.keep N₆⟩ F₅ N₆ off₅ S₅ J₅⟩
theorem for_own {target iter : Expr} {pos : Pos} {body : List Stmt} {Q : Flow → Shared → Prop}
    (h : wpAny (model prog w) A (eval iter env) (ForSrc prog w A h₀ env target body Q E) E s)
    (hs : ∀ x, foldedSetIterable iter env x = pure x) (ht : ∀ I v, letOwnedTupleGo target (.ref I) v = pure ())
    (hE : PassesOwn (model prog w) A env E) :
    wpAny (model prog w) A (exec (.For target iter body [] pos) env) Q E s := by
  refine wpAny_For (wpAny_mono h (fun xv s₁ h₁ => ?_) fun _ _ e => e) hs
  obtain ⟨s₁, ax, vs, m, news, hh, F, N, S, rest⟩ := h₁
  have hl := S.list F.keep N
  have hlt : ax < s₁.heap.objs.size := hl.elim fun _ e => Heap.lt_size e.1
  have hne : ax ≠ s₁.heap.objs.size := Nat.ne_of_lt hlt
  refine wpAny_pyIter_list hl ?_
  have hI₀ := next_is_new F
  have hIL : env.locals ≠ s₁.heap.objs.size := Nat.ne_of_lt F.ns.lt
  obtain ⟨J, h0, hz, hsu⟩ := rest s₁.heap.objs.size fun p hp => Heap.lt_size (N p hp).1
  have W := Walks.list (prog := prog) (w := w) hh s₁.heap.objs.size ax hne vs.toArray
  have hsz : vs.toArray.size = vs.length := by simp
  rw [hsz] at W
  have up : ∀ b o, s₁.heap.get? b = some o → (s₁.heap.push { cls := .type "list_iterator", data := .fields #[.ref ax, .int 0 0] }).get? b = some o := fun b o e => Heap.get?_push_of_some _ e
  refine codeAny_forLoop_any (StF s₁ h₀ env.locals ax s₁.heap.objs.size vs J) ?_ (vs.length + 1)
    (.mk _ s₁.toks 0 m news (Nat.zero_le _) ⟨⟨_, Heap.get?_push_size _ rfl, rfl, rfl⟩, hl.push _⟩ (F.keeps up) (N.grown up) (fun p hp => Nat.ne_of_lt (Heap.lt_size (N p hp).1)) S (by rw [List.drop_zero]; exact h0))
  rintro _ _ ⟨h', tk, i, m', news', hi, hst, F', N', off', S', hJ⟩
  by_cases hlt' : i < vs.length
  · refine W.item i _ _ _ hlt' hst fun v h₂ tk₂ hPv hst₂ hk₂ => ?_
    have F₂ := LCg.fr_but F' hk₂ hIL hI₀
    have N₂ := LCg.news_but N' hk₂ off'
    rw [drop_at hlt' (by simpa using hPv)] at hJ
    refine hst₂.1.elim fun it hq => ?_
    have N₃ : News h₀ env.locals h₂ ((s₁.heap.objs.size, it) :: news') := fun p hp => (List.mem_cons.mp hp).elim (fun e => e ▸ ⟨hq.1, Ne.symm hIL, hI₀⟩) (N₂ p)
    dsimp only
    rw [ht]
    refine wpAny_pure ?_
    refine wpAny_passesOwn hE (wpAny_mono (hsu v _ m' news' it h₂ tk₂ hJ hq.2.1 F₂ N₃ (off1_of off')) (fun _ s₃ h₃ => wpAny_passesOwn hE (wpAny_mono h₃ (fun f s₄ h₄ => ?_) fun _ _ e => e)) fun _ _ e => e)
    cases f with
    | ret v => exact h₄
    | brk => exact h₄
    | next => exact StF.next hlt' hq.2.1 hst₂.1 hq.1 h₄
    | cont => exact StF.next hlt' hq.2.1 hst₂.1 hq.1 h₄
  · obtain rfl : i = vs.length := Nat.le_antisymm hi (Nat.not_lt.mp hlt')
    refine W.done _ _ _ hst fun h₂ tk₂ hk₂ => wpAny_execs_nil ?_
    rw [List.drop_length] at hJ
    exact hz m' news' h₂ tk₂ hJ (LCg.fr_but F' hk₂ hIL hI₀) (LCg.news_but N' hk₂ off')
end
end
section
open PySem PySem.W PyProof.Rows PySem.Spec
section
variable {prog : Program} {w : World} {A : Around} {E : Value → Shared → Prop} {s : Shared} {env : Env} {h₀ : Heap} {x : Str} {body : List Stmt} {Q : Flow → Shared → Prop} {I : Addr} {lp : Addr × Obj}
theorem post_mono {L : Addr} {s₁ s₂ : Shared} {it : Obj} {P R : (Str → Option Value) → List (Addr × Obj) → Prop} {f : Flow} (h : ∀ m n, P m n → R m n) (p : UnrPost h₀ L s₁ I it P Q f s₂) : UnrPost h₀ L s₁ I it R Q f s₂ := by
  have go : UnrEnd h₀ L s₁ I it P s₂ → UnrEnd h₀ L s₁ I it R s₂ := by
    rintro ⟨h', tk', m', n', e, F', N', o, r⟩
    exact ⟨h', tk', m', n', e, F', N', o, h _ _ r⟩
  cases f with
  | ret v => exact p
  | brk => exact p
  | next => exact go p
  | cont => exact go p
theorem ListRest.by (J : List Value → (Str → Option Value) → List (Addr × Obj) → Prop)
    (h0 : ∀ m news h tk, J [] m news → Fr h₀ env.locals h m → News h₀ env.locals h news → Q .next { s with heap := h, toks := tk })
    (hs : ∀ v r m news (it : Obj) h tk, J (v :: r) m news → it.cls = .type "list_iterator" → Fr h₀ env.locals h (fun y => if y = x then some v else m y) → News h₀ env.locals h ((I, it) :: news) →
      wpAny (model prog w) A (execs body env) (UnrPost h₀ env.locals { s with heap := h, toks := tk } I it (fun m' n' => lp ∈ n' ∧ J r m' n') Q) E { s with heap := h, toks := tk }) :
    ∀ vs m news, J vs m news → ListRest prog w A E h₀ env x body Q s I lp vs m news := by
  intro vs
  induction vs with
  | nil => exact fun m news j h tk F N => h0 m news h tk j F N
  | cons v r ih => exact fun m news j it h tk hc F N => wpAny_mono (hs v r m news it h tk j hc F N) (fun f s₂ p => post_mono (fun m n q => ⟨q.1, ih m n q.2⟩) p) fun _ _ e => e
theorem RevRest.by (J : List Value → (Str → Option Value) → List (Addr × Obj) → Prop)
    (h0 : ∀ m news h tk, J [] m news → Fr h₀ env.locals h m → News h₀ env.locals h news → Q .next { s with heap := h, toks := tk })
    (hs : ∀ v r m news (it : Obj) h tk, J (v :: r) m news → it.cls = .type "list_reverseiterator" → Fr h₀ env.locals h (fun y => if y = x then some v else m y) → News h₀ env.locals h ((I, it) :: news) →
      wpAny (model prog w) A (execs body env) (UnrPost h₀ env.locals { s with heap := h, toks := tk } I it (fun m' n' => lp ∈ n' ∧ J r m' n') Q) E { s with heap := h, toks := tk }) :
    ∀ vs m news, J vs m news → RevRest prog w A E h₀ env x body Q s I lp vs m news := by
  intro vs
  induction vs with
  | nil => exact fun m news j h tk F N => h0 m news h tk j F N
  | cons v r ih => exact fun m news j it h tk hc F N => wpAny_mono (hs v r m news it h tk j hc F N) (fun f s₂ p => post_mono (fun m n q => ⟨q.1, ih m n q.2⟩) p) fun _ _ e => e
theorem RangeRest.by {a : Int} {n : Nat} (J : Nat → (Str → Option Value) → List (Addr × Obj) → Prop)
    (h0 : ∀ m news h tk, J n m news → Fr h₀ env.locals h m → News h₀ env.locals h news → Q .next { s with heap := h, toks := tk })
    (hs : ∀ i m news t h tk, i < n → J i m news → Fr h₀ env.locals h (fun y => if y = x then some (.int (a + (i : Int)) t) else m y) → News h₀ env.locals h ((I, itR (a + ((i + 1 : Nat) : Int)) ((n : Int) - ((i + 1 : Nat) : Int))) :: news) →
      wpAny (model prog w) A (execs body env) (UnrPost h₀ env.locals { s with heap := h, toks := tk } I (itR (a + ((i + 1 : Nat) : Int)) ((n : Int) - ((i + 1 : Nat) : Int))) (J (i + 1)) Q) E { s with heap := h, toks := tk }) :
    ∀ k i m news, i + k = n → J i m news → RangeRest prog w A E h₀ env x body Q s I a n k i m news := by
  intro k
  induction k with
  | zero => exact fun i m news e j h tk F N => h0 m news h tk (by have : i = n := by omega
                                                                  rw [← this]; exact j) F N
  | succ k ih => exact fun i m news e j t h tk F N => wpAny_mono (hs i m news t h tk (by omega) j F N) (fun f s₂ p => post_mono (fun m n q => ih (i + 1) m n (by omega) q) p) fun _ _ e => e
end
theorem line8 {ws : List Value} (h : ws.length ≤ 8) : ws.toArray.size ≤ sizeLine := by rw [PySem.sizeLine_eq, List.size_toArray]; omega
theorem lpush (l' : Addr) (ws : List Value) (v : Value) (n : Nat) : (l', PySem.W.listOf (ws.toArray.push v) n) = (l', PySem.W.listOf (List.toArray (ws ++ [v])) n) := by rw [List.push_toArray]
theorem hold {m : Str → Option Value} {x : Str} {v : Value} (h : m x = some v) : m = fun y => if y = x then some v else m y := funext fun y => by
  by_cases e : y = x
  · rw [if_pos e, e, h]
  · rw [if_neg e]
structure Tabs (ps qs : Array Value) (ic : Addr) (io : Obj) (jc : Addr) (jo : Obj) : Prop where
  i : StI ic io ps
  j : StD jc jo qs
  a : @Ne Nat ic 37
  b : @Ne Nat ic jc
  c : @Ne Nat jc 30
  d : @Ne Nat ic 30
  e : @Ne Nat jc 37
inductive RetP (x y : Int) (v : Value) (nl : List (Addr × Obj)) : Prop
  | mk : ∀ D t u c, v = .ref D → nl = [(D, ({ cls := .type "tuple", data := .seq #[.int x t, .int y u] c } : Obj))] → RetP x y v nl
inductive RetT (y : Int) (v : Value) (nl : List (Addr × Obj)) : Prop
  | mk : ∀ D z y' t u c ps qs ic io jc jo, v = .ref D → y' = y → nl = (D, ({ cls := .type "tuple", data := .seq #[.int z t, .int y' u] c } : Obj)) :: ledT ps qs ic io jc jo → Tabs ps qs ic io jc jo → LCg.Off1 D (ledT ps qs ic io jc jo) → RetT y v nl
theorem bits7 (x : Int) (h0 : 0 ≤ x) (h1 : x < 128) : (Builtin.Int.intBits x : Int) ≤ 7 := fin_int (P := fun x => (Builtin.Int.intBits x : Int) ≤ 7) 128 (by decide +kernel) x h0 h1
end
section
open PySem PySem.W PyProof.Rows PySem.Spec
noncomputable def Stop (p : Prop) : Prop := p
theorem Stop.mk {p : Prop} (h : Stop p) : p := h
theorem Stop.un {p : Prop} (h : p) : Stop p := h
structure SortOf (ns ss : List Int) : Prop where
  eq : ss = sortI ns
section
variable {prog : Program} {w : World} {A : Around} {E : Value → Shared → Prop} {s : Shared} {h₀ : Heap} {L l : Addr} {m : Str → Option Value} {news : List (Addr × Obj)} {vs : List Value} {ns : List Int} {Q : Value → Shared → Prop}
theorem sortedI (F : Fr h₀ L s.heap m) (N : News h₀ L s.heap news) (hl : s.heap.IsList l vs.toArray) (hi : IntsAre vs ns) (h64 : ns.length < 64)
    (h : ∀ D vs' ss c h', Fr h₀ L h' m → News h₀ L h' ((D, PySem.W.listOf vs'.toArray c) :: news) → (∀ q ∈ news, q.1 < D) → IntsAre vs' ss → SortOf ns ss → Q (.ref D) { s with heap := h' }) :
    wpAny (model prog w) A (call (.builtin "sorted") [.ref l]) Q E s :=
  kso_sorted F N hl hi h64 fun D vs' ns' c h' F' N' l1 hi' _ hp ho _ => h D vs' ns' c h' F' N' l1 hi' ⟨List.Perm.eq_of_pairwise (fun _ _ _ _ a b => Int.le_antisymm a b) ho (sortI_rises ns) (hp.trans (sortI_perm ns).symm)⟩
end
section
variable {prog : Program} {w : World} {A : Around} {E : Value → Shared → Prop} {s : Shared} {h₀ : Heap} {L r : Addr} {m : Str → Option Value} {news : List (Addr × Obj)} {t₀ u₀ v₀ : Tok} {Q : Value → Shared → Prop}
theorem list8 (hh : A.handled = none) (F : Fr h₀ L s.heap m) (N : News h₀ L s.heap news) (hr : IsRange s.heap r 0 8 1 t₀ u₀ v₀)
    (h : ∀ D us c h' tk, Fr h₀ L h' m → News h₀ L h' ((D, PySem.W.listOf (List.toArray us) c) :: news) → (∀ p ∈ news, p.1 < D) → IntsAre us [0, 1, 2, 3, 4, 5, 6, 7] → Q (.ref D) { s with heap := h', toks := tk }) :
    wpAny (model prog w) A (call (.type "list") [.ref r]) Q E s :=
  kll_range (n := 8) hh F N hr (by decide) (by rfl) (by decide) h
end
theorem isl_at {h₀ h : Heap} {L q : Addr} {news : List (Addr × Obj)} {us : List Value} {n : Nat} (N : News h₀ L h news) (m : (q, PySem.W.listOf (List.toArray us) n) ∈ news) : h.IsList q us.toArray := ⟨_, (N _ m).1, rfl, n, rfl⟩
section
variable {prog : Program} {w : World} {A : Around} {E : Value → Shared → Prop} {s : Shared} {g : Heap} {L l : Addr} {m : Str → Option Value} {news : List (Addr × Obj)} {us : List Value} {ns : List Int} {y : Int} {n : Nat} {tk : Tok} {Q : Value → Shared → Prop} {value slice : PySem.Expr}
theorem subLast (N : News g L s.heap news) (hm : (l, PySem.W.listOf us.toArray n) ∈ news) (hi : IntsAre us (ns ++ [y])) (h : ∀ t, Q (.int y t) s)
    (hs : subscripted slice false (.ref l) (.int (-1) tk) = operate [.ref l, .int (-1) tk] (getItem (.ref l) (.int (-1) tk))) :
    wpAny (model prog w) A (subscriptTail value slice (.ref l) (.int (-1) tk)) Q E s := by
  have hlen : us.length = ns.length + 1 := by have := hi.length; rw [List.length_append] at this; exact this
  obtain ⟨t, ht⟩ : ∃ t, us[ns.length]? = some (.int y t) := by
    have e := List.getElem?_eq_getElem (l := us) (i := ns.length) (by rw [hlen]; exact Nat.lt_succ_self _)
    obtain ⟨k, t, e2, hk⟩ := IntsAre.at hi ns.length _ e
    rw [List.getElem?_append_right (Nat.le_refl _), Nat.sub_self] at hk
    cases hk
    exact ⟨t, by rw [e, e2]⟩
  have hl' : s.heap.IsList l us.toArray := ⟨_, (N _ hm).1, rfl, n, rfl⟩
  exact tail_any hl'.typeIs slot_list_getitem.lookup (wpAny_getItem_list_neg hl' (by decide) (by rw [List.size_toArray, hlen]; exact Int.neg_le_neg (Int.ofNat_le.mpr (Nat.le_add_left 1 _))) (by decide) (by rw [List.size_toArray, hlen, show ((-1 : Int) + ((ns.length + 1 : Nat) : Int)).toNat = ns.length from by rw [Int.natCast_add, Int.add_comm, show ((1 : Nat) : Int) = 1 from rfl, Int.add_neg_cancel_right]; rfl]; simpa using ht) (h t)) hs
end
end
section
open PySem PySem.W PyProof.Rows
noncomputable def sgs : List Nat := [43, 45, 42, 38, 124, 94, 126, 61]
noncomputable def tokL : List (List Nat × Int) := [([43], 14), ([45], 15), ([42], 16), ([38], 19), ([124], 18), ([94], 32), ([126], 31), ([61], 22), ([42, 42], 35), ([42, 42, 61], 46), ([43, 61], 36), ([45, 61], 37), ([42, 61], 38), ([38, 61], 41), ([124, 61], 42), ([94, 61], 43), ([61, 61], 27)]
noncomputable def codeT (l : List Nat) : Option Int := (tokL.find? fun e => e.1 == l).map (·.2)
theorem codeT_mem {l : List Nat} {d : Int} (h : codeT l = some d) : (l, d) ∈ tokL := by
  unfold codeT at h
  obtain ⟨e, he, rfl⟩ := Option.map_eq_some_iff.mp h
  have h2 := List.find?_some he
  rw [← eq_of_beq h2]
  exact List.mem_of_find?_eq_some he
noncomputable def sgAll : List (List Nat) := sgs.map (fun a => [a]) ++ (sgs.flatMap fun a => sgs.map fun b => [a, b]) ++ (sgs.flatMap fun a => sgs.flatMap fun b => sgs.map fun c => [a, b, c])
noncomputable def okV (o : Option Value) (c : Option Int) : Bool := match o, c with | some (.int z _), some d => decide (z = d) | none, none => true | _, _ => false
noncomputable def keyN : Value → List Nat
  | .str y _ => y.cps.toList
  | _ => [0]
noncomputable def lookN (kn : List (List Nat × Value)) (x : List Nat) : Option Value := (kn.find? fun e => e.1 == x).map (·.2)
noncomputable def okN (kn : List (List Nat × Value)) : Bool := sgAll.all fun l => okV (lookN kn l) (codeT l)
theorem isN {x : List Nat} (h : x ≠ [0]) (v : Value) : Value.isStrOf { cps := List.toArray x } v = (keyN v == x) := by
  have h0 : (([0] : List Nat) == x) = false := beq_false_of_ne (Ne.symm h)
  cases v with
  | str y t =>
    show (y == { cps := List.toArray x }) = (y.cps.toList == x)
    rw [Bool.eq_iff_iff, beq_iff_eq, beq_iff_eq]
    constructor
    · rintro rfl; rfl
    · rintro rfl; cases y; rfl
  | _ => exact h0.symm
theorem look_eq {x : List Nat} (h : x ≠ [0]) (l : List DictEntry) : findBy Value.isStrOf (List.toArray l) { cps := List.toArray x } = lookN (l.map fun e => (keyN e.key, e.val)) x := by
  unfold findBy lookN
  rw [List.find?_toArray]
  induction l with
  | nil => rfl
  | cons e r ih =>
    rw [List.find?_cons, List.map_cons, List.find?_cons, isN h]
    cases keyN e.key == x with
    | true => rfl
    | false => exact ih
theorem tokTab (P : Params) : ∃ l n kn, (hd.heap_39 P).lookup 57 = some ⟨.type "dict", none, .dict (List.toArray l) n, #[]⟩ ∧ KeysLit P l ∧ (l.map fun e => (keyN e.key, e.val)) = kn ∧ okN kn = true := by
  refine ⟨?l, ?n, ?kn, ?h, ?k, ?m, ?c⟩
  case h => with_unfolding_all rfl
  case k => repeat (first | exact trivial | refine ⟨⟨_, _, rfl, rfl⟩, ?_⟩)
  case m =>
    conv => lhs; reduce
  case c => decide +kernel
theorem mem_sgAll {l : List Nat} (h1 : 1 ≤ l.length) (h3 : l.length ≤ 3) (hs : ∀ c ∈ l, c ∈ sgs) : l ∈ sgAll := by
  unfold sgAll
  match l, h1, h3 with
  | [a], _, _ => exact List.mem_append_left _ (List.mem_append_left _ (List.mem_map_of_mem (hs a (by simp))))
  | [a, b], _, _ => exact List.mem_append_left _ (List.mem_append_right _ (List.mem_flatMap.mpr ⟨a, hs a (by simp), List.mem_map_of_mem (hs b (by simp))⟩))
  | [a, b, c], _, _ => exact List.mem_append_right _ (List.mem_flatMap.mpr ⟨a, hs a (by simp), List.mem_flatMap.mpr ⟨b, hs b (by simp), List.mem_map_of_mem (hs c (by simp))⟩⟩)
section
variable {prog : Program} {w : World} {A : Around} {E : Value → Shared → Prop} {s : Shared} {h₀ : Heap} {L : Addr} {m : Str → Option Value} {l : List Nat} {t : Tok} {Q : Value → Shared → Prop} {value slice : PySem.Expr}
theorem tok_at (F : Fr h₀ L s.heap m) (X : (hd.heap_39 w.params).In h₀) (h1 : 1 ≤ l.length) (h3 : l.length ≤ 3) (hs : ∀ c ∈ l, c ∈ sgs) : ∃ f, s.heap.MapOf (strKind prog w) 57 f ∧ okV (f { cps := List.toArray l }) (codeT l) = true := by
  obtain ⟨es, n, kv, hl, hk, rfl, hc⟩ := tokTab w.params
  refine ⟨_, mapOf_K (X.keeps F.keep) hl hk, ?_⟩
  rw [look_eq (fun e : l = [0] => absurd (hs 0 (by rw [e]; exact List.mem_cons_self)) (by decide))]
  exact (List.all_eq_true.mp hc) l (mem_sgAll h1 h3 hs)
theorem tokIn (F : Fr h₀ L s.heap m) (X : (hd.heap_39 w.params).In h₀) (h1 : 1 ≤ l.length) (h3 : l.length ≤ 3) (hs : ∀ c ∈ l, c ∈ sgs) (h : ∀ k, Q (.bool (codeT l).isSome) { s with toks := k }) :
    wpAny (model prog w) A (compareOp .In (.str { cps := List.toArray l } t) (.ref 57)) Q E s := by
  obtain ⟨f, hm, ok⟩ := tok_at (prog := prog) F X h1 h3 hs
  refine wpAny_in_of (strKind_is prog w _ t) (by decide +kernel) hm ?_
  have e : (f { cps := List.toArray l }).isSome = (codeT l).isSome := by
    unfold okV at ok
    split at ok
    · rename_i e1 e2; rw [e1, e2]; rfl
    · rename_i e1 e2; rw [e1, e2]; rfl
    · cases ok
  rw [e]
  exact h _
theorem tokItem {d : Int} (F : Fr h₀ L s.heap m) (X : (hd.heap_39 w.params).In h₀) (h1 : 1 ≤ l.length) (h3 : l.length ≤ 3) (hs : ∀ c ∈ l, c ∈ sgs) (hd : codeT l = some d) (h : ∀ t k, Q (.int d t) { s with toks := k })
    (hsub : subscripted slice false (.ref 57) (.str { cps := List.toArray l } t) = operate [.ref 57, .str { cps := List.toArray l } t] (getItem (.ref 57) (.str { cps := List.toArray l } t))) :
    wpAny (model prog w) A (subscriptTail value slice (.ref 57) (.str { cps := List.toArray l } t)) Q E s := by
  obtain ⟨f, hm, ok⟩ := tok_at (prog := prog) F X h1 h3 hs
  have e : ∃ t', f { cps := List.toArray l } = some (.int d t') := by
    rw [hd] at ok
    unfold okV at ok
    split at ok
    · rename_i e1 e2; cases e2; exact ⟨_, by rw [e1, of_decide_eq_true ok]⟩
    · rename_i e1 e2; cases e2
    · cases ok
  obtain ⟨t', e⟩ := e
  exact tail_any hm.typeIs slot_dict_getitem.lookup (wpAny_getItem_of (strKind_is prog w _ t) hm e (h _ _)) hsub
end
end
section
open PySem PySem.W PyProof.Rows Builtin Builtin.Str
theorem mx0 (a n : Nat) : max (0 : Int) (min (a : Int) (n : Int)) = ((min a n : Nat) : Int) := by
  rcases Nat.le_total a n with h | h
  · rw [Nat.min_eq_left h, Int.min_eq_left (Int.ofNat_le.mpr h)]; exact Int.max_eq_right (Int.natCast_nonneg _)
  · rw [Nat.min_eq_right h, Int.min_eq_right (Int.ofNat_le.mpr h)]; exact Int.max_eq_right (Int.natCast_nonneg _)
theorem sl_ix (l : List Nat) (i j : Nat) : strSliceIndices (some (i : Int)) (some (j : Int)) 1 l.length = sliceRange ((min i l.length : Nat) : Int) ((min j l.length : Nat) : Int) 1 := by
  unfold strSliceIndices
  have h1 : ¬ ((i : Int) < 0) := Int.not_lt.mpr (Int.natCast_nonneg i)
  have h2 : ¬ ((j : Int) < 0) := Int.not_lt.mpr (Int.natCast_nonneg j)
  have h3 : ((1 : Int) > 0) := by decide
  simp only [if_neg h1, if_neg h2, if_pos h3]
  rw [mx0, mx0]
theorem sl_take (l : List Nat) (i j : Nat) : (l.drop (min i l.length)).take (min j l.length - min i l.length) = (l.drop i).take (j - i) := by
  rcases Nat.le_total i l.length with h | h
  · rw [Nat.min_eq_left h]
    rcases Nat.le_total j l.length with g | g
    · rw [Nat.min_eq_left g]
    · rw [Nat.min_eq_right g, List.take_of_length_le (by rw [List.length_drop]; exact Nat.le_refl _), List.take_of_length_le (by rw [List.length_drop]; exact Nat.sub_le_sub_right g i)]
  · rw [Nat.min_eq_right h, List.drop_eq_nil_of_le (Nat.le_refl _), List.drop_eq_nil_of_le h, List.take_nil, List.take_nil]
theorem sl_run (l : List Nat) (i j : Nat) : Txt.slice { cps := List.toArray l } (some (i : Int)) (some (j : Int)) = { cps := List.toArray ((l.drop i).take (j - i)) } := by
  have hp : ((strSliceIndices (some (i : Int)) (some (j : Int)) 1 l.length).filterMap ((List.toArray l)[·]?)) = (l.drop i).take (j - i) := by
    rw [sl_ix, sliceRange_one, pick_run]
    exact sl_take l i j
  have hn : (strSliceIndices (some (i : Int)) (some (j : Int)) 1 l.length).length = min j l.length - min i l.length := by
    rw [sl_ix, sliceRange_one, List.length_map, List.length_range]
  show (if _ then _ else _) = _
  split
  · rename_i h
    have h2 : (strSliceIndices (some (i : Int)) (some (j : Int)) 1 l.length).length = l.length := by
      have := (Bool.and_eq_true_iff.mp h).2
      exact eq_of_beq this
    rw [hn] at h2
    congr 2
    have e := sl_take l i j
    rw [h2] at e
    rw [← e]
    symm
    have h3 : min i l.length = 0 ∨ l.length = 0 := by omega
    rcases h3 with h3 | h3
    · rw [h3, List.drop_zero, List.take_length]
    · rw [List.eq_nil_of_length_eq_zero h3]; simp
  · exact congrArg (fun q => ({ cps := List.toArray q } : PySem.Str)) hp
noncomputable def cutS (l : List Nat) : Nat := if (codeT (l.take 3)).isSome then 3 else if (codeT (l.take 2)).isSome then 2 else 1
noncomputable def cutF : Nat → List Nat → List Int
  | 0, _ => []
  | _ + 1, [] => []
  | k + 1, l => (codeT (l.take (cutS l))).getD 0 :: cutF k (l.drop (cutS l))
section
variable {prog : Program} {w : World} {A : Around} {E : Value → Shared → Prop} {s : Shared} {h₀ : Heap} {L : Addr} {m : Str → Option Value} {news : List (Addr × Obj)} {value slice : PySem.Expr} {l : List Nat} {t : Tok} {i k : Nat} {z : Int} {Q : Value → Shared → Prop}
theorem slR {ui uj : Tok} (hl : l.length ≤ 8) (hz : z = (i : Int) + (k : Int)) (hF : Fr h₀ L s.heap m) (hN : News h₀ L s.heap news) (h : ∀ h' t' k', Fr h₀ L h' m → News h₀ L h' news → Q (.str { cps := List.toArray ((l.drop i).take k) } t') { s with heap := h', toks := k' })
    (hs : subscripted slice false (.str { cps := List.toArray l } t) (.ref s.heap.objs.size) = operate [.ref s.heap.objs.size, .str { cps := List.toArray l } t] (getItem (.str { cps := List.toArray l } t) (.ref s.heap.objs.size)))
    (ht : ∀ r, letTemporaryGo value (.str { cps := List.toArray l } t) r = pure ()) :
    wpAny (model prog w) A (subscriptTail value slice (.str { cps := List.toArray l } t) (.ref s.heap.objs.size)) Q E { s with heap := s.heap.push { cls := .type "slice", data := .fields #[.int (i : Int) ui, .int z uj, .none] } } := by
  obtain rfl : z = ((i + k : Nat) : Int) := hz.trans (Int.natCast_add i k).symm
  refine slice_strN_ss hF hN (fun h' t' k' a b => ?_) hs ht (by rw [PySem.sizeLine_eq]; exact Nat.le_trans hl (by decide))
  rw [sl_run, Nat.add_sub_cancel_left]
  exact h h' t' k' a b
end
end
section
open PySem PySem.W PyProof.Rows PySem.Spec
section
variable {prog : Program} {w : World} {A : Around} {E : Value → Shared → Prop} {s : Shared} {h₀ : Heap} {L : Addr} {m : Str → Option Value} {news : List (Addr × Obj)} {value slice : PySem.Expr} {x y : Str} {t u : Tok} {i : Int} {n : Nat} {Q : Value → Shared → Prop}
theorem slY_nn (hF : Fr h₀ L s.heap m) (hN : News h₀ L s.heap news) (e : Txt.slice x none none = y) (h : ∀ h' t' k, Fr h₀ L h' m → News h₀ L h' news → Q (.str y t') { s with heap := h', toks := k })
    (hs : subscripted slice false (.str x t) (.ref s.heap.objs.size) = operate [.ref s.heap.objs.size, .str x t] (getItem (.str x t) (.ref s.heap.objs.size)))
    (ht : ∀ r, letTemporaryGo value (.str x t) r = pure ()) (hsz : x.length ≤ sizeLine) :
    wpAny (model prog w) A (subscriptTail value slice (.str x t) (.ref s.heap.objs.size)) Q E { s with heap := s.heap.push { cls := .type "slice", data := .fields #[.none, .none, .none] } } :=
  slice_strN_nn hF hN (fun h' t' k a b => by rw [e]; exact h h' t' k a b) hs ht hsz
theorem slY_sn {ui : Tok} (hF : Fr h₀ L s.heap m) (hN : News h₀ L s.heap news) (e : Txt.slice x (some i) none = y) (h : ∀ h' t' k, Fr h₀ L h' m → News h₀ L h' news → Q (.str y t') { s with heap := h', toks := k })
    (hs : subscripted slice false (.str x t) (.ref s.heap.objs.size) = operate [.ref s.heap.objs.size, .str x t] (getItem (.str x t) (.ref s.heap.objs.size)))
    (ht : ∀ r, letTemporaryGo value (.str x t) r = pure ()) (hsz : x.length ≤ sizeLine) :
    wpAny (model prog w) A (subscriptTail value slice (.str x t) (.ref s.heap.objs.size)) Q E { s with heap := s.heap.push { cls := .type "slice", data := .fields #[.int i ui, .none, .none] } } :=
  slice_strN_sn hF hN (fun h' t' k a b => by rw [e]; exact h h' t' k a b) hs ht hsz
theorem slY_ss {j : Int} {ui uj : Tok} (hF : Fr h₀ L s.heap m) (hN : News h₀ L s.heap news) (e : Txt.slice x (some i) (some j) = y) (h : ∀ h' t' k, Fr h₀ L h' m → News h₀ L h' news → Q (.str y t') { s with heap := h', toks := k })
    (hs : subscripted slice false (.str x t) (.ref s.heap.objs.size) = operate [.ref s.heap.objs.size, .str x t] (getItem (.str x t) (.ref s.heap.objs.size)))
    (ht : ∀ r, letTemporaryGo value (.str x t) r = pure ()) (hsz : x.length ≤ sizeLine) :
    wpAny (model prog w) A (subscriptTail value slice (.str x t) (.ref s.heap.objs.size)) Q E { s with heap := s.heap.push { cls := .type "slice", data := .fields #[.int i ui, .int j uj, .none] } } :=
  slice_strN_ss hF hN (fun h' t' k a b => by rw [e]; exact h h' t' k a b) hs ht hsz
theorem slY_ns {ui : Tok} (hF : Fr h₀ L s.heap m) (hN : News h₀ L s.heap news) (e : Txt.slice x none (some i) = y) (h : ∀ h' t' k, Fr h₀ L h' m → News h₀ L h' news → Q (.str y t') { s with heap := h', toks := k })
    (hs : subscripted slice false (.str x t) (.ref s.heap.objs.size) = operate [.ref s.heap.objs.size, .str x t] (getItem (.str x t) (.ref s.heap.objs.size)))
    (ht : ∀ r, letTemporaryGo value (.str x t) r = pure ()) (hsz : x.length ≤ sizeLine) :
    wpAny (model prog w) A (subscriptTail value slice (.str x t) (.ref s.heap.objs.size)) Q E { s with heap := s.heap.push { cls := .type "slice", data := .fields #[.none, .int i ui, .none] } } :=
  slice_strN_ns hF hN (fun h' t' k a b => by rw [e]; exact h h' t' k a b) hs ht hsz
theorem lenS (hk : x.length = n) (hn : n ≤ 16777216) (h : ∀ t' k, Q (.int (n : Int) t') { s with toks := k }) : wpAny (model prog w) A (call (.builtin "len") [.str x t]) Q E s :=
  SBL.len (by omega) (by rw [hk]; exact h _ _)
theorem truthyS {Q : Bool → Shared → Prop} {b : Bool} (hk : x.length = n) (hn : n ≤ 16777216) (hb : ((n : Int) != 0) = b) (h : ∀ k, Q b { s with toks := k }) : wpAny (model prog w) A (PySem.truthy (.str x t)) Q E s :=
  SBL.truthy (by omega) (by rw [hk, hb]; exact h _)
theorem lowS (e : Txt.lower x = x) (hl : x.length = 1) (h : ∀ t' k, Q (.str x t') { s with toks := k }) : wpAny (model prog w) A (call (.builtin "str.lower") [.str x t]) Q E s :=
  SCL.lower (by omega) (fun _ => by rw [e]; exact h _ _)
end
theorem ne1 {a d : Nat} (h : a ≠ d) : (({ cps := #[a] } : Str) == { cps := #[d] }) = false := by
  apply beq_false_of_ne; intro e; injection e with e; simp at e; exact h e
theorem ne3 {a b c d e f : Nat} (h : a ≠ d ∨ b ≠ e ∨ c ≠ f) : (({ cps := #[a, b, c] } : Str) == { cps := #[d, e, f] }) = false := by
  apply beq_false_of_ne; intro q; injection q with q; simp at q; omega
theorem low1 {c : Nat} (h0 : 50 ≤ c) (h1 : c < 64) : Txt.lower { cps := #[c] } = { cps := #[c] } := by
  have key : ∀ n : Fin 14, Txt.lower { cps := #[50 + n.val] } = { cps := #[50 + n.val] } := by decide +kernel
  have := key ⟨c - 50, by omega⟩
  simpa [show 50 + (c - 50) = c by omega] using this
end
section
open PySem PySem.W PyProof.Rows
set_option compiler.extract_closed false in
set_option compiler.extract_closed false in
set_option compiler.extract_closed false in
set_option maxRecDepth 100000 in
set_option maxHeartbeats 500000 in
theorem sub_c (w : World) (a d : Nat) (t1 t2 : Tok) (h1 : a ≠ d) (h2 : 50 ≤ a) (h3 : a < 64) (h4 : 50 ≤ d) (h5 : d < 64) :
    Con 410 w 80 [.str { cps := #[a] } t1, .str { cps := #[d] } t2] [] (fun _ => True) (RetZ 2) := by
  have : Challenge.rw_re0146_01 = Challenge.rw_re0146_01 ∧ hd.heap_39 w.params = hd.heap_39 w.params := by k_fill; exact ⟨rfl, rfl⟩
  clear this
  w_top off
  k_with_none
  (k_with "k_lt" => intro kH; (try replace kH := allLt_of kH); (try replace kH := offs_of kH); (try dsimp only [AllLt, LCg.Off1, LCg.Off3, OffF, OffG, ledT] at kH); repeat (first | (have := And.left (And.left kH); have := And.left (And.right (And.left kH)); have := And.right (And.right (And.left kH)); replace kH := And.right kH) | (have := And.left kH; replace kH := And.right kH)))
  (k_with "lt:kc9" => (try replace kc9 := allLt_of kc9); (try replace kc9 := offs_of kc9); (try dsimp only [AllLt, LCg.Off1, LCg.Off3, OffF, OffG, ledT] at kc9); repeat (first | (have := And.left (And.left kc9); have := And.left (And.right (And.left kc9)); have := And.right (And.right (And.left kc9)); replace kc9 := And.right kc9) | (have := And.left kc9; replace kc9 := And.right kc9)))
  (k_with "k_ne" => refine neN ?_; first | (with_reducible first | assumption | exact Ne.symm (by assumption) | exact Nat.ne_of_lt (by assumption) | exact Ne.symm (Nat.ne_of_lt (by assumption))) | ((try dsimp only); first | ((iterate 2 (first | done | with_reducible (first | exact cN1 _ | exact cN2 _ | exact cN3 _ | exact cL1 (by assumption) | exact cL2 (by assumption) | exact cL3 (by assumption) | exact cL4 (by assumption)) | exact Nat.ne_of_beq_eq_false rfl | refine Ne.symm ?_)); done) | ((iterate 4 (first | done | (with_reducible rename (@Ne Nat _ _) ∧ _ => kc9; (k_extra "lt:kc9"); with_reducible first | assumption | exact Ne.symm (by assumption)) | (with_reducible rename (@Ne Nat _ _) ∧ _ => kc9; clear kc9))); done) | omega))
  (k_with "execs cons" => k_here; (with_reducible rename Fr _ _ _ _ => lF); (let lm := mOf lF); (have F' : Fr _ _ _ lm := lF); (with_reducible refine wpAny_execs_cons ?_); (try k_fold))
  (k_with "compareOp Eq str str" => k_here; (with_reducible show wpAny _ _ (compareOp _ (Value.str (Str.mk _) _) (Value.str (Str.mk _) _)) _ _ _); k_dflt (refine eqS (ne1 h1) ?_))
  (k_with "call builtin:str.lower" => k_here; (with_reducible show wpAny _ _ (call (Value.builtin "str.lower") [Value.str (Str.mk _) _]) _ _ _); (first | k_dflt (refine lowS (low1 h2 h3) rfl ?_) | k_dflt (refine lowS (low1 h4 h5) rfl ?_)); intro _ _)
  refine con0L (pre' := fun _ => True) (by k_is) (by k_is) (by decide) (fun _ => BindsTo.of_eq rfl) (locs rfl) (fun _ _ _ _ => trivial) ?_ rfl rfl rfl (by decide)
  intro outer h₀ L h₁ gn dr tk os Q E ee AA G _ F N _ hE hQ
  obtain ⟨A₀, base, B, X, p, loose, mean, mg, mb, T, H⟩ := id G
  k_steps
  exact hQ _ _ _ _ _ ⟨_, rfl, rfl⟩ (by assumption) (by assumption)
end
section
open PySem PySem.W PyProof.Rows PySem.Spec
theorem slen (l : List Nat) : ({ cps := List.toArray l } : Str).length = l.length := rfl
theorem sl_drop {l : List Nat} {i : Nat} (h : l.length ≤ 3) (hi : i ≤ l.length) : Txt.slice { cps := List.toArray l } (some (i : Int)) none = { cps := List.toArray (l.drop i) } := by
  match l, i, h, hi with
  | [], 0, _, _ => with_unfolding_all rfl
  | [a], 0, _, _ => with_unfolding_all rfl
  | [a], 1, _, _ => with_unfolding_all rfl
  | [a, b], 0, _, _ => with_unfolding_all rfl
  | [a, b], 1, _, _ => with_unfolding_all rfl
  | [a, b], 2, _, _ => with_unfolding_all rfl
  | [a, b, c], 0, _, _ => with_unfolding_all rfl
  | [a, b, c], 1, _, _ => with_unfolding_all rfl
  | [a, b, c], 2, _, _ => with_unfolding_all rfl
  | [a, b, c], 3, _, _ => with_unfolding_all rfl
theorem sl_all {l : List Nat} (h : l.length ≤ 3) : Txt.slice { cps := List.toArray l } none none = { cps := List.toArray l } := by
  match l, h with
  | [], _ => with_unfolding_all rfl
  | [a], _ => with_unfolding_all rfl
  | [a, b], _ => with_unfolding_all rfl
  | [a, b, c], _ => with_unfolding_all rfl
theorem it_at {l : List Nat} {i : Nat} (h : l.length ≤ 3) (hi : i < l.length) : Txt.item { cps := List.toArray l } (i : Int) = { cps := #[l.getD i 0] } := by
  match l, i, h, hi with
  | [a], 0, _, _ => with_unfolding_all rfl
  | [a, b], 0, _, _ => with_unfolding_all rfl
  | [a, b], 1, _, _ => with_unfolding_all rfl
  | [a, b, c], 0, _, _ => with_unfolding_all rfl
  | [a, b, c], 1, _, _ => with_unfolding_all rfl
  | [a, b, c], 2, _, _ => with_unfolding_all rfl
theorem it_last {l : List Nat} (h : l.length ≤ 3) (hi : 1 ≤ l.length) : Txt.item { cps := List.toArray l } (-1) = { cps := #[l.getD (l.length - 1) 0] } := by
  match l, h, hi with
  | [a], _, _ => with_unfolding_all rfl
  | [a, b], _, _ => with_unfolding_all rfl
  | [a, b, c], _, _ => with_unfolding_all rfl
section
variable {prog : Program} {w : World} {A : Around} {E : Value → Shared → Prop} {s : Shared} {h₀ : Heap} {L : Addr} {m : Str → Option Value} {news : List (Addr × Obj)} {value slice : PySem.Expr} {l l' : List Nat} {t u : Tok} {i : Nat} {n : Nat} {Q : Value → Shared → Prop}
theorem line3 (h : l.length ≤ 3) : ({ cps := List.toArray l } : Str).length ≤ sizeLine := by rw [PySem.sizeLine_eq, slen]; omega
theorem slD {ui : Tok} (hl : l.length ≤ 3) (hi : i ≤ l.length) (hF : Fr h₀ L s.heap m) (hN : News h₀ L s.heap news) (h : ∀ h' t' k, Fr h₀ L h' m → News h₀ L h' news → Q (.str { cps := List.toArray (l.drop i) } t') { s with heap := h', toks := k })
    (hs : subscripted slice false (.str { cps := List.toArray l } t) (.ref s.heap.objs.size) = operate [.ref s.heap.objs.size, .str { cps := List.toArray l } t] (getItem (.str { cps := List.toArray l } t) (.ref s.heap.objs.size)))
    (ht : ∀ r, letTemporaryGo value (.str { cps := List.toArray l } t) r = pure ()) :
    wpAny (model prog w) A (subscriptTail value slice (.str { cps := List.toArray l } t) (.ref s.heap.objs.size)) Q E { s with heap := s.heap.push { cls := .type "slice", data := .fields #[.int (i : Int) ui, .none, .none] } } :=
  slY_sn hF hN (sl_drop hl hi) h hs ht (line3 hl)
theorem slA (hl : l.length ≤ 3) (hF : Fr h₀ L s.heap m) (hN : News h₀ L s.heap news) (h : ∀ h' t' k, Fr h₀ L h' m → News h₀ L h' news → Q (.str { cps := List.toArray l } t') { s with heap := h', toks := k })
    (hs : subscripted slice false (.str { cps := List.toArray l } t) (.ref s.heap.objs.size) = operate [.ref s.heap.objs.size, .str { cps := List.toArray l } t] (getItem (.str { cps := List.toArray l } t) (.ref s.heap.objs.size)))
    (ht : ∀ r, letTemporaryGo value (.str { cps := List.toArray l } t) r = pure ()) :
    wpAny (model prog w) A (subscriptTail value slice (.str { cps := List.toArray l } t) (.ref s.heap.objs.size)) Q E { s with heap := s.heap.push { cls := .type "slice", data := .fields #[.none, .none, .none] } } :=
  slY_nn hF hN (sl_all hl) h hs ht (line3 hl)
theorem itD (hl : l.length ≤ 3) (hi : i < l.length) (h : ∀ t' k, Q (.str { cps := #[l.getD i 0] } t') { s with toks := k })
    (hs : subscripted slice false (.str { cps := List.toArray l } t) (.int (i : Int) u) = operate [.str { cps := List.toArray l } t, .int (i : Int) u] (getItem (.str { cps := List.toArray l } t) (.int (i : Int) u)))
    (ht : ∀ r, letTemporaryGo value (.str { cps := List.toArray l } t) r = pure ()) :
    wpAny (model prog w) A (subscriptTail value slice (.str { cps := List.toArray l } t) (.int (i : Int) u)) Q E s :=
  itS (n := l.length) (slen l) (by omega) (by omega) (by omega) (it_at hl hi) h hs ht
theorem itL (hl : l.length ≤ 3) (hi : 1 ≤ l.length) (h : ∀ t' k, Q (.str { cps := #[l.getD (l.length - 1) 0] } t') { s with toks := k })
    (hs : subscripted slice false (.str { cps := List.toArray l } t) (.int (-1) u) = operate [.str { cps := List.toArray l } t, .int (-1) u] (getItem (.str { cps := List.toArray l } t) (.int (-1) u)))
    (ht : ∀ r, letTemporaryGo value (.str { cps := List.toArray l } t) r = pure ()) :
    wpAny (model prog w) A (subscriptTail value slice (.str { cps := List.toArray l } t) (.int (-1) u)) Q E s :=
  itS (n := l.length) (slen l) (by omega) (by omega) (by omega) (it_last hl hi) h hs ht
theorem truD {Q : Bool → Shared → Prop} (hl : l.length ≤ 3) (hi : 1 ≤ l.length) (h : ∀ k, Q true { s with toks := k }) : wpAny (model prog w) A (PySem.truthy (.str { cps := List.toArray l } t)) Q E s :=
  truthyS (n := l.length) (slen l) (by omega) (by rw [bne_iff_ne]; omega) h
theorem lenD (hl : l.length ≤ 3) (hn : l.length = n) (h : ∀ t' k, Q (.int (n : Int) t') { s with toks := k }) : wpAny (model prog w) A (call (.builtin "len") [.str { cps := List.toArray l } t]) Q E s :=
  lenS ((slen l).trans hn) (by omega) h
noncomputable def RowIs (us : List Value) (n : Nat) (f : Nat → Int) : Prop := us.length = n ∧ ∀ j, j < n → ∃ t, us[j]? = some (.int (f j) t)
theorem RowIs.set {us : List Value} {f g : Nat → Int} {k : Nat} {z : Int} {t : Tok} (h : RowIs us n f) (hk : k < n) (hz : g k = z) (hg : ∀ j, j < n → j ≠ k → g j = f j) : RowIs (us.set k (.int z t)) n g := by
  refine ⟨by rw [List.length_set]; exact h.1, fun j hj => ?_⟩
  by_cases e : j = k
  · subst e
    exact ⟨t, by rw [List.getElem?_set_self (by rw [h.1]; exact hj), hz]⟩
  · rw [List.getElem?_set_ne (fun q => e q.symm), hg j hj e]
    exact h.2 j hj
theorem setL_ok {v : Value} : ∀ {us : List Value} {k : Nat}, k < us.length → ki_setL us k v = some (us.set k v)
  | [], _, h => absurd h (Nat.not_lt_zero _)
  | _ :: _, 0, _ => rfl
  | a :: r, k + 1, h => by
    have := setL_ok (us := r) (v := v) (k := k) (by simpa using h)
    simp [ki_setL, this]
theorem list2 {r : Addr} {t₀ u₀ v₀ : Tok} {b : Int} (hh : A.handled = none) (F : Fr h₀ L s.heap m) (N : News h₀ L s.heap news) (hr : IsRange s.heap r 2 b 2 t₀ u₀ v₀) (hb : b = 2 * ((n : Int) + 1)) (hn : n ≤ 3)
    (h : ∀ D us c h' tk, Fr h₀ L h' m → News h₀ L h' ((D, PySem.W.listOf (List.toArray us) c) :: news) → (∀ p ∈ news, p.1 < D) → RowIs us n (fun j => 2 * ((j + 1 : Nat) : Int)) → Q (.ref D) { s with heap := h', toks := tk }) :
    wpAny (model prog w) A (call (.type "list") [.ref r]) Q E s := by
  have h4 := le3 hn
  have hsm : Builtin.Range.small 2 b 2 = true := by
    rcases h4 with rfl | rfl | rfl | rfl <;> (subst hb; decide +kernel)
  have hsz : Builtin.Range.rangeSize 2 b 2 = (n : Int) := by
    rcases h4 with rfl | rfl | rfl | rfl <;> (subst hb; decide +kernel)
  refine call_list_range hh hr hsm hsz (by omega) fun h' tk acc c hk hD hI => ?_
  have hD' : h'.get? s.heap.objs.size = some (PySem.W.listOf (List.toArray acc.toList) c) := by
    rw [Array.toArray_toList]
    exact hD
  refine h _ acc.toList c h' tk (F.keeps hk) (news_pushed F N hk hD' rfl) (fun p hp => Heap.lt_size (N p hp).1) ⟨by rw [Array.length_toList]; exact hI.1, fun j hj => ?_⟩
  obtain ⟨t, ht⟩ := hI.2 j _ (Array.getElem?_eq_getElem (by rw [hI.1]; exact hj))
  refine ⟨t, ?_⟩
  rw [Array.getElem?_toList, Array.getElem?_eq_getElem (by rw [hI.1]; exact hj), ht]
  congr 2
  push_cast
  omega
theorem subRow {D : Addr} {us : List Value} {f : Nat → Int} {k c : Nat} (F : Fr h₀ L s.heap m) (N : News h₀ L s.heap news) (hm : (D, PySem.W.listOf (List.toArray us) c) ∈ news) (hr : RowIs us n f) (hk : k < n) (hn : n ≤ 3) (h : ∀ t, Q (.int (f k) t) s)
    (hs : subscripted slice false (.ref D) (.int (k : Int) u) = operate [.ref D, .int (k : Int) u] (getItem (.ref D) (.int (k : Int) u))) :
    wpAny (model prog w) A (subscriptTail value slice (.ref D) (.int (k : Int) u)) Q E s := by
  obtain ⟨t, ht⟩ := hr.2 k hk
  have hl' := isl_at N hm
  exact tail_any hl'.typeIs slot_list_getitem.lookup (wpAny_getItem_list hl' (by omega) (by omega) (by simpa using ht) (h t)) hs
theorem setRow {D : Addr} {us : List Value} {f : Nat → Int} {k c : Nat} {v : Value} {news' : List (Addr × Obj)} {Q : Unit → Shared → Prop} (F : Fr h₀ L s.heap m) (N : News h₀ L s.heap news) (hr : RowIs us n f) (hk : k < n) (hn : n ≤ 3) (U : Upd D (PySem.W.listOf (List.toArray us) c) (PySem.W.listOf (List.toArray (us.set k v)) c) news news')
    (h : ∀ h', Fr h₀ L h' m → News h₀ L h' news' → Q () { s with heap := h' }) : wpAny (model prog w) A (setItem (.ref D) (.int (k : Int) u) v) Q E s :=
  ki_set F N (by omega) (by omega) (setL_ok (by rw [hr.1]; exact hk)) U h
end
end
section
open PySem PySem.W PyProof.Rows PySem.Spec PySem.Calls LCg LCt
noncomputable def SrcTT (prog : Program) (w : World) (A : Around) (h₀ : Heap) (L : Addr) (m : Str → Option Value) (env : Env) (ct elt : PySem.Expr) (x : Str) (scope : Scope) (cl : List (Str × Addr)) (Fin : Shared → List Value → List (Addr × Obj) → Prop) (xv : Value) (s₁ : Shared) : Prop :=
  ∃ ax its k news, xv = .ref ax ∧ A.handled = none ∧ Fr h₀ L s₁.heap m ∧ News h₀ L s₁.heap news ∧ (ax, ({ cls := .type "tuple", data := .seq its k } : Obj)) ∈ news ∧ its.size ≤ sizeLine ∧
    ∀ g, CompRestT prog w A h₀ L m env ct elt x scope cl { s₁ with heap := g } (fun nw => (ax, ({ cls := .type "tuple", data := .seq its k } : Obj)) ∈ nw) (fun i v => its[i]? = some v) (Fin { s₁ with heap := g }) its.size 0 [] news
noncomputable abbrev nOf {g h : Heap} {L : Addr} {news : List (Addr × Obj)} (_ : News g L h news) : List (Addr × Obj) := news
theorem compEnd3 {h₀ : Heap} {L I C D : Addr} {m : Str → Option Value} {s₁ : Shared} {oI oC oD : Obj} {S : List (Addr × Obj) → Prop} {rest : Value → List (Addr × Obj) → Prop} {y : Value} {h' : Heap} {tk : Nat} {nw : List (Addr × Obj)}
    (F : Fr h₀ L h' m) (N : News h₀ L h' ((I, oI) :: (C, oC) :: (D, oD) :: nw)) (off : Off3 I C D nw) (hS : S nw) (r : rest y nw) :
    CompEnd h₀ L m s₁ I oI C oC D oD S rest y { s₁ with heap := h', toks := tk } := ⟨h', tk, nw, rfl, F, N, off, hS, r⟩
theorem cutEnd {cs : List Nat} {pl : Nat} {done all : List Int} (h : done ++ cutF 8 (cs.drop pl) = all) (hp : cs.length ≤ pl) : done = all := by
  rw [List.drop_eq_nil_of_le hp, show cutF 8 [] = [] from rfl, List.append_nil] at h
  exact h
theorem cutF_more : ∀ (k : Nat) (l : List Nat), l.length ≤ k → cutF (k + 1) l = cutF k l
  | _, [], _ => by cases ‹Nat› <;> rfl
  | 0, _ :: _, h => absurd h (Nat.not_succ_le_zero _)
  | k + 1, a :: r, h => by
    have h1 : 1 ≤ cutS (a :: r) := by unfold cutS; split <;> (try split) <;> omega
    show _ :: cutF (k + 1) _ = _ :: cutF k _
    rw [cutF_more k _ (by rw [List.length_drop]; omega)]
theorem cutF_step {l : List Nat} (h1 : 1 ≤ l.length) (h8 : l.length ≤ 8) : cutF 8 l = (codeT (l.take (cutS l))).getD 0 :: cutF 8 (l.drop (cutS l)) := by
  have hc : 1 ≤ cutS l := by unfold cutS; split <;> (try split) <;> omega
  match l, h1 with
  | a :: r, _ =>
    show _ :: cutF 7 _ = _
    rw [← cutF_more 7 _ (by rw [List.length_drop]; omega)]
theorem cutS1 {l : List Nat} (h3 : (codeT (l.take 3)).isSome = false) (h2 : (codeT (l.take 2)).isSome = false) : (1 : Int) = ((cutS l : Nat) : Int) := by unfold cutS; rw [h3, h2]; rfl
theorem cutS2 {l : List Nat} (h3 : (codeT (l.take 3)).isSome = false) (h2 : (codeT (l.take 2)).isSome = true) : (2 : Int) = ((cutS l : Nat) : Int) := by unfold cutS; rw [h3, h2]; rfl
theorem cutS3 {l : List Nat} (h3 : (codeT (l.take 3)).isSome = true) : (3 : Int) = ((cutS l : Nat) : Int) := by unfold cutS; rw [h3]; rfl
theorem cut_len (l : List Nat) : 1 ≤ cutS l ∧ cutS l ≤ 3 := by unfold cutS; split <;> (try split) <;> omega
theorem cutF_len : ∀ (k : Nat) (l : List Nat), (cutF k l).length ≤ k
  | 0, _ => Nat.le_refl 0
  | _ + 1, [] => Nat.zero_le _
  | k + 1, _ :: _ => Nat.succ_le_succ (cutF_len k _)
theorem cutNext {cs : List Nat} {pl : Nat} {d : Int} {done all : List Int} (h1 : 1 ≤ (cs.drop pl).length) (h8 : (cs.drop pl).length ≤ 8) (hc : codeT ((cs.drop pl).take (cutS (cs.drop pl))) = some d) (h : done ++ cutF 8 (cs.drop pl) = all) :
    (done ++ [d]) ++ cutF 8 (cs.drop (pl + cutS (cs.drop pl))) = all := by
  rw [cutF_step h1 h8, hc, List.drop_drop] at h
  rw [List.append_assoc]
  exact h
theorem code1 {l : List Nat} (h : 1 ≤ l.length) (hs : ∀ c ∈ l, c ∈ sgs) : (codeT (l.take 1)).isSome = true := by
  match l, h with
  | a :: r, _ =>
    have := hs a List.mem_cons_self
    have key : ∀ c ∈ sgs, (codeT [c]).isSome = true := by decide
    exact key a this
theorem cut_some {l : List Nat} (h : 1 ≤ l.length) (hs : ∀ c ∈ l, c ∈ sgs) : ∃ d, codeT (l.take (cutS l)) = some d := by
  unfold cutS
  split
  · rename_i h; exact Option.isSome_iff_exists.mp h
  · split
    · rename_i h; exact Option.isSome_iff_exists.mp h
    · exact Option.isSome_iff_exists.mp (code1 h hs)
theorem tokInB {prog : Program} {w : World} {A : Around} {E : Value → Shared → Prop} {s : Shared} {h₀ : Heap} {L : Addr} {m : Str → Option Value} {l : List Nat} {k : Nat} {t : Tok} {b : Bool} {Q : Value → Shared → Prop} (F : Fr h₀ L s.heap m) (X : (hd.heap_39 w.params).In h₀) (h1 : 1 ≤ l.length) (hs : ∀ c ∈ l, c ∈ sgs) (k1 : 1 ≤ k) (k3 : k ≤ 3) (hb : (codeT (l.take k)).isSome = b) (h : ∀ k, Q (.bool b) { s with toks := k }) :
    wpAny (model prog w) A (compareOp .In (.str { cps := List.toArray (l.take k) } t) (.ref 57)) Q E s :=
  tokIn F X (by rw [List.length_take]; exact Nat.le_min.mpr ⟨k1, h1⟩) (by rw [List.length_take]; exact Nat.le_trans (Nat.min_le_left _ _) k3) (fun c hc => hs c (List.mem_of_mem_take hc)) (fun k => by rw [hb]; exact h k)
section
variable {prog : Program} {w : World} {A : Around} {E : Value → Shared → Prop} {s : Shared} {h₀ : Heap} {L : Addr} {m : Str → Option Value} {env : Env}
theorem SrcTT.intro {ct elt : PySem.Expr} {x : Str} {scope : Scope} {cl : List (Str × Addr)} {Fin : Shared → List Value → List (Addr × Obj) → Prop} {ax : Addr} {its : Array Value} {k : Nat} {news : List (Addr × Obj)} {s₁ : Shared}
    (hh : A.handled = none) (F : Fr h₀ L s₁.heap m) (N : News h₀ L s₁.heap news) (hm : (ax, ({ cls := .type "tuple", data := .seq its k } : Obj)) ∈ news) (hsz : its.size ≤ sizeLine)
    (h : ∀ g, CompRestT prog w A h₀ L m env ct elt x scope cl { s₁ with heap := g } (fun nw => (ax, ({ cls := .type "tuple", data := .seq its k } : Obj)) ∈ nw) (fun i v => its[i]? = some v) (Fin { s₁ with heap := g }) its.size 0 [] news) :
    SrcTT prog w A h₀ L m env ct elt x scope cl Fin (.ref ax) s₁ := ⟨ax, its, k, news, rfl, hh, F, N, hm, hsz, h⟩
theorem ListComp_TT {ct elt iter : PySem.Expr} {x : Str} {px : Pos} {scope : Scope} {cl : List (Str × Addr)} {pos : Pos} {Q : Value → Shared → Prop} (F₀ : Fr h₀ L s.heap m)
    (hclos : closureFor scope env = pure cl) (hcell : ∀ y ∈ scope.names, y.2 ≠ .cell) (hkind : scope.kind = .function)
    (hnames : ∀ y ∈ scope.names, y.2 = .local → scope.names.lookup y.1 = some .local) (hx : scope.names.lookup x = some .local)
    (h : wpAny (model prog w) A (eval iter env) (SrcTT prog w A h₀ L m env ct elt x scope cl (fun s₂ => FinE h₀ L m s₂ Q)) E s)
    (hs : ∀ x, foldedSetIterable iter env x = pure x) :
    wpAny (model prog w) A (eval (.ListComp elt [⟨.Name x px, iter, [ct], 0⟩] scope pos) env) Q E s := by
  rw [eval_ListComp]
  refine wpAny_comprehension_free (use := none) rfl hs hclos hkind hnames (wpAny_mono h (fun xv s₁ h₁ => ?_) fun _ _ e => e)
  obtain ⟨ax, its, k, news, rfl, hh, F, N, hm, hsz, R⟩ := h₁
  have hl : s₁.heap.IsTuple ax its := ⟨_, (N _ hm).1, rfl, _, rfl⟩
  have hlt : ax < s₁.heap.objs.size := Heap.lt_size (N _ hm).1
  refine wpAny_pyIter_tuple hl ?_
  have up : ∀ b o, s₁.heap.get? b = some o → (s₁.heap.push { cls := .type "tuple_iterator", data := .fields #[.ref ax, .int 0 0] }).get? b = some o := fun b o e => Heap.get?_push_of_some _ e
  refine block_T (Walks.tuple hh s₁.heap.objs.size ax (Nat.ne_of_lt hlt) its) hsz (fun i h st => by obtain ⟨o, e, _⟩ := st.1; exact ⟨o, e⟩)
    (fun i h h' o nw st e e' _ N' S => ⟨by obtain ⟨o', q, r⟩ := st.1; rw [e] at q; cases q; exact ⟨o, e', r⟩, ⟨_, (N' _ S).1, rfl, _, rfl⟩⟩) hcell hkind hx ⟨⟨_, Heap.get?_push_size _ rfl, rfl, rfl⟩, ⟨_, up _ _ (N _ hm).1, rfl, _, rfl⟩⟩ (fun b hb => ?_)
    (F.keeps up) (N.grown up) (Nat.ne_of_lt F.ns.lt) (next_is_new F) (fun p hp => Nat.ne_of_lt (Heap.lt_size (N p hp).1)) hm (R _) ?_
  · show b < (s₁.heap.push _).objs.size
    rw [Heap.size_push]
    rcases List.mem_cons.mp hb with rfl | hb
    · exact Nat.lt_succ_self _
    · rw [List.mem_singleton.mp hb]; exact Nat.lt_succ_of_lt hlt
  · intro D C h' tk m' ys news' F' N' o1 hn hC₀ hD₀ hCL hDL hCD offC fin
    refine ⟨m', hn, fun h'' hs'' => fin D h'' tk (F'.change hs'' hCL hC₀) (fun p hp => ?_) o1⟩
    refine ⟨hs''.extBut _ _ ?_ (N' p hp).1, (N' p hp).2⟩
    rcases List.mem_cons.mp hp with rfl | hp
    · exact Ne.symm hCD
    · exact offC p hp
end
end
section
open PySem PySem.W PyProof.Rows PySem.Spec PySem.Calls LCg LCt
section
variable {M : Model} {A : Around} {E : Value → Shared → Prop} {s : Shared}
noncomputable abbrev cellO : Obj := { cls := .type "cell", data := .cell none }
theorem newEnv_cell {scope : Scope} {cl : List (Str × Addr)} {globals : Addr} {qual x : Str} {env : Env} {builtins : Addr} {Q : Env → Shared → Prop} (hcf : ∀ n, cellsFrom n scope.names cl = (x, n) :: cl) (hpc : ∀ h, pushCells h scope.names = h.push cellO)
    (hQ : Q (newEnv scope s.heap.objs.size globals ((x, s.heap.objs.size + 1) :: cl) qual none .none (some env) builtins) { s with heap := (s.heap.push { cls := .type "dict", data := .dict #[] }).push cellO }) :
    wpAny M A (newFunctionEnv scope globals cl [] qual none .none (some env) builtins) Q E s := by
  simp only [newFunctionEnv, Option.isSome_some, if_true]
  refine wpAny_bind (wpAny_alloc ?_)
  refine wpAny_bind (wpAny_layCells _ (fun name kind cells => by cases hkc : kind == NameKind.cell <;> simp [hkc]) _ _ _ _ ?_)
  rw [hcf, hpc]
  refine wpAny_bind ?_
  rw [List.forIn_nil]
  refine wpAny_pure (wpAny_pure ?_)
  simpa [newEnv, Heap.size_push] using hQ
end
section
variable {prog : Program} {w : World} {A : Around} {E : Value → Shared → Prop} {s : Shared} {h₀ : Heap} {L : Addr} {m : Str → Option Value} {env : Env}
theorem news_c {h₀ h : Heap} {L a : Addr} {o : Obj} {l : List (Addr × Obj)} (h1 : h.get? a = some o) (h2 : a ≠ L ∧ h₀.get? a = none) (N : News h₀ L h l) : News h₀ L h ((a, o) :: l) := fun p hp => by
  rcases List.mem_cons.mp hp with rfl | hp
  · exact ⟨h1, h2⟩
  · exact N p hp
theorem news_k {h₀ h h' : Heap} {L : Addr} {l : List (Addr × Obj)} (N : News h₀ L h l) (hk : ∀ p ∈ l, ∀ o, h.get? p.1 = some o → h'.get? p.1 = some o) : News h₀ L h' l := fun p hp => ⟨hk p hp _ (N p hp).1, (N p hp).2⟩
noncomputable abbrev rgO (i n : Nat) : Obj := { cls := .type "range_iterator", dict := none, data := .fields #[rawInt (0 + (i : Nat) * 1), rawInt ((n : Int) - (i : Nat)), rawInt 1], slots := #[] }
theorem rgO0 (n : Nat) : rgO 0 n = { cls := .type "range_iterator", data := .fields #[rawInt 0, rawInt (n : Int), rawInt 1] } := by simp [rgO]
noncomputable abbrev Kept (h₀ : Heap) (L : Addr) (m : Str → Option Value) (news : List (Addr × Obj)) (s₁ s₄ : Shared) : Prop := ∃ h' tk', s₄ = { s₁ with heap := h', toks := tk' } ∧ Fr h₀ L h' m ∧ News h₀ L h' news
structure EndElt (h₀ : Heap) (L : Addr) (m : Str → Option Value) (news : List (Addr × Obj)) (s₁ : Shared) (z : Int) (y : Value) (s₄ : Shared) : Prop where
  e : ∃ t', y = .int z t'
  k : Kept h₀ L m news s₁ s₄
theorem monoElt {M : Model} {A : Around} {T : Sem Value} {E : Value → Shared → Prop} {s : Shared} {h₀ : Heap} {L : Addr} {m : Str → Option Value} {news : List (Addr × Obj)} {s₁ : Shared} {z : Int} {Q : Value → Shared → Prop} (x : wpAny M A T (EndElt h₀ L m news s₁ z) E s)
    (k : ∀ t h' tk', Fr h₀ L h' m → News h₀ L h' news → Q (.int z t) { s₁ with heap := h', toks := tk' }) : wpAny M A T Q E s := by
  refine wpAny_mono x ?_ fun _ _ e => e
  rintro _ _ ⟨⟨t, rfl⟩, h', tk', rfl, a, b⟩; exact k t h' tk' a b
inductive SrcC (prog : Program) (w : World) (A : Around) (h₀ : Heap) (L : Addr) (m : Str → Option Value) (env : Env) (elt : PySem.Expr) (x : Str) (scope : Scope) (cl : List (Str × Addr)) (Q : Value → Shared → Prop) : Value → Shared → Prop
  | mk : ∀ s₁ r (n : Nat) t u v news (f : Nat → Int), A.handled = none → Fr h₀ L s₁.heap m → News h₀ L s₁.heap news → IsRange s₁.heap r 0 (n : Int) 1 t u v → Builtin.Range.small 0 (n : Int) 1 = true → Builtin.Range.rangeSize 0 (n : Int) 1 = (n : Int) → n ≤ sizeLine →
  (∀ I D C K : Addr, (∀ p ∈ news, @LT.lt Nat _ p.1 I) → @LT.lt Nat _ I D → @LT.lt Nat _ D C → @LT.lt Nat _ C K →
    (∀ (i : Nat) oI oC oK us tv h tk E', i < n → oK.data = .cell (some (.int (i : Int) tv)) → Fr h₀ L h m → News h₀ L h ((K, oK) :: (I, oI) :: (C, oC) :: (D, lst us) :: news) →
       wpAny (model prog w) A (eval elt (compEnvC scope ((x, K) :: cl) C env)) (EndElt h₀ L m ((K, oK) :: (I, oI) :: (C, oC) :: (D, lst us) :: news) s₁ (f i)) E' { s₁ with heap := h, toks := tk }) ∧
    (∀ us h tk, IntsAre us ((List.range n).map f) → Fr h₀ L h m → News h₀ L h ((D, lst us) :: news) → Q (.ref D) { s₁ with heap := h, toks := tk })) → SrcC prog w A h₀ L m env elt x scope cl Q (.ref r) s₁
inductive StC (s₁ : Shared) (h₀ : Heap) (L : Addr) (m : Str → Option Value) (news : List (Addr × Obj)) (f : Nat → Int) (n : Nat) (I D C K : Addr) : Nat → Shared → Prop
  | mk : ∀ h' tk i us oC oK v0, i ≤ n → h'.get? I = some (rgO i n) → h'.get? C = some oC → NsObj oC (fun _ => none) → h'.get? K = some oK → oK.data = .cell v0 → h'.get? D = some (lst us) → Fr h₀ L h' m → News h₀ L h' news → IntsAre us ((List.range i).map f) → StC s₁ h₀ L m news f n I D C K (n + 1 - i) ⟨h', s₁.gens, s₁.drawn, tk, s₁.os⟩
theorem ListComp_C {elt iter : PySem.Expr} {x : Str} {px : Pos} {scope : Scope} {cl : List (Str × Addr)} {pos : Pos} {Q : Value → Shared → Prop} (F₀ : Fr h₀ L s.heap m)
    (hclos : closureFor scope env = pure cl) (hkind : scope.kind = .function) (hnames : ∀ y ∈ scope.names, y.2 = .local → scope.names.lookup y.1 = some .local) (hx : (relabel scope env).names.lookup x = some .cell)
    (hcf : ∀ n, cellsFrom n scope.names cl = (x, n) :: cl) (hpc : ∀ h, pushCells h scope.names = h.push cellO)
    (h : wpAny (model prog w) A (eval iter env) (SrcC prog w A h₀ L m env elt x scope cl Q) E s)
    (hs : ∀ x, foldedSetIterable iter env x = pure x) :
    wpAny (model prog w) A (eval (.ListComp elt [⟨.Name x px, iter, [], 0⟩] scope pos) env) Q E s := by
  rw [eval_ListComp]
  refine wpAny_comprehension_free (use := none) rfl hs hclos hkind hnames (wpAny_mono h (fun xv s₁ h₁ => ?_) fun _ _ e => e)
  obtain ⟨s₁, r, n, t, u, v, news, f, hh, F, N, hr, hsm, hn, hsz, R⟩ := h₁
  refine wpAny_pyIter_range hr hsm ?_
  rw [hn]
  refine wpAny_newObj_type (newEnv_cell hcf hpc ?_)
  dsimp only
  generalize hI : s₁.heap.objs.size = I
  generalize hg1 : s₁.heap.push _ = g1
  have e1 : g1.objs.size = I + 1 := by rw [← hg1, Heap.size_push, hI]
  generalize hD : g1.objs.size = D
  generalize hg2 : g1.push _ = g2
  have e2 : g2.objs.size = D + 1 := by rw [← hg2, Heap.size_push, hD]
  generalize hC : g2.objs.size = C
  generalize hg3 : (g2.push _) = g3
  have e3 : g3.objs.size = C + 1 := by rw [← hg3, Heap.size_push, hC]
  generalize hg4 : (g3.push _) = g4
  have d1 : @LT.lt Nat _ I D := by rw [← hD, e1]; exact Nat.lt_succ_self _
  have d2 : @LT.lt Nat _ D C := by rw [← hC, e2]; exact Nat.lt_succ_self _
  have d3 : @LT.lt Nat _ C (C + 1) := Nat.lt_succ_self _
  have dn : ∀ p ∈ news, @LT.lt Nat _ p.1 I := fun p hp => hI ▸ Heap.lt_size (N p hp).1
  have RR := R I D C (C + 1) dn d1 d2 d3
  clear R
  have k1 : ∀ b o, s₁.heap.get? b = some o → g1.get? b = some o := fun b o e => hg1 ▸ Heap.get?_push_of_some _ e
  have k2 : ∀ b o, g1.get? b = some o → g2.get? b = some o := fun b o e => hg2 ▸ Heap.get?_push_of_some _ e
  have k3 : ∀ b o, g2.get? b = some o → g3.get? b = some o := fun b o e => hg3 ▸ Heap.get?_push_of_some _ e
  have k4 : ∀ b o, g3.get? b = some o → g4.get? b = some o := fun b o e => hg4 ▸ Heap.get?_push_of_some _ e
  have hLI : @LT.lt Nat _ L I := hI ▸ F.ns.lt
  have fresh : ∀ a, @LE.le Nat _ I a → a ≠ L ∧ h₀.get? a = none := fun a ha => ⟨Nat.ne_of_gt (Nat.lt_of_lt_of_le hLI ha), by
    cases e : h₀.get? a with
    | none => rfl
    | some o' => exact absurd (Heap.lt_size (F.keep a o' e)) (Nat.not_lt.mpr (hI ▸ ha))⟩
  have i1 : g1.get? I = some (rgO 0 n) := by rw [rgO0, ← hg1, ← hI]; exact Heap.get?_push_size _ rfl
  have i2 : g2.get? D = some (lst []) := hg2 ▸ hD ▸ Heap.get?_push_size _ rfl
  have i3 : g3.get? C = some _ := hg3 ▸ hC ▸ Heap.get?_push_size _ rfl
  have i4 : g4.get? (C + 1) = some cellO := by rw [← e3, ← hg4]; exact Heap.get?_push_size _ rfl
  have iC : NsObj { cls := .type "dict", data := .dict #[] } (fun _ => none) := ⟨#[], _, rfl, fun _ h => by simp at h, fun _ => rfl⟩
  have F4 : Fr h₀ L g4 m := F.keeps fun b o e => k4 _ _ (k3 _ _ (k2 _ _ (k1 _ _ e)))
  have N4 : News h₀ L g4 news := news_k N fun p _ o e => k4 _ _ (k3 _ _ (k2 _ _ (k1 _ _ e)))
  have j1 := k4 _ _ (k3 _ _ (k2 _ _ i1))
  have j2 := k4 _ _ (k3 _ _ i2)
  have j3 := k4 _ _ i3
  have cI := fresh I (Nat.le_refl _)
  have cD := fresh D (Nat.le_of_lt d1)
  have cC := fresh C (Nat.le_of_lt (Nat.lt_trans d1 d2))
  have cK := fresh (C + 1) (Nat.le_of_lt (Nat.lt_trans d1 (Nat.lt_trans d2 d3)))
  clear hg1 hg2 hg3 hg4 e1 e2 e3 hD hC hI k1 k2 k3 k4 i1 i2 i3 F N fresh hr hsm hn
  have W := range_walks (prog := prog) (w := w) (I := I) hh 0 n
  have nI : ∀ p ∈ news, p.1 ≠ I := fun p hp => Nat.ne_of_lt (dn p hp)
  have nD : ∀ p ∈ news, p.1 ≠ D := fun p hp => Nat.ne_of_lt (Nat.lt_trans (dn p hp) d1)
  have nC : ∀ p ∈ news, p.1 ≠ C := fun p hp => Nat.ne_of_lt (Nat.lt_trans (dn p hp) (Nat.lt_trans d1 d2))
  have nK : ∀ p ∈ news, p.1 ≠ C + 1 := fun p hp => Nat.ne_of_lt (Nat.lt_trans (dn p hp) (Nat.lt_trans d1 (Nat.lt_trans d2 d3)))
  have nID : @Ne Nat I D := Nat.ne_of_lt d1
  have nIC : @Ne Nat I C := Nat.ne_of_lt (Nat.lt_trans d1 d2)
  have nIK : @Ne Nat I (C + 1) := Nat.ne_of_lt (Nat.lt_trans d1 (Nat.lt_trans d2 d3))
  have nDC : @Ne Nat D C := Nat.ne_of_lt d2
  have nDK : @Ne Nat D (C + 1) := Nat.ne_of_lt (Nat.lt_trans d2 d3)
  have nCK : @Ne Nat C (C + 1) := Nat.ne_of_lt d3
  clear dn d1 d2 d3
  have loop : codeAny (model prog w) A (.compLoop (.ListComp elt [⟨.Name x px, iter, [], 0⟩] scope pos) 0 (.ref I) (.ref D) (compEnvC scope ((x, C + 1) :: cl) C env))
      (compPost (model prog w) A E none Q (.ref D) C) ⟨g4, s₁.gens, s₁.drawn, s₁.toks, s₁.os⟩ := by
    refine codeAny_compLoop_tests (StC s₁ h₀ L m news f n I D C (C + 1)) ?_ (n + 1) (.mk g4 _ 0 [] _ _ none (Nat.zero_le _) j1 j3 iC i4 rfl j2 F4 N4 .nil)
    clear F4 N4 j1 j2 j3 i4 iC
    rintro _ _ ⟨h', tk, i, us, oC, oK, v0, hi, aI, aC, hoC, aK, hoK, aD, F', N', hus⟩
    by_cases hlt : i < n
    · refine W.item i _ _ _ hlt aI fun v h₂ tk₂ hPv hst₂ hk₂ => ?_
      obtain ⟨tv, rfl⟩ := hPv
      have q2 : ∀ b o, b ≠ I → h'.get? b = some o → h₂.get? b = some o := fun b o x e => hk₂ b o (by simpa using x) e
      refine wpAny_assign_Name (wpAny_storeName_cell (by simp [compEnvC, relabel, hkind]) hx (by simp [compEnvC, List.lookup]) ⟨oK, q2 _ _ (Ne.symm nIK) aK, hoK⟩ fun h₃ hv₃ hs₃ => ?_)
      obtain ⟨oK3, ho3, hd3⟩ := hv₃
      rw [Int.zero_add] at hd3
      have F₃ : Fr h₀ L h₃ m := (fr_but F' hk₂ (Ne.symm cI.1) cI.2).change hs₃ cK.1 cK.2
      have N₃ := news_c ho3 cK (news_c (hs₃.extBut _ _ nIK hst₂) cI (news_c (hs₃.extBut _ _ nCK (q2 _ _ (Ne.symm nIC) aC)) cC (news_c (hs₃.extBut _ _ nDK (q2 _ _ (Ne.symm nID) aD)) cD (news_k N' fun p hp o e => hs₃.extBut _ _ (nK p hp) (q2 _ _ (nI p hp) e)))))
      refine wpAny_tests_nil ?_
      simp only [if_true]
      refine monoElt (RR.1 i _ oC oK3 us tv h₃ tk₂ _ hlt hd3 F₃ N₃) fun t' h₄ tk₄ F₄ N₄ => ?_
      have yK := (N₄ _ List.mem_cons_self).1
      have yI := (N₄ _ (List.mem_cons_of_mem _ List.mem_cons_self)).1
      have yC := (N₄ _ (List.mem_cons_of_mem _ (List.mem_cons_of_mem _ List.mem_cons_self))).1
      have yD := (N₄ _ (List.mem_cons_of_mem _ (List.mem_cons_of_mem _ (List.mem_cons_of_mem _ List.mem_cons_self)))).1
      refine append_at (hsz := by show us.toArray.size ≤ sizeLine; rw [List.size_toArray, hus.length, List.length_map, List.length_range]; exact Nat.le_trans hi hsz) yD fun h₅ hs₅ hD₅ => ?_
      exact ⟨_, stepLt hlt, .mk h₅ tk₄ (i + 1) (us ++ [.int (f i) t']) oC oK3 _ hlt (hs₅.extBut _ _ nID yI) (hs₅.extBut _ _ (Ne.symm nDC) yC) hoC (hs₅.extBut _ _ (Ne.symm nDK) yK) hd3 (hD₅.trans (congrArg some (lst_snoc us _))) (F₄.change hs₅ cD.1 cD.2)
        (news_k (fun p hp => N₄ p (List.mem_cons_of_mem _ (List.mem_cons_of_mem _ (List.mem_cons_of_mem _ (List.mem_cons_of_mem _ hp))))) fun p hp o e => hs₅.extBut _ _ (nD p hp) e) (by rw [List.range_succ, List.map_append]; exact IntsAre.append hus (.cons _ _ .nil))⟩
    · obtain rfl : i = n := Nat.le_antisymm hi (Nat.not_lt.mp hlt)
      refine W.done _ _ _ aI fun h₂ tk₂ hk₂ => ?_
      have q2 : ∀ b o, b ≠ I → h'.get? b = some o → h₂.get? b = some o := fun b o x e => hk₂ b o (by simpa using x) e
      have F₂ : Fr h₀ L h₂ m := fr_but F' hk₂ (Ne.symm cI.1) cI.2
      exact ⟨_, hoC.ns (q2 _ _ (Ne.symm nIC) aC), fun h'' hs'' => RR.2 us h'' tk₂ hus (F₂.change hs'' cC.1 cC.2) (news_c (hs''.extBut _ _ nDC (q2 _ _ (Ne.symm nID) aD)) cD (news_k N' fun p hp o e => hs''.extBut _ _ (nC p hp) (q2 _ _ (nI p hp) e)))⟩
  exact codeAny_compStart_list loop (W.self 0 _ _ _ j1 loop)
end
end
section
open PySem PySem.W PyProof.Rows PySem.Spec PySem.Calls LCg LCt
section
variable {prog : Program} {w : World} {A : Around} {s : Shared} {elt i1 i2 c : PySem.Expr} {t1 t2 : PySem.Expr} {scope : Scope} {pos : Pos} {it acc : Value} {env : Env} {R : Result → Shared → Prop}
noncomputable abbrev e2 (elt t1 i1 t2 i2 c : PySem.Expr) (scope : Scope) (pos : Pos) : PySem.Expr := .ListComp elt [⟨t1, i1, [], 0⟩, ⟨t2, i2, [c], 0⟩] scope pos
theorem turn0 : compTurn (e2 elt t1 i1 t2 i2 c scope pos) 0 it acc env = (standAt i1.pos >>= fun _ => pyNext it >>= fun r => match r with
      | none => pure (.done .next)
      | some v => letOwnedTupleGo t1 it v >>= fun _ => assign t1 env v >>= fun _ =>
        eval i2 env >>= fun x => standAt i2.pos >>= fun _ => foldedSetIterable i2 env x >>= fun x => holding [x] (pyIter x) >>= fun j => runOwn (.compStart (e2 elt t1 i1 t2 i2 c scope pos) 1 j acc env) env >>= fun _ =>
          PySem.again (.compLoop (e2 elt t1 i1 t2 i2 c scope pos) 0 it acc env)) := by rfl
theorem turn1 : compTurn (e2 elt t1 i1 t2 i2 c scope pos) 1 it acc env = (do
      standAt i2.pos
      match ← pyNext it with
      | none => pure (.done .next)
      | some v =>
        letOwnedTupleGo t2 it v
        assign t2 env v
        let mut ok := true
        for c in [c] do
          if ok then ok ← isTrue c env (eval c env)
        if ok then
          (do let _ ← call (.builtin "list.append") [acc, ← eval elt env])
        PySem.again (.compLoop (e2 elt t1 i1 t2 i2 c scope pos) 1 it acc env)) := by rfl
noncomputable abbrev eeR (prog : Program) (w : World) (A : Around) (env : Env) (R : Result → Shared → Prop) : Value → Shared → Prop := notedBy (model prog w) A env fun e s' => R (.error e) s'
theorem loop0 (I : Nat → Shared → Prop)
    (turn : ∀ n s, I n s → wpAny (model prog w) A (pyNext it) (fun r s₁ => match r with
      | none => R (.ok .next) s₁
      | some v => wpAny (model prog w) A (assign t1 env v) (fun _ s₂ => wpAny (model prog w) A (eval i2 env) (fun x s₃ => wpAny (model prog w) A (pyIter x) (fun j s₄ =>
          codeAny (model prog w) A (.compStart (e2 elt t1 i1 t2 i2 c scope pos) 1 j acc env) (fun r s₅ => match r with | .ok _ => ∃ m, m < n ∧ I m s₅ | .error e => cameBackBy (model prog w) A env (eeR prog w A env R) e s₅) s₄)
          (eeR prog w A env R) s₃) (eeR prog w A env R) s₂) (eeR prog w A env R) s₁) (eeR prog w A env R) s)
    (n : Nat) (h : I n s) (ht : ∀ v, letOwnedTupleGo t1 it v = pure ()) (hf : ∀ x, foldedSetIterable i2 env x = pure x) :
    codeAny (model prog w) A (.compLoop (e2 elt t1 i1 t2 i2 c scope pos) 0 it acc env) R s := by
  refine codeAny_loop rfl I (fun n s hI => ?_) n h
  show wpAny _ A ((compTurn (e2 elt t1 i1 t2 i2 c scope pos) 0 it acc env).onRaise (fun x => do noteFrame x env; theTreesLotGoes x)) _ _ s
  refine wpAny_noted ?_
  rw [turn0]
  refine wpAny_bind (wpAny_standAt (wpAny_bind (wpAny_mono (turn n s hI) (fun r s₁ h₁ => ?_) fun _ _ h' => h')))
  cases r with
  | none => exact wpAny_pure h₁
  | some v =>
    refine wpAny_bind (wpAny_of_eq (ht v) ?_)
    refine wpAny_bind (wpAny_mono h₁ (fun _ s₂ h₂ => ?_) fun _ _ h' => h')
    refine wpAny_bind (wpAny_mono h₂ (fun x s₃ h₃ => ?_) fun _ _ h' => h')
    refine wpAny_bind (wpAny_standAt ?_)
    refine wpAny_bind (wpAny_of_eq (hf x) ?_)
    refine wpAny_bind (wpAny_holding (wpAny_mono h₃ (fun j s₄ h₄ => ?_) fun _ _ h' => h'))
    refine wpAny_bind (wpAny_runOwn (codeAny_mono h₄ fun r s₅ h₅ => ?_))
    cases r with
    | error e => exact h₅
    | ok f => exact wpAny_pure ⟨rfl, h₅⟩
theorem loop1 (I : Nat → Shared → Prop)
    (turn : ∀ n s, I n s → wpAny (model prog w) A (pyNext it) (fun r s₁ => match r with
      | none => R (.ok .next) s₁
      | some v => wpAny (model prog w) A (assign t2 env v) (fun _ s₂ => wpAny (model prog w) A (isTrue c env (eval c env)) (fun ok s₃ =>
            if ok = true then wpAny (model prog w) A (eval elt env) (fun x s₄ =>
              wpAny (model prog w) A (call (.builtin "list.append") [acc, x]) (fun _ s₅ => ∃ m, m < n ∧ I m s₅) (eeR prog w A env R) s₄) (eeR prog w A env R) s₃
            else ∃ m, m < n ∧ I m s₃) (eeR prog w A env R) s₂) (eeR prog w A env R) s₁) (eeR prog w A env R) s)
    (n : Nat) (h : I n s) (ht : ∀ v, letOwnedTupleGo t2 it v = pure ()) :
    codeAny (model prog w) A (.compLoop (e2 elt t1 i1 t2 i2 c scope pos) 1 it acc env) R s := by
  refine codeAny_loop rfl I (fun n s hI => ?_) n h
  show wpAny _ A ((compTurn (e2 elt t1 i1 t2 i2 c scope pos) 1 it acc env).onRaise (fun x => do noteFrame x env; theTreesLotGoes x)) _ _ s
  refine wpAny_noted ?_
  rw [turn1]
  refine wpAny_bind (wpAny_standAt (wpAny_bind (wpAny_mono (turn n s hI) (fun r s₁ h₁ => ?_) fun _ _ h' => h')))
  cases r with
  | none => exact wpAny_pure h₁
  | some v =>
    refine wpAny_bind (wpAny_of_eq (ht v) ?_)
    refine wpAny_bind (wpAny_mono h₁ (fun _ s₂ h₂ => wpAny_bind (wpAny_tests_one (wpAny_mono h₂ (fun ok s₃ h₃ => ?_) fun _ _ h' => h'))) fun _ _ h' => h')
    cases ok with
    | false => exact wpAny_pure ⟨rfl, h₃⟩
    | true =>
      exact wpAny_bind (wpAny_bind (wpAny_mono h₃ (fun x s₄ h₄ => wpAny_bind (wpAny_mono h₄ (fun _ s₅ h₅ => wpAny_pure (wpAny_pure ⟨rfl, h₅⟩)) fun _ _ h' => h')) fun _ _ h' => h'))
theorem start1 (h0 : codeAny (model prog w) A (.compLoop (e2 elt t1 i1 t2 i2 c scope pos) 1 it acc env) R s)
    (h : wpAny (model prog w) A (pyIter it) (fun it' s' => codeAny (model prog w) A (.compLoop (e2 elt t1 i1 t2 i2 c scope pos) 1 it' acc env) R s') (eeR prog w A env R) s) :
    codeAny (model prog w) A (.compStart (e2 elt t1 i1 t2 i2 c scope pos) 1 it acc env) R s := by
  refine codeAny_of_tree ?_
  show wpAny _ _ ((compStart (e2 elt t1 i1 t2 i2 c scope pos) 1 it acc env).onRaise (fun x => do noteFrame x env; standAt theWindowsPlace)) _ _ s
  refine wpAny_notedAt ?_
  unfold compStart
  show wpAny _ _ (ask >>= _) _ _ s
  refine wpAny_bind (wpAny_askSetting (wpAny_ite ?_))
  split
  · first
      | exact wpAny_bind (wpAny_pure (wpAny_pure (And.intro rfl h0)))
      | exact wpAny_pure (And.intro rfl h0)
  · first
      | exact wpAny_bind (wpAny_rule (wpAny_bind (wpAny_standAt (wpAny_bind (wpAny_mono h (fun it' s' h' => wpAny_pure (And.intro rfl h')) fun _ _ x => x)))))
      | (refine wpAny_bind (wpAny_rule ?_); show wpAny _ _ (standAt i2.pos >>= _) _ _ s; exact wpAny_bind (wpAny_standAt (wpAny_bind (wpAny_mono h (fun it' s' h' => wpAny_pure (And.intro rfl h')) fun _ _ x => x))))
end
noncomputable def rowC (f : Nat → Nat → Int) (p : Nat → Nat → Bool) (k j : Nat) : List Int := ((List.range j).filter (p k)).map (f k)
noncomputable def allC (f : Nat → Nat → Int) (p : Nat → Nat → Bool) (n2 i : Nat) : List Int := (List.range i).flatMap fun k => rowC f p k n2
theorem rowC_len (f : Nat → Nat → Int) (p : Nat → Nat → Bool) (k j : Nat) : (rowC f p k j).length ≤ j := by
  unfold rowC; rw [List.length_map]; exact Nat.le_trans (List.length_filter_le _ _) (by simp)
theorem allC_len (f : Nat → Nat → Int) (p : Nat → Nat → Bool) (n2 : Nat) : ∀ i, (allC f p n2 i).length ≤ i * n2
  | 0 => Nat.zero_le _
  | i + 1 => by
    unfold allC
    rw [List.range_succ, List.flatMap_append, List.length_append]
    have h1 := allC_len f p n2 i
    have h2 := rowC_len f p i n2
    unfold allC at h1
    rw [Nat.succ_mul]
    simp only [List.flatMap_cons, List.flatMap_nil, List.append_nil]
    omega
theorem allC_succ (f : Nat → Nat → Int) (p : Nat → Nat → Bool) (n2 i : Nat) : allC f p n2 (i + 1) = allC f p n2 i ++ rowC f p i n2 := by
  unfold allC; rw [List.range_succ, List.flatMap_append]; simp
theorem rowC_t {f : Nat → Nat → Int} {p : Nat → Nat → Bool} {k j : Nat} (h : p k j = true) : rowC f p k (j + 1) = rowC f p k j ++ [f k j] := by
  unfold rowC; rw [List.range_succ, List.filter_append, List.map_append]; simp [h]
theorem rowC_f {f : Nat → Nat → Int} {p : Nat → Nat → Bool} {k j : Nat} (h : p k j = false) : rowC f p k (j + 1) = rowC f p k j := by
  unfold rowC; rw [List.range_succ, List.filter_append, List.map_append]; simp [h]
section
variable {prog : Program} {w : World} {A : Around} {E : Value → Shared → Prop} {s : Shared} {h₀ : Heap} {L : Addr} {m : Str → Option Value} {env : Env}
inductive St0 (s₁ : Shared) (h₀ : Heap) (L : Addr) (m : Str → Option Value) (news : List (Addr × Obj)) (F : Nat → List Int) (n1 : Nat) (I D C : Addr) : Nat → Shared → Prop
  | mk : ∀ h' tk i us m' oC, i ≤ n1 → h'.get? I = some (rgO i n1) → h'.get? C = some oC → NsObj oC m' → h'.get? D = some (lst us) → Fr h₀ L h' m → News h₀ L h' news → IntsAre us (F i) → St0 s₁ h₀ L m news F n1 I D C (n1 + 1 - i) ⟨h', s₁.gens, s₁.drawn, tk, s₁.os⟩
inductive St1 (s₁ : Shared) (h₀ : Heap) (L : Addr) (m : Str → Option Value) (news : List (Addr × Obj)) (F : Nat → List Int) (n2 : Nat) (I2 I D C : Addr) (oI : Obj) (kx : Str) (kv : Value) : Nat → Shared → Prop
  | mk : ∀ h' tk j us m' oC, j ≤ n2 → h'.get? I2 = some (rgO j n2) → h'.get? I = some oI → h'.get? C = some oC → NsObj oC m' → m' kx = some kv → h'.get? D = some (lst us) → Fr h₀ L h' m → News h₀ L h' news → IntsAre us (F j) → St1 s₁ h₀ L m news F n2 I2 I D C oI kx kv (n2 + 1 - j) ⟨h', s₁.gens, s₁.drawn, tk, s₁.os⟩
theorem ns_elim {h : Heap} {C : Addr} {m : Str → Option Value} {G : Prop} (x : h.Ns C m) (k : ∀ o, h.get? C = some o → NsObj o m → G) : G := let ⟨o, a, b⟩ := ns_obj x; k o a b
structure EndIter (h₀ : Heap) (L : Addr) (m : Str → Option Value) (news : List (Addr × Obj)) (s₁ : Shared) (n2 : Nat) (y : Value) (s₄ : Shared) : Prop where
  k : Kept h₀ L m news s₁ s₄
  r : ∃ r2 t u v, y = .ref r2 ∧ IsRange s₄.heap r2 0 (n2 : Int) 1 t u v
structure EndTest (h₀ : Heap) (L : Addr) (m : Str → Option Value) (news : List (Addr × Obj)) (s₁ : Shared) (b ok : Bool) (s₄ : Shared) : Prop where
  e : ok = b
  k : Kept h₀ L m news s₁ s₄
theorem monoIter {M : Model} {A : Around} {T : Sem Value} {E : Value → Shared → Prop} {s : Shared} {h₀ : Heap} {L : Addr} {m : Str → Option Value} {news : List (Addr × Obj)} {s₁ : Shared} {n2 : Nat} {Q : Value → Shared → Prop} (x : wpAny M A T (EndIter h₀ L m news s₁ n2) E s)
    (k : ∀ h' tk' r2 t u v, Fr h₀ L h' m → News h₀ L h' news → IsRange h' r2 0 (n2 : Int) 1 t u v → Q (.ref r2) { s₁ with heap := h', toks := tk' }) : wpAny M A T Q E s := by
  refine wpAny_mono x ?_ fun _ _ e => e
  rintro _ _ ⟨⟨h', tk', rfl, a, b⟩, r2, t, u, v, rfl, c⟩; exact k h' tk' r2 t u v a b c
theorem monoTest {M : Model} {A : Around} {T : Sem Bool} {E : Value → Shared → Prop} {s : Shared} {h₀ : Heap} {L : Addr} {m : Str → Option Value} {news : List (Addr × Obj)} {s₁ : Shared} {b : Bool} {Q : Bool → Shared → Prop} (x : wpAny M A T (EndTest h₀ L m news s₁ b) E s)
    (k : ∀ h' tk', Fr h₀ L h' m → News h₀ L h' news → Q b { s₁ with heap := h', toks := tk' }) : wpAny M A T Q E s := by
  refine wpAny_mono x ?_ fun _ _ e => e
  rintro _ _ ⟨rfl, h', tk', rfl, a, b⟩; exact k h' tk' a b
inductive SrcQ (prog : Program) (w : World) (A : Around) (h₀ : Heap) (L : Addr) (m : Str → Option Value) (env : Env) (elt i2 c : PySem.Expr) (kx ix y : Str) (scope : Scope) (cl : List (Str × Addr)) (Q : Flow → Shared → Prop) : Value → Shared → Prop
  | mk : ∀ s₁ r (n1 n2 : Nat) t u v news (f : Nat → Nat → Int) (p : Nat → Nat → Bool), A.handled = none → Fr h₀ L s₁.heap m → News h₀ L s₁.heap news → IsRange s₁.heap r 0 (n1 : Int) 1 t u v →
  (Builtin.Range.small 0 (n1 : Int) 1 = true ∧ Builtin.Range.rangeSize 0 (n1 : Int) 1 = (n1 : Int)) → (Builtin.Range.small 0 (n2 : Int) 1 = true ∧ Builtin.Range.rangeSize 0 (n2 : Int) 1 = (n2 : Int)) → (n1 + 1) * n2 ≤ sizeLine →
  (∀ I D C : Addr, (∀ p ∈ news, @LT.lt Nat _ p.1 I) → @LT.lt Nat _ I D → @LT.lt Nat _ D C →
    (∀ oI oC us h tk E', Fr h₀ L h m → News h₀ L h ((I, oI) :: (C, oC) :: (D, lst us) :: news) → wpAny (model prog w) A (eval i2 (compEnvC scope cl C env)) (EndIter h₀ L m ((I, oI) :: (C, oC) :: (D, lst us) :: news) s₁ n2) E' { s₁ with heap := h, toks := tk }) ∧
    (∀ (k i : Nat) I2 o2 oI oC m₂ us tk1 ti h tk E', k < n1 → i < n2 → @LT.lt Nat _ C I2 → NsObj oC m₂ → m₂ kx = some (.int (k : Int) tk1) → m₂ ix = some (.int (i : Int) ti) → Fr h₀ L h m → News h₀ L h ((I2, o2) :: (I, oI) :: (C, oC) :: (D, lst us) :: news) →
      wpAny (model prog w) A (isTrue c (compEnvC scope cl C env) (eval c (compEnvC scope cl C env))) (EndTest h₀ L m ((I2, o2) :: (I, oI) :: (C, oC) :: (D, lst us) :: news) s₁ (p k i)) E' { s₁ with heap := h, toks := tk }) ∧
    (∀ (k i : Nat) I2 o2 oI oC m₂ us tk1 ti h tk E', k < n1 → i < n2 → p k i = true → @LT.lt Nat _ C I2 → NsObj oC m₂ → m₂ kx = some (.int (k : Int) tk1) → m₂ ix = some (.int (i : Int) ti) → Fr h₀ L h m → News h₀ L h ((I2, o2) :: (I, oI) :: (C, oC) :: (D, lst us) :: news) →
      wpAny (model prog w) A (eval elt (compEnvC scope cl C env)) (EndElt h₀ L m ((I2, o2) :: (I, oI) :: (C, oC) :: (D, lst us) :: news) s₁ (f k i)) E' { s₁ with heap := h, toks := tk }) ∧
    (∀ us h tk, IntsAre us (allC f p n2 n1) → Fr h₀ L h (fun z => if z = y then some (.ref D) else m z) → News h₀ L h ((D, lst us) :: news) → Q .next { s₁ with heap := h, toks := tk })) → SrcQ prog w A h₀ L m env elt i2 c kx ix y scope cl Q (.ref r) s₁
theorem ListComp_2 {elt i1 i2 c : PySem.Expr} {kx ix y : Str} {pk pi py : Pos} {scope : Scope} {cl : List (Str × Addr)} {pos spos : Pos} {Q : Flow → Shared → Prop} (_F₀ : Fr h₀ L s.heap m) (hLe : env.locals = L)
    (hsw : swapsWith (.ListComp elt [⟨.Name kx pk, i1, [], 0⟩, ⟨.Name ix pi, i2, [c], 0⟩] scope pos) (some (.Name y py)) spos.line env = pure true)
    (hclos : closureFor scope env = pure cl) (hcell : ∀ y ∈ scope.names, y.2 ≠ .cell) (hkind : scope.kind = .function) (hnames : ∀ y ∈ scope.names, y.2 = .local → scope.names.lookup y.1 = some .local)
    (hk : scope.names.lookup kx = some .local) (hi : scope.names.lookup ix = some .local) (hki : ¬ kx = ix) (hy : env.kindOf y = some .local) (hp : (env.scope.kind == .class || (env.scope.kind == .module && env.locals != env.globals)) = false)
    (h : wpAny (model prog w) A (eval i1 env) (SrcQ prog w A h₀ L m env elt i2 c kx ix y scope cl Q) E s)
    (hs : ∀ x, foldedSetIterable i1 env x = pure x) (hf : ∀ C x, foldedSetIterable i2 (compEnvC scope cl C env) x = pure x) :
    wpAny (model prog w) A (exec (.Assign [.Name y py] (.ListComp elt [⟨.Name kx pk, i1, [], 0⟩, ⟨.Name ix pi, i2, [c], 0⟩] scope pos) spos) env) Q E s := by
  subst hLe
  rw [exec_Assign_Name_used _ _ _ _ hsw]
  refine wpAny_bind (wpAny_standAt (wpAny_bind ?_))
  show wpAny _ A (do let _ ← comprehension (.ListComp elt [⟨.Name kx pk, i1, [], 0⟩, ⟨.Name ix pi, i2, [c], 0⟩] scope pos) scope env _ (newList []) false (eval i1 env) (some (assign (.Name y py) env))) _ _ s
  refine wpAny_bind (wpAny_mono (wpAny_comprehension_free (use := some (assign (.Name y py) env)) (Q := fun _ s' => Q .next s') rfl hs hclos hkind hnames
    (wpAny_mono h (fun xv s₁ h₁ => ?_) fun _ _ e => e)) (fun _ s' hq => wpAny_pure (wpAny_pure hq)) fun _ _ e => e)
  obtain ⟨s₁, r, n1, n2, t, u, v, news, f, p, hh, F, N, hr, ⟨hsm1, hn1⟩, ⟨hsm2, hn2⟩, hsz, R⟩ := h₁
  refine wpAny_pyIter_range hr hsm1 ?_
  rw [hn1]
  refine wpAny_newObj_type (wpAny_newFunctionEnv hcell (by intro y hy; simp at hy) (fun g4 hns4 hsb4 => ?_) hkind)
  dsimp only at hns4 hsb4 ⊢
  generalize hI : s₁.heap.objs.size = I at *
  generalize hg1 : s₁.heap.push _ = g1 at *
  have e1 : g1.objs.size = I + 1 := by rw [← hg1, Heap.size_push, hI]
  generalize hD : g1.objs.size = D at *
  generalize hg2 : g1.push _ = g2 at *
  have e2 : g2.objs.size = D + 1 := by rw [← hg2, Heap.size_push, hD]
  generalize hC : g2.objs.size = C at *
  have d1 : @LT.lt Nat _ I D := e1 ▸ Nat.lt_succ_self _
  have d2 : @LT.lt Nat _ D C := e2 ▸ Nat.lt_succ_self _
  have dn : ∀ p ∈ news, @LT.lt Nat _ p.1 I := fun p hp => hI ▸ Heap.lt_size (N p hp).1
  have RR := R I D C dn d1 d2
  clear R
  have hLI : @LT.lt Nat _ env.locals I := hI ▸ F.ns.lt
  have fresh : ∀ a, @LE.le Nat _ I a → h₀.get? a = none := fun a ha => by
    cases e : h₀.get? a with
    | none => rfl
    | some o' => exact absurd (Heap.lt_size (F.keep a o' e)) (Nat.not_lt.mpr (hI ▸ ha))
  have kk : ∀ b o, b ≠ C → g2.get? b = some o → g4.get? b = some o := fun b o x e => hsb4.extBut b o x (Heap.get?_push_of_some _ e)
  have k1 : ∀ b o, s₁.heap.get? b = some o → g1.get? b = some o := fun b o e => hg1 ▸ Heap.get?_push_of_some _ e
  have k2 : ∀ b o, g1.get? b = some o → g2.get? b = some o := fun b o e => hg2 ▸ Heap.get?_push_of_some _ e
  have nID : @Ne Nat I D := Nat.ne_of_lt d1
  have nIC : @Ne Nat I C := Nat.ne_of_lt (Nat.lt_trans d1 d2)
  have nDC : @Ne Nat D C := Nat.ne_of_lt d2
  have nI : ∀ p ∈ news, p.1 ≠ I := fun p hp => Nat.ne_of_lt (dn p hp)
  have nD : ∀ p ∈ news, p.1 ≠ D := fun p hp => Nat.ne_of_lt (Nat.lt_trans (dn p hp) d1)
  have nC : ∀ p ∈ news, p.1 ≠ C := fun p hp => Nat.ne_of_lt (Nat.lt_trans (dn p hp) (Nat.lt_trans d1 d2))
  have cI : I ≠ env.locals ∧ h₀.get? I = none := ⟨Nat.ne_of_gt hLI, fresh _ (Nat.le_refl _)⟩
  have cD : D ≠ env.locals ∧ h₀.get? D = none := ⟨Nat.ne_of_gt (Nat.lt_trans hLI d1), fresh _ (Nat.le_of_lt d1)⟩
  have cC : C ≠ env.locals ∧ h₀.get? C = none := ⟨Nat.ne_of_gt (Nat.lt_trans hLI (Nat.lt_trans d1 d2)), fresh _ (Nat.le_of_lt (Nat.lt_trans d1 d2))⟩
  have aI0 : g4.get? I = some (rgO 0 n1) := kk _ _ nIC (k2 _ _ (by rw [rgO0, ← hg1, ← hI]; exact Heap.get?_push_size _ rfl))
  have aD0 : g4.get? D = some (lst []) := kk _ _ nDC (hg2 ▸ hD ▸ Heap.get?_push_size _ rfl)
  have F4 : Fr h₀ env.locals g4 m := (F.keeps fun b o e => Heap.get?_push_of_some _ (k2 _ _ (k1 _ _ e))).change hsb4 cC.1 cC.2
  have N4 : News h₀ env.locals g4 news := news_k N fun p hp o e => kk _ _ (nC p hp) (k2 _ _ (k1 _ _ e))
  obtain ⟨oC0, aC0, hoC0⟩ := ns_obj hns4
  clear kk k1 k2 hg1 hg2 e1 e2 hI hD hC hsb4 hns4 hr
  have W := range_walks (prog := prog) (w := w) (I := I) hh 0 n1
  have loop : codeAny (model prog w) A (.compLoop (Mine.e2 elt (.Name kx pk) i1 (.Name ix pi) i2 c scope pos) 0 (.ref I) (.ref D) (compEnvC scope cl C env)) (compPost (model prog w) A E (some (assign (.Name y py) env)) (fun _ s' => Q .next s') (.ref D) C) ⟨g4, s₁.gens, s₁.drawn, s₁.toks, s₁.os⟩ := by
    refine loop0 (St0 s₁ h₀ env.locals m news (allC f p n2) n1 I D C) ?_ (n1 + 1) (.mk g4 _ 0 [] _ oC0 (Nat.zero_le _) aI0 aC0 hoC0 aD0 F4 N4 .nil) (by intro _; rfl) (hf C)
    rintro _ _ ⟨h', tk, i, us, m', oC, hin, aI, aC, hoC, aD, F', N', hus⟩
    by_cases hlt : i < n1
    · refine W.item i _ _ _ hlt aI fun v h₂ tk₂ hPv hst₂ hk₂ => ?_
      obtain ⟨tk1, rfl⟩ := hPv
      rw [Int.zero_add]
      have q2 : ∀ b o, b ≠ I → h'.get? b = some o → h₂.get? b = some o := fun b o x e => hk₂ b o (by simpa using x) e
      refine wpAny_assign_Name (wpAny_storeName_local (lookup_relabel_local hk) ((hoC.ns aC).at' fun o e => q2 _ o (Ne.symm nIC) e) (fun h₃ hn₃ hs₃ => ?_) (by simp [compEnvC, relabel, hkind]))
      refine ns_elim hn₃ fun oC3 aC3 hoC3 => ?_
      have F₃ : Fr h₀ env.locals h₃ m := (fr_but F' hk₂ (Nat.ne_of_lt hLI) cI.2).change hs₃ cC.1 cC.2
      have N₃ : News h₀ env.locals h₃ news := news_k N' fun p hp o e => hs₃.extBut _ _ (nC p hp) (q2 _ _ (nI p hp) e)
      refine monoIter (RR.1 (rgO (i + 1) n1) oC3 us h₃ _ _ F₃ (news_c (hs₃.extBut _ _ nIC hst₂) cI (news_c aC3 cC (news_c (hs₃.extBut _ _ nDC (q2 _ _ (Ne.symm nID) aD)) cD N₃)))) fun h₄ tk₄ r2 t2 u2 v2 F₄ N₄ hr2 => ?_
      refine wpAny_pyIter_range hr2 hsm2 ?_
      rw [hn2]
      dsimp only
      generalize hI2 : h₄.objs.size = I2
      have up : ∀ b o, h₄.get? b = some o → (h₄.push { cls := .type "range_iterator", data := .fields #[rawInt 0, rawInt (n2 : Int), rawInt 1] }).get? b = some o := fun b o e => Heap.get?_push_of_some _ e
      have aI2 : (h₄.push { cls := .type "range_iterator", data := .fields #[rawInt 0, rawInt (n2 : Int), rawInt 1] }).get? I2 = some (rgO 0 n2) := by rw [rgO0, ← hI2]; exact Heap.get?_push_size _ rfl
      generalize (h₄.push { cls := .type "range_iterator", data := .fields #[rawInt 0, rawInt (n2 : Int), rawInt 1] }) = g5 at up aI2 ⊢
      have zI := N₄ (I, _) List.mem_cons_self
      have zC := N₄ (C, _) (List.mem_cons_of_mem _ List.mem_cons_self)
      have zD := N₄ (D, _) (List.mem_cons_of_mem _ (List.mem_cons_of_mem _ List.mem_cons_self))
      have z3 : ∀ p ∈ news, p ∈ (I, rgO (i + 1) n1) :: (C, oC3) :: (D, lst us) :: news := fun p hp => List.mem_cons_of_mem _ (List.mem_cons_of_mem _ (List.mem_cons_of_mem _ hp))
      have dC2 : @LT.lt Nat _ C I2 := hI2 ▸ Heap.lt_size zC.1
      have n2I : @Ne Nat I2 I := Nat.ne_of_gt (hI2 ▸ Heap.lt_size zI.1)
      have n2C : @Ne Nat I2 C := Nat.ne_of_gt dC2
      have n2D : @Ne Nat I2 D := Nat.ne_of_gt (hI2 ▸ Heap.lt_size zD.1)
      have n2n : ∀ p ∈ news, p.1 ≠ I2 := fun p hp => Nat.ne_of_lt (hI2 ▸ Heap.lt_size (N₄ p (z3 p hp)).1)
      have c2 : I2 ≠ env.locals ∧ h₀.get? I2 = none := ⟨Nat.ne_of_gt (Nat.lt_trans hLI (Nat.lt_trans d1 (Nat.lt_trans d2 dC2))), fresh _ (Nat.le_of_lt (Nat.lt_trans d1 (Nat.lt_trans d2 dC2)))⟩
      have W2 := range_walks (prog := prog) (w := w) (I := I2) hh 0 n2
      have inner : codeAny (model prog w) A (.compLoop (Mine.e2 elt (.Name kx pk) i1 (.Name ix pi) i2 c scope pos) 1 (.ref I2) (.ref D) (compEnvC scope cl C env))
          (fun r s₅ => match r with | .ok _ => (∃ q, q < n1 + 1 - i ∧ St0 s₁ h₀ env.locals m news (allC f p n2) n1 I D C q s₅) | .error e => cameBackBy (model prog w) A (compEnvC scope cl C env) (eeR prog w A (compEnvC scope cl C env) (compPost (model prog w) A E (some (assign (.Name y py) env)) (fun _ s' => Q .next s') (.ref D) C)) e s₅) ⟨g5, s₁.gens, s₁.drawn, tk₄, s₁.os⟩ := by
        refine loop1 (St1 s₁ h₀ env.locals m news (fun j => allC f p n2 i ++ rowC f p i j) n2 I2 I D C (rgO (i + 1) n1) kx (.int (i : Int) tk1)) ?_ (n2 + 1)
          (.mk g5 _ 0 us _ oC3 (Nat.zero_le _) aI2 (up _ _ zI.1) (up _ _ zC.1) hoC3 (if_pos rfl) (up _ _ zD.1) (F₄.keeps up) (news_k (fun p hp => N₄ p (z3 p hp)) fun p _ o e => up _ _ e) (by rw [show rowC f p i 0 = [] from rfl, List.append_nil]; exact hus)) (by intro _; rfl)
        clear hus hoC aC aI aD F' N' hst₂ hk₂ q2 hn₃ hs₃ aC3 hoC3 F₃ N₃ F₄ N₄ hr2 up aI2 zI zC zD z3
        rintro _ _ ⟨h', tk, j, us, m', oC, hjn, a2, aI, aC, hoC, hmk, aD, F', N', hus⟩
        by_cases hj : j < n2
        · refine W2.item j _ _ _ hj a2 fun v h₂ tk₂ hPv hst₂ hk₂ => ?_
          obtain ⟨ti, rfl⟩ := hPv
          rw [Int.zero_add]
          have q2 : ∀ b o, b ≠ I2 → h'.get? b = some o → h₂.get? b = some o := fun b o x e => hk₂ b o (by simpa using x) e
          refine wpAny_assign_Name (wpAny_storeName_local (lookup_relabel_local hi) ((hoC.ns aC).at' fun o e => q2 _ o (Ne.symm n2C) e) (fun h₃ hn₃ hs₃ => ?_) (by simp [compEnvC, relabel, hkind]))
          refine ns_elim hn₃ fun oC3 aC3 hoC3 => ?_
          have F₃ : Fr h₀ env.locals h₃ m := (fr_but F' hk₂ (Ne.symm c2.1) c2.2).change hs₃ cC.1 cC.2
          have N₃ : News h₀ env.locals h₃ ((I2, rgO (j + 1) n2) :: (I, rgO (i + 1) n1) :: (C, oC3) :: (D, lst us) :: news) :=
            news_c (hs₃.extBut _ _ n2C hst₂) c2 (news_c (hs₃.extBut _ _ nIC (q2 _ _ (Ne.symm n2I) aI)) cI (news_c aC3 cC (news_c (hs₃.extBut _ _ nDC (q2 _ _ (Ne.symm n2D) aD)) cD (news_k N' fun p hp o e => hs₃.extBut _ _ (nC p hp) (q2 _ _ (n2n p hp) e)))))
          have hmk3 : (fun y => if y = ix then some (Value.int (j : Int) ti) else m' y) kx = some (.int (i : Int) tk1) := by simp only [if_neg hki]; exact hmk
          have hmi3 : (fun y => if y = ix then some (Value.int (j : Int) ti) else m' y) ix = some (.int (j : Int) ti) := if_pos rfl
          refine monoTest (RR.2.1 i j I2 _ _ oC3 _ us tk1 ti h₃ _ _ hlt hj dC2 hoC3 hmk3 hmi3 F₃ N₃) fun h₄ tk₄ F₄ N₄ => ?_
          have z2 := (N₄ (I2, _) List.mem_cons_self).1
          have zI := (N₄ (I, _) (List.mem_cons_of_mem _ List.mem_cons_self)).1
          have zC := (N₄ (C, _) (List.mem_cons_of_mem _ (List.mem_cons_of_mem _ List.mem_cons_self))).1
          have zD := (N₄ (D, _) (List.mem_cons_of_mem _ (List.mem_cons_of_mem _ (List.mem_cons_of_mem _ List.mem_cons_self)))).1
          have zN : News h₀ env.locals h₄ news := fun p hp => N₄ p (List.mem_cons_of_mem _ (List.mem_cons_of_mem _ (List.mem_cons_of_mem _ (List.mem_cons_of_mem _ hp))))
          cases hp : p i j with
          | false =>
            simp only [Bool.false_eq_true, if_false]
            exact ⟨_, stepLt hj, .mk h₄ tk₄ (j + 1) us _ oC3 hj z2 zI zC hoC3 hmk3 zD F₄ zN (by rw [rowC_f hp]; exact hus)⟩
          | true =>
            simp only [if_true]
            refine monoElt (RR.2.2.1 i j I2 _ _ oC3 _ us tk1 ti h₄ _ _ hlt hj hp dC2 hoC3 hmk3 hmi3 F₄ N₄) fun t' h₅ tk₅ F₅ N₅ => ?_
            have y2 := (N₅ (I2, _) List.mem_cons_self).1
            have yI := (N₅ (I, _) (List.mem_cons_of_mem _ List.mem_cons_self)).1
            have yC := (N₅ (C, _) (List.mem_cons_of_mem _ (List.mem_cons_of_mem _ List.mem_cons_self))).1
            have yD := (N₅ (D, _) (List.mem_cons_of_mem _ (List.mem_cons_of_mem _ (List.mem_cons_of_mem _ List.mem_cons_self)))).1
            have yN : News h₀ env.locals h₅ news := fun p hp => N₅ p (List.mem_cons_of_mem _ (List.mem_cons_of_mem _ (List.mem_cons_of_mem _ (List.mem_cons_of_mem _ hp))))
            have hul : us.length ≤ (n1 + 1) * n2 := by
              rw [hus.length, List.length_append]
              have b1 := allC_len f p n2 i
              have b2 := rowC_len f p i j
              have b3 : (i + 1) * n2 ≤ (n1 + 1) * n2 := Nat.mul_le_mul_right _ (Nat.succ_le_succ hin)
              rw [Nat.succ_mul] at b3
              omega
            refine append_at (hsz := by show us.toArray.size ≤ sizeLine; rw [List.size_toArray]; exact Nat.le_trans hul hsz) yD fun h₆ hs₆ hD₆ => ?_
            exact ⟨_, stepLt hj, .mk h₆ _ (j + 1) (us ++ [.int (f i j) t']) _ oC3 hj (hs₆.extBut _ _ n2D y2) (hs₆.extBut _ _ nID yI) (hs₆.extBut _ _ (Ne.symm nDC) yC) hoC3 hmk3 (hD₆.trans (congrArg some (lst_snoc us _))) (F₅.change hs₆ cD.1 cD.2) (news_k yN fun p hp o e => hs₆.extBut _ _ (nD p hp) e)
              (by rw [rowC_t hp, ← List.append_assoc]; exact IntsAre.append hus (.cons _ _ .nil))⟩
        · obtain rfl : j = n2 := Nat.le_antisymm hjn (Nat.not_lt.mp hj)
          refine W2.done _ _ _ a2 fun h₂ tk₂ hk₂ => ?_
          have q2 : ∀ b o, b ≠ I2 → h'.get? b = some o → h₂.get? b = some o := fun b o x e => hk₂ b o (by simpa using x) e
          exact ⟨_, stepLt hlt, .mk h₂ tk₂ (i + 1) us m' oC hlt (q2 _ _ (Ne.symm n2I) aI) (q2 _ _ (Ne.symm n2C) aC) hoC (q2 _ _ (Ne.symm n2D) aD) (fr_but F' hk₂ (Ne.symm c2.1) c2.2) (news_k N' fun p hp o e => q2 _ _ (n2n p hp) e) (by rw [allC_succ]; exact hus)⟩
      exact start1 inner (W2.self 0 _ _ _ aI2 inner)
    · obtain rfl : i = n1 := Nat.le_antisymm hin (Nat.not_lt.mp hlt)
      refine W.done _ _ _ aI fun h₂ tk₂ hk₂ => ?_
      have q2 : ∀ b o, b ≠ I → h'.get? b = some o → h₂.get? b = some o := fun b o x e => hk₂ b o (by simpa using x) e
      have F₂ : Fr h₀ env.locals h₂ m := fr_but F' hk₂ (Nat.ne_of_lt hLI) cI.2
      show wpAny _ A (assign (.Name y py) env (.ref D)) _ _ _
      refine wpAny_assign_Name (wpAny_storeName_local hy F₂.ns (fun h₃ hn₃ hs₃ => ?_) hp)
      have hL₀ : h₀.get? env.locals = none := Heap.get?_none_of_le F₂.above
      have F₃ : Fr h₀ env.locals h₃ (fun z => if z = y then some (.ref D) else m z) := ⟨hn₃, fun b o e => hs₃.extBut b o (fun q => by rw [q, hL₀] at e; cases e) (F₂.keep b o e), F₂.above⟩
      have q3 : ∀ b o, b ≠ env.locals → b ≠ I → h'.get? b = some o → h₃.get? b = some o := fun b o x1 x2 e => hs₃.extBut _ _ x1 (q2 _ _ x2 e)
      refine ⟨_, hoC.ns (q3 _ _ cC.1 (Ne.symm nIC) aC), fun h'' hs'' => RR.2.2.2 us h'' _ hus (F₃.change hs'' cC.1 cC.2) (news_c (hs''.extBut _ _ nDC (q3 _ _ cD.1 (Ne.symm nID) aD)) cD (news_k N' fun p hp o e => hs''.extBut _ _ (nC p hp) (q3 _ _ (N' p hp).2.1 (nI p hp) e)))⟩
  exact codeAny_compStart_list loop (W.self 0 _ _ _ aI0 loop)
end
end
section
open PySem PySem.W PyProof.Rows
set_option compiler.extract_closed false in
set_option compiler.extract_closed false in
set_option compiler.extract_closed false in
noncomputable def othG (z : Str) (g c : Int) : Int := if (z == Str.ofString "=") = true then g else c
noncomputable def chainG (f s2 : Str) (v o g : Int) : Int := if (f == Str.ofString "+") = true then v + o else if (f == Str.ofString "-") = true then v - o else if (s2 == Str.ofString "**") = true then v * v * o else if (f == Str.ofString "*") = true then v * o else if (f == Str.ofString "&") = true then Builtin.bitAnd v o else if (f == Str.ofString "|") = true then Builtin.bitOr v o else if (f == Str.ofString "^") = true then Builtin.bitXor v o else if (f == Str.ofString "~") = true then Builtin.bitNot v else g
noncomputable def stepG (nm : Str) (v g c : Int) : Int := (chainG (Txt.item nm 0) (Txt.slice nm none (some 2)) v (othG (Txt.item nm (-1)) g c) g).fmod 256 - 128
set_option maxRecDepth 100000 in
set_option maxHeartbeats 800000 in
theorem step_c (w : World) (nm : Str) (n : Nat) (v g c : Int) (tn tv tg tc : Tok) (hn : nm.length = n) (h1 : 1 ≤ n) (h3 : n ≤ 3)
    (hv1 : -128 ≤ v) (hv2 : v < 128) (hg1 : 0 ≤ g) (hg2 : g < 8) (hc1 : 0 ≤ c) (hc2 : c < 8) : Con 420 w 104 [.str nm tn, .int v tv, .int g tg, .int c tc] [] (fun _ => True) (RetZ (stepG nm v g c)) := by
  have : Challenge.rw_re0146_01 = Challenge.rw_re0146_01 ∧ hd.heap_39 w.params = hd.heap_39 w.params := by k_fill; exact ⟨rfl, rfl⟩
  clear this
  w_top off
  k_with_none
  (k_with "k_lt" => intro kH; (try replace kH := allLt_of kH); (try replace kH := offs_of kH); (try dsimp only [AllLt, LCg.Off1, LCg.Off3, OffF, OffG, ledT] at kH); repeat (first | (have := And.left (And.left kH); have := And.left (And.right (And.left kH)); have := And.right (And.right (And.left kH)); replace kH := And.right kH) | (have := And.left kH; replace kH := And.right kH)))
  (k_with "lt:kc9" => (try replace kc9 := allLt_of kc9); (try replace kc9 := offs_of kc9); (try dsimp only [AllLt, LCg.Off1, LCg.Off3, OffF, OffG, ledT] at kc9); repeat (first | (have := And.left (And.left kc9); have := And.left (And.right (And.left kc9)); have := And.right (And.right (And.left kc9)); replace kc9 := And.right kc9) | (have := And.left kc9; replace kc9 := And.right kc9)))
  (k_with "k_ne" => refine neN ?_; first | (with_reducible first | assumption | exact Ne.symm (by assumption) | exact Nat.ne_of_lt (by assumption) | exact Ne.symm (Nat.ne_of_lt (by assumption))) | ((try dsimp only); first | ((iterate 2 (first | done | with_reducible (first | exact cN1 _ | exact cN2 _ | exact cN3 _ | exact cL1 (by assumption) | exact cL2 (by assumption) | exact cL3 (by assumption) | exact cL4 (by assumption)) | exact Nat.ne_of_beq_eq_false rfl | refine Ne.symm ?_)); done) | ((iterate 4 (first | done | (with_reducible rename (@Ne Nat _ _) ∧ _ => kc9; (k_extra "lt:kc9"); with_reducible first | assumption | exact Ne.symm (by assumption)) | (with_reducible rename (@Ne Nat _ _) ∧ _ => kc9; clear kc9))); done) | omega))
  (k_with "execs cons" => k_here; (with_reducible rename Fr _ _ _ _ => lF); (let lm := mOf lF); (have F' : Fr _ _ _ lm := lF); (with_reducible refine wpAny_execs_cons ?_); (try k_fold))
  (k_with "exec If" => k_here; refine wpAny_If ?_)
  (k_with "binaryOp Mult int int" => refine PyProof.Rows.mul_int ?_ (by first | exact .of_left (bl1 (by assumption) (by assumption)) | exact .of_right (bl8 (by assumption) (by assumption)) | mul_fits))
  (k_with "subscriptTail Name UnaryOp str int" => k_here; k_dflt (refine itS (by assumption) (nn1 h1) npm (n3 h3) rfl ?_ (by with_unfolding_all rfl) (by intro _; with_unfolding_all rfl)); intro _ _)
  (k_with "subscriptTail Name Constant str int" => k_here; k_dflt (refine itS (by assumption) nn0 (np0 h1) (n3 h3) rfl ?_ (by with_unfolding_all rfl) (by intro _; with_unfolding_all rfl)); intro _ _)
  refine con0L (pre' := fun _ => True) (by k_is) (by k_is) (by decide) (fun _ => BindsTo.of_eq rfl) (locs rfl) (fun _ _ _ _ => trivial) ?_ rfl rfl rfl (by decide)
  intro outer h₀ L h₁ gn dr tk os Q E ee AA G _ F N _ hE hQ
  obtain ⟨A₀, base, B, X, p, loose, mean, mg, mb, T, H⟩ := id G
  iterate 2 (first | (k_unfold; (try dsimp only)) | walk1 | (dsimp only; walk1))
  refine wpAny_mono (Q := EndI (othG (Txt.item nm (-1)) g c) h₁ gn dr os) ?_ ?_ (fun _ _ e => e)
  · k_steps
    · exact ⟨_, _, by rw [othG, if_pos (by assumption)], rfl⟩
    · exact ⟨_, _, by rw [othG, if_neg (by simp [*])], rfl⟩
  rintro _ _ ⟨to, tk', rfl, rfl⟩
  obtain ⟨o, ho, ho1, ho2⟩ : ∃ o, o = othG (Txt.item nm (-1)) g c ∧ 0 ≤ o ∧ o < 8 := ⟨_, rfl, by unfold othG; split <;> assumption, by unfold othG; split <;> assumption⟩
  rw [← ho]
  iterate 3 (first | (k_unfold; (try dsimp only)) | walk1 | (dsimp only; walk1))
  rename Fr _ _ _ _ => F1
  refine wpAny_mono (Q := EndS h₀ L [] (mOf F1) (Str.ofString "value") (chainG (Txt.item nm 0) (Txt.slice nm none (some 2)) v o g) gn dr os) ?_ ?_ (fun _ _ e => e)
  · k_steps
    all_goals (refine ⟨rfl, _, _, _, _, ?_, rfl, by assumption, by assumption⟩; clear hE hQ ho; simp [chainG, *])
  rintro _ _ ⟨rfl, h', tk2, t2, y2, hy2, rfl, F', N'⟩
  k_steps
  exact hQ _ _ _ _ _ ⟨_, by rw [stepG, ← ho, ← hy2], rfl⟩ (by assumption) (by assumption)
end
section
open PySem PySem.W PyProof.Rows PySem.Spec
noncomputable def NamesAre (us : List Value) (ns : List Str) : Prop := us.length = ns.length ∧ ∀ i, i < ns.length → ∃ t, us[i]? = some (.str (ns.getD i (Str.ofString "")) t)
theorem names_of {ln : List (Str × Tok)} {ns : List Str} (h : ln.map (·.1) = ns) : NamesAre (strValues ln) ns := by
  subst h
  refine ⟨by simp [strValues], fun i hi => ?_⟩
  rw [List.length_map] at hi
  refine ⟨(ln[i]).2, ?_⟩
  simp [strValues, List.getD_eq_getElem?_getD, hi]
noncomputable def nmL : List Str := Txt.words (Str.ofString "( ) [ ] : , ; + - * / | & < > = . % { } == != <= >= ~ ^ << >> ** += -= *= /= %= &= |= ^= <<= >>= **= // //= @ @= -> ... := !")
section
variable {prog : Program} {w : World} {A : Around} {E : Value → Shared → Prop} {s : Shared} {h₀ : Heap} {L : Addr} {m : Str → Option Value} {news : List (Addr × Obj)} {value slice : PySem.Expr} {x : Str} {t : Tok} {Q : Value → Shared → Prop}
theorem splitO (F : Fr h₀ L s.heap m) (N : News h₀ L s.heap news) (hsz : x.length + 2 ≤ sizeLine)
    (h : ∀ D us h' k, Fr h₀ L h' m → News h₀ L h' ((D, PySem.W.listOf (List.toArray us) 0) :: news) → (∀ p ∈ news, p.1 < D) → NamesAre us (Txt.words x) → Q (.ref D) { s with heap := h', toks := k }) :
    wpAny (model prog w) A (call (.builtin "str.split") [.str x t]) Q E s :=
  splitN0 F N (fun _ h' k e a b => h _ _ h' k a b (fun p hp => Heap.lt_size (N p hp).1) (names_of e)) hsz
theorem subName {D : Addr} {us : List Value} {ns : List Str} {z : Int} {u : Tok} {c : Nat} (N : News h₀ L s.heap news) (hm : (D, PySem.W.listOf (List.toArray us) c) ∈ news) (hn : NamesAre us ns) (h0 : 0 ≤ z) (h1 : z.toNat < ns.length) (hl : z ≤ 100) (h : ∀ t, Q (.str (ns.getD z.toNat (Str.ofString "")) t) s)
    (hs : subscripted slice false (.ref D) (.int z u) = operate [.ref D, .int z u] (getItem (.ref D) (.int z u))) :
    wpAny (model prog w) A (subscriptTail value slice (.ref D) (.int z u)) Q E s := by
  obtain ⟨t, ht⟩ := hn.2 z.toNat (by omega)
  have hl' := isl_at N hm
  exact tail_any hl'.typeIs slot_list_getitem.lookup (wpAny_getItem_list hl' h0 (by omega) (by simpa using ht) (h t)) hs
theorem subI {D : Addr} {us : List Value} {ns : List Int} {z : Int} {u : Tok} {c : Nat} (N : News h₀ L s.heap news) (hm : (D, PySem.W.listOf (List.toArray us) c) ∈ news) (hi : IntsAre us ns) (h0 : 0 ≤ z) (h1 : z < (ns.length : Int)) (hl : ns.length ≤ 100) (h : ∀ t, Q (.int (ns.getD z.toNat 0) t) s)
    (hs : subscripted slice false (.ref D) (.int z u) = operate [.ref D, .int z u] (getItem (.ref D) (.int z u))) :
    wpAny (model prog w) A (subscriptTail value slice (.ref D) (.int z u)) Q E s := by
  have hlen : z.toNat < us.length := by rw [hi.length]; exact (Int.toNat_lt h0).mpr h1
  obtain ⟨t, ht⟩ : ∃ t, us[z.toNat]? = some (.int (ns.getD z.toNat 0) t) := by
    have e := List.getElem?_eq_getElem hlen
    obtain ⟨k, t, e2, hk⟩ := IntsAre.at hi z.toNat _ e
    refine ⟨t, ?_⟩
    rw [e, e2, List.getD_eq_getElem?_getD, hk]
    rfl
  have hl' := isl_at N hm
  exact tail_any hl'.typeIs slot_list_getitem.lookup (wpAny_getItem_list hl' h0 (by omega) (by simpa using ht) (h t)) hs
end
theorem nm_len (i : Nat) (h : i < 47) : 1 ≤ (nmL.getD i (Str.ofString "")).length ∧ (nmL.getD i (Str.ofString "")).length ≤ 3 := by
  have key : ∀ j : Fin 47, 1 ≤ (nmL.getD j.val (Str.ofString "")).length ∧ (nmL.getD j.val (Str.ofString "")).length ≤ 3 := by decide +kernel
  exact key ⟨i, h⟩
theorem nm_lt {i : Nat} (h : i < 47) : i < nmL.length := by
  have := (nm_len i h).1
  false_or_by_contra
  rename_i hc
  rw [List.getD_eq_getElem?_getD, List.getElem?_eq_none (by omega)] at this
  exact absurd this (by decide +kernel)
theorem zz1 {z : Int} (h : 7 ≤ z ∧ z < 54) : (z - 7).toNat < 47 := (Int.toNat_lt (Int.sub_nonneg_of_le h.1)).mpr (Int.sub_lt_sub_right h.2 7)
theorem zz3 {z : Int} (h : 7 ≤ z ∧ z < 54) : z - 7 ≤ 100 := Int.le_trans (Int.sub_le_sub_right (Int.le_of_lt h.2) 7) (by decide)
theorem zz4 {z : Int} (h : 7 ≤ z ∧ z < 54) : ¬ z = 0 := fun e => absurd (e ▸ h.1) (by decide)
theorem zz5 {z : Int} (h : 7 ≤ z ∧ z < 54) : ¬ 256 ≤ z := Int.not_le.mpr (Int.lt_trans h.2 (by decide))
theorem ww1 {z : Int} (h : 256 ≤ z ∧ z < 264) : ¬ z = 0 := fun e => absurd (e ▸ h.1) (by decide)
theorem ww2 {z : Int} (h : 256 ≤ z ∧ z < 264) : z - 256 < 8 := Int.sub_lt_sub_right h.2 256
theorem lt8 {k : Int} {l : Nat} (h : k < 0 + ((8 : Nat) : Int)) (e : l = 8) : k < (l : Int) := by rw [e]; exact h
theorem le100 {l : Nat} (e : l = 8) : l ≤ 100 := by rw [e]; decide
theorem getD_b {ns : List Int} {i : Nat} (h : ∀ v ∈ ns, -128 ≤ v ∧ v < 128) : -128 ≤ ns.getD i 0 ∧ ns.getD i 0 < 128 := by
  rw [List.getD_eq_getElem?_getD]
  cases e : ns[i]? with
  | none => exact ⟨by decide, by decide⟩
  | some v => exact h v (List.mem_of_getElem? e)
end
section
open PySem PySem.W PyProof.Rows
set_option compiler.extract_closed false in
set_option compiler.extract_closed false in
set_option compiler.extract_closed false in
noncomputable def runF : List Int → List Int → Int → List Int
  | [], vs, _ => vs
  | z :: r, vs, c => if z = 0 then vs else if 256 ≤ z then runF r vs (z - 256) else runF r ((rangeKs 0 8).map fun x => stepG (nmL.getD (z - 7).toNat (Str.ofString "")) (vs.getD x.toNat 0) x c) c
noncomputable def okS (z : Int) : Prop := z = 0 ∨ (256 ≤ z ∧ z < 264) ∨ (7 ≤ z ∧ z < 54)
inductive RJn (DN S C V N : Addr) (nus : List Value) (oN : Obj) (all : List Int) (vs : List Value) (m : Str → Option Value) (news : List (Addr × Obj)) : Prop
  | mk : ∀ rest vals vus DV cv oS oC oV c tc, IntsAre vs rest → (∀ z ∈ rest, okS z) → IntsAre vus vals → vals.length = 8 → (∀ v ∈ vals, -128 ≤ v ∧ v < 128) → 0 ≤ c → c < 8 → runF rest vals c = all → (∃ x, oS.data = .cell x) → oC.data = .cell (some (.int c tc)) → oV.data = .cell (some (.ref DV)) → news = [(DV, PySem.W.listOf (List.toArray vus) cv), (DN, PySem.W.listOf (List.toArray nus) 0), (S, oS), (C, oC), (V, oV), (N, oN)] → (@Ne Nat DV DN ∧ @Ne Nat DV S ∧ @Ne Nat DV C ∧ @Ne Nat DV V ∧ @Ne Nat DV N) → RJn DN S C V N nus oN all vs m news
theorem unrEndS {h₀ h' : Heap} {L I : Addr} {it : Obj} {s₁ : Shared} {tk : Nat} {m' : Str → Option Value} {nw : List (Addr × Obj)} {p q : Addr × Obj} {rest : (Str → Option Value) → List (Addr × Obj) → Prop} (F : Fr h₀ L h' m') (N : News h₀ L h' (p :: (I, it) :: q :: nw)) (hp : @Ne Nat p.1 I) (ho : LCg.Off1 I nw) (r : rest m' (p :: nw)) :
    UnrEnd h₀ L s₁ I it rest { s₁ with heap := h', toks := tk } :=
  .intro F N (p :: nw) (fun x hx => by
    rcases List.mem_cons.mp hx with rfl | hx
    · exact List.mem_cons_of_mem _ List.mem_cons_self
    · rcases List.mem_cons.mp hx with rfl | hx
      · exact List.mem_cons_self
      · exact List.mem_cons_of_mem _ (List.mem_cons_of_mem _ (List.mem_cons_of_mem _ hx))) (fun x hx => by
    rcases List.mem_cons.mp hx with rfl | hx
    · exact hp
    · exact off1_mem ho x hx) r
theorem stepB {nm : Str} {vals : List Int} {c : Int} : ∀ v ∈ (rangeKs 0 8).map (fun x => stepG nm (vals.getD x.toNat 0) x c), -128 ≤ v ∧ v < 128 := by
  intro v hv
  obtain ⟨x, _, rfl⟩ := List.mem_map.mp hv
  unfold stepG
  have h0 := Int.fmod_nonneg_of_pos (chainG (Txt.item nm 0) (Txt.slice nm none (some 2)) (vals.getD x.toNat 0) (othG (Txt.item nm (-1)) x c) x) (show (0 : Int) < 256 by decide)
  have h1 := Int.fmod_lt_of_pos (chainG (Txt.item nm 0) (Txt.slice nm none (some 2)) (vals.getD x.toNat 0) (othG (Txt.item nm (-1)) x c) x) (show (0 : Int) < 256 by decide)
  omega
theorem unrEndT {h₀ h' : Heap} {L I : Addr} {it : Obj} {s₁ : Shared} {tk : Nat} {m' : Str → Option Value} {nw : List (Addr × Obj)} {rest : (Str → Option Value) → List (Addr × Obj) → Prop} (F : Fr h₀ L h' m') (N : News h₀ L h' ((I, it) :: nw)) (ho : LCg.Off1 I nw) (r : rest m' nw) :
    UnrEnd h₀ L s₁ I it rest { s₁ with heap := h', toks := tk } := ⟨h', tk, m', nw, rfl, F, N, off1_mem ho, r⟩
set_option maxRecDepth 100000 in
set_option maxHeartbeats 1200000 in
theorem run_c (w : World) (l : Addr) (us : List Value) (rs : List Int) (hu : IntsAre us rs) (hok : ∀ z ∈ rs, okS z) :
    Con 400 w 109 [.ref l] [] (fun h => h.IsList l us.toArray) (RetN (runF rs [0, 1, 2, 3, 4, 5, 6, 7] 0)) := by
  have : Challenge.rw_re0146_01 = Challenge.rw_re0146_01 ∧ hd.heap_39 w.params = hd.heap_39 w.params := by k_fill; exact ⟨rfl, rfl⟩
  clear this
  w_top off
  k_with_none
  (k_with "k_lt" => intro kH; (try replace kH := allLt_of kH); (try replace kH := offs_of kH); (try dsimp only [AllLt, LCg.Off1, LCg.Off3, OffF, OffG, ledT] at kH); repeat (first | (have := And.left (And.left kH); have := And.left (And.right (And.left kH)); have := And.right (And.right (And.left kH)); replace kH := And.right kH) | (have := And.left kH; replace kH := And.right kH)))
  (k_with "lt:hoff0" => (try replace hoff0 := allLt_of hoff0); (try replace hoff0 := offs_of hoff0); (try dsimp only [AllLt, LCg.Off1, LCg.Off3, OffF, OffG, ledT] at hoff0); repeat (first | (have := And.left (And.left hoff0); have := And.left (And.right (And.left hoff0)); have := And.right (And.right (And.left hoff0)); replace hoff0 := And.right hoff0) | (have := And.left hoff0; replace hoff0 := And.right hoff0)))
  (k_with "lt:l1" => (try replace l1 := allLt_of l1); (try replace l1 := offs_of l1); (try dsimp only [AllLt, LCg.Off1, LCg.Off3, OffF, OffG, ledT] at l1); repeat (first | (have := And.left (And.left l1); have := And.left (And.right (And.left l1)); have := And.right (And.right (And.left l1)); replace l1 := And.right l1) | (have := And.left l1; replace l1 := And.right l1)))
  (k_with "lt:ne'" => (try replace ne' := allLt_of ne'); (try replace ne' := offs_of ne'); (try dsimp only [AllLt, LCg.Off1, LCg.Off3, OffF, OffG, ledT] at ne'); repeat (first | (have := And.left (And.left ne'); have := And.left (And.right (And.left ne')); have := And.right (And.right (And.left ne')); replace ne' := And.right ne') | (have := And.left ne'; replace ne' := And.right ne')))
  (k_with "lt:off'" => (try replace off' := allLt_of off'); (try replace off' := offs_of off'); (try dsimp only [AllLt, LCg.Off1, LCg.Off3, OffF, OffG, ledT] at off'); repeat (first | (have := And.left (And.left off'); have := And.left (And.right (And.left off')); have := And.right (And.right (And.left off')); replace off' := And.right off') | (have := And.left off'; replace off' := And.right off')))
  (k_with "lt:kc9" => (try replace kc9 := allLt_of kc9); (try replace kc9 := offs_of kc9); (try dsimp only [AllLt, LCg.Off1, LCg.Off3, OffF, OffG, ledT] at kc9); repeat (first | (have := And.left (And.left kc9); have := And.left (And.right (And.left kc9)); have := And.right (And.right (And.left kc9)); replace kc9 := And.right kc9) | (have := And.left kc9; replace kc9 := And.right kc9)))
  (k_with "k_ne" => refine neN ?_; first | (with_reducible first | assumption | exact Ne.symm (by assumption) | exact Nat.ne_of_lt (by assumption) | exact Ne.symm (Nat.ne_of_lt (by assumption))) | ((try dsimp only); first | ((iterate 2 (first | done | with_reducible (first | exact cN1 _ | exact cN2 _ | exact cN3 _ | exact cL1 (by assumption) | exact cL2 (by assumption) | exact cL3 (by assumption) | exact cL4 (by assumption)) | exact Nat.ne_of_beq_eq_false rfl | refine Ne.symm ?_)); done) | ((iterate 4 (first | done | (with_reducible rename (@Ne Nat _ _) ∧ _ => kc9; (k_extra "lt:kc9"); with_reducible first | assumption | exact Ne.symm (by assumption)) | (with_reducible rename (@Ne Nat _ _) ∧ _ => kc9; clear kc9))); done) | omega))
  (k_with "execs cons" => k_here; (with_reducible rename Fr _ _ _ _ => lF); (let lm := mOf lF); (have F' : Fr _ _ _ lm := lF); (with_reducible refine wpAny_execs_cons ?_); (try dsimp only); (try k_fold))
  (k_with "call builtin:str.split" => k_here; k_dflt (refine splitO (by k_asm) (by k_asm) (by exact Nat.le_of_ble_eq_true (by with_unfolding_all rfl)) ?_); intro D' us' h' k' F' N' l1 hns'; (try k_extra "lt:l1"))
  (k_with "call type:list" => k_here; (with_unfolding_all refine list8 (by rfl) (by k_asm) (by k_asm) (by assumption) ?_); intro D' vs' c' h' tk' F' N' l1 hI'; (try k_extra "lt:l1"))
  (k_with "exec For Name Name cons nil" => (with_reducible refine Stop.mk ?_))
  refine con1 (pre' := fun h => h.IsList l us.toArray) (by k_is) (by k_is) (by decide) (fun _ => BindsTo.of_eq rfl) (by rfl) (by decide +kernel) (fun _ _ => lift0) ?_ rfl rfl rfl
  intro outer h₀ L h₁ gn dr tk os cells Q E G hl F N l0 Y hE hQ
  obtain ⟨A₀, base, B, X, p, loose, mean, mg, mb, T, H⟩ := id G
  k_cells Y
  (try dsimp only [List.cons_append, List.nil_append] at N)
  k_steps
  rename Fr _ _ _ _ => F1
  rename News _ _ _ _ => N1
  rename NamesAre _ _ => hns
  refine Stop.un (for_own (wpAny_mono (Q := fun xv s₁ => ForSrc PP w _ h₀ _ _ _ _ _ xv s₁) ?src (fun _ _ q => q) (fun _ _ e => e)) (by intro _; with_unfolding_all rfl) (by intro _ _; with_unfolding_all rfl) (by exact hE))
  case src =>
    k_steps
    refine ⟨_, l, us, _, _, rfl, F1, N1, src_of hl, fun I l2 => ⟨RJn _ _ _ _ _ _ _ (runF rs [0, 1, 2, 3, 4, 5, 6, 7] 0), ⟨rs, [0, 1, 2, 3, 4, 5, 6, 7], _, _, _, _, _, _, 0, _, hu, hok, hI', rfl, by decide, by decide, by decide, rfl, ⟨_, by assumption⟩, by assumption, by assumption, rfl, ?_⟩, ?_, ?_⟩⟩
    · exact ⟨by k_ne, by k_ne, by k_ne, by k_ne, by k_ne⟩
    all_goals clear F1 N1
    · rintro m' news' h' tk' ⟨rest, vals, vus, DV, cv, oS, oC, oV, c, tc, hr, hokr, hv, h8, hvb, hc0, hc1, hrun, ⟨xS, hxS⟩, hdC, hdV, rfl, hn1, hn2, hn3, hn4, hn5⟩ F' N'
      cases hr
      k_steps
      exact hQ _ _ _ _ _ ⟨_, _, _, rfl, rfl, by rw [← hrun]; exact hv⟩ (by k_asm) (cb_drop (by k_asm) (by kcj_all))
    · rintro v r m' news' it h' tk' ⟨rest, vals, vus, DV, cv, oS, oC, oV, c, tc, hr, hokr, hv, h8, hvb, hc0, hc1, hrun, ⟨xS, hxS⟩, hdC, hdV, rfl, hn1, hn2, hn3, hn4, hn5⟩ hit F' N' hoff
      obtain ⟨z, zr, tz, rfl, rfl, hzr⟩ : ∃ z zr tz, rest = z :: zr ∧ v = .int z tz ∧ IntsAre r zr := by cases hr with | cons n t h => exact ⟨_, _, _, rfl, rfl, h⟩
      have hoff0 := hoff
      k_extra "lt:hoff0"
      rcases hokr z List.mem_cons_self with hz | hz | hz
      · subst hz
        k_steps
        exact hQ _ _ _ _ _ ⟨_, _, _, rfl, rfl, by rw [← hrun]; exact hv⟩ (by k_asm) (cb_drop (by k_asm) (by kcj_all))
      · have hz0 : ¬ z = 0 := ww1 hz
        k_steps
        · first | exact hz.1 | omega
        rename News _ _ _ _ => N9
        exact unrEndT (by k_asm) N9 hoff ⟨src_of hl, zr, vals, vus, DV, cv, _, _, _, z - 256, _, hzr, fun q hq => hokr q (List.mem_cons_of_mem _ hq), hv, h8, hvb, Int.sub_nonneg_of_le hz.1, ww2 hz, by rw [← hrun]; simp only [runF, if_neg hz0, if_pos hz.1], ⟨_, by assumption⟩, by assumption, hdV, rfl, hn1, hn2, hn3, hn4, hn5⟩
      · have hz0 : ¬ z = 0 := zz4 hz
        have hz1 : ¬ 256 ≤ z := zz5 hz
        have hn1 := nm_len (z - 7).toNat (zz1 hz)
        (k_with "subscriptTail Name BinOp ref int" => k_here; k_dflt (refine subName (by k_asm) (by k_mem) hns (Int.sub_nonneg_of_le hz.1) (nm_lt (zz1 hz)) (zz3 hz) ?_ (by with_unfolding_all rfl)); intro _)
        (k_with "subscriptTail Name Name ref int" => k_here; k_dflt (refine subI (by k_asm) (by k_mem) hv (by assumption) (lt8 (by assumption) h8) (le100 h8) ?_ (by with_unfolding_all rfl)); intro _)
        (k_with "call ref" => k_here; k_dflt (refine Con.useZ (step_c w _ _ _ _ _ _ _ _ _ rfl hn1.1 hn1.2 (getD_b hvb).1 (getD_b hvb).2 (by assumption) (by assumption) hc0 hc1) G (by k_asm) (by k_asm) trivial rfl rfl rfl rfl (Nat.le_of_ble_eq_true rfl) (Nat.le_of_ble_eq_true rfl) ?_); intro t1' h' tk' F' N')
        (k_with "CompSrc" => k_here; k_dflt (refine LCg.CompSrc.range (n := 8) (by rfl) (by k_asm) (by k_asm) (by assumption) (by decide) (by rfl) (by exact Nat.le_of_ble_eq_true rfl) ?_); intro g'; k_dflt (refine kcf_range (fun x => stepG (nmL.getD (z - 7).toNat (Str.ofString "")) (vals.getD x.toNat 0) x c) (fun k' t' I' oI' C' oC' D' m' ys' h' tk' E' hlo' hhi' hC' hx' F' N' off' ne' => ?_) ?_); (all_goals (try (k_extra "lt:off'"; k_extra "lt:ne'"))); (all_goals (try ((show KPfMark → _); intro hMark'))); kcf_last)
        (k_with "KCfEl" => exact ⟨rfl, _, rfl⟩)
        k_steps
        · first | exact hz1 | omega
        rename News _ _ _ _ => N9
        rename IntsAre _ (List.map _ _) => hy9
        exact unrEndS (by k_asm) N9 (by k_ne) hoff.2 ⟨src_of hl, zr, _, _, _, _, _, _, _, c, _, hzr, fun q hq => hokr q (List.mem_cons_of_mem _ hq), hy9, by rw [List.length_map, rangeKs_length], stepB, hc0, hc1, by rw [← hrun]; simp only [runF, if_neg hz0, if_neg hz1], ⟨_, by assumption⟩, hdC, by assumption, rfl, by k_ne, by k_ne, by k_ne, by k_ne, by k_ne⟩
end
section
open PySem PySem.W PyProof.Rows PySem.Spec
noncomputable abbrev mkS (l : List Nat) : Str := { cps := List.toArray l }
noncomputable def lastT (ns : List (List Nat)) : List Nat := ns.getLast?.getD [126]
noncomputable def stays (l : List Nat) : Bool := l.getLast?.getD 0 == 61 || l.getLast?.getD 0 == 126
noncomputable def addT (ns : List (List Nat)) (c : Nat) : List (List Nat) :=
  if c = 61 ∧ (lastT ns = [61] ∨ stays (lastT ns) = false) then ns.dropLast ++ [lastT ns ++ [61]]
  else if c = 42 ∧ lastT ns = [42] then ns.dropLast ++ [[42, 42]] else ns ++ [[c]]
theorem addT_glue {ns : List (List Nat)} {c : Nat} (h : c = 61 ∧ (lastT ns = [61] ∨ stays (lastT ns) = false)) : addT ns c = ns.dropLast ++ [lastT ns ++ [61]] := if_pos h
theorem addT_star {ns : List (List Nat)} {c : Nat} (h : c = 42) (h2 : lastT ns = [42]) : addT ns c = ns.dropLast ++ [[42, 42]] := by
  subst h
  unfold addT
  rw [if_neg (fun q => absurd q.1 (by decide)), if_pos ⟨rfl, h2⟩]
theorem addT_new {ns : List (List Nat)} {c : Nat} (h : ¬ (c = 61 ∧ (lastT ns = [61] ∨ stays (lastT ns) = false))) (h2 : ¬ (c = 42 ∧ lastT ns = [42])) : addT ns c = ns ++ [[c]] := by
  unfold addT
  rw [if_neg h, if_neg h2]
inductive TxA : List Value → List (List Nat) → Prop
  | nil : TxA [] []
  | cons {vs : List Value} {ds : List (List Nat)} (d : List Nat) (t : Tok) : TxA vs ds → TxA (.str (mkS d) t :: vs) (d :: ds)
theorem TxA.push {vs : List Value} {ds : List (List Nat)} (h : TxA vs ds) (d : List Nat) (t : Tok) : TxA (vs ++ [.str (mkS d) t]) (ds ++ [d]) := by
  induction h with
  | nil => exact .cons d t .nil
  | cons e u _ ih => exact .cons e u ih
theorem TxA.len {vs : List Value} {ds : List (List Nat)} (h : TxA vs ds) : vs.length = ds.length := by
  induction h with
  | nil => rfl
  | cons _ _ _ ih => rw [List.length_cons, List.length_cons, ih]
theorem TxA.snoc {ds : List (List Nat)} {d : List Nat} : ∀ {vs : List Value}, TxA vs (ds ++ [d]) → ∃ us t, vs = us ++ [.str (mkS d) t] ∧ TxA us ds := by
  induction ds with
  | nil => intro vs h; cases h with | cons _ t h => cases h; exact ⟨[], t, rfl, .nil⟩
  | cons e r ih => intro vs h; cases h with | cons _ t h => obtain ⟨us, t', rfl, h'⟩ := ih h; exact ⟨_ :: us, t', rfl, .cons e t h'⟩
theorem lastT_snoc {ns : List (List Nat)} (h : lastT ns ≠ [126]) : ∃ is, ns = is ++ [lastT ns] := by
  rcases List.eq_nil_or_concat ns with rfl | ⟨is, l, rfl⟩
  · exact absurd rfl h
  · exact ⟨is, by simp [lastT]⟩
section
variable {prog : Program} {w : World} {A : Around} {E : Value → Shared → Prop} {s : Shared} {h₀ : Heap} {L l d : Addr} {m : Str → Option Value} {news news' : List (Addr × Obj)} {us : List Value} {x : List Nat} {v v' : Value} {t u tk : Tok} {n k : Nat} {value slice : PySem.Expr}
theorem subLastV {Q : Value → Shared → Prop} (N : News h₀ L s.heap news) (hm : (l, PySem.W.listOf (List.toArray (us ++ [v])) n) ∈ news) (h : Q v s)
    (hs : subscripted slice false (.ref l) (.int (-1) tk) = operate [.ref l, .int (-1) tk] (getItem (.ref l) (.int (-1) tk))) :
    wpAny (model prog w) A (subscriptTail value slice (.ref l) (.int (-1) tk)) Q E s := by
  have hl' : s.heap.IsList l (us ++ [v]).toArray := ⟨_, (N _ hm).1, rfl, n, rfl⟩
  exact tail_any hl'.typeIs slot_list_getitem.lookup (wpAny_getItem_list_neg hl' (by decide) (by rw [List.size_toArray, List.length_append]; show -(((us.length + 1 : Nat)) : Int) ≤ -1; omega) (by decide) (by
    rw [List.size_toArray, List.length_append, show ((-1 : Int) + ((us.length + [v].length : Nat) : Int)).toNat = us.length by (simp only [List.length_cons, List.length_nil]; omega)]; simp) h) hs
theorem neNil {Q : Value → Shared → Prop} (N : News h₀ L s.heap news) (hm : (l, PySem.W.listOf (List.toArray (us ++ [v])) n) ∈ news) (hd : (d, PySem.W.listOf #[] k) ∈ news) (hu : A.units < cLine) (h : Q (.bool true) s) :
    wpAny (model prog w) A (compareOp .NotEq (.ref l) (.ref d)) Q E s :=
  SeqAt.RcNeAt.lists_lengths (items := List.toArray (us ++ [v])) (items2 := #[]) ⟨_, (N _ hm).1, rfl, n, rfl⟩ ⟨_, (N _ hd).1, rfl, k, rfl⟩ (by simp) hu prog w E Q h
theorem ki_setL_app : ∀ us : List Value, ki_setL (us ++ [v]) us.length v' = some (us ++ [v'])
  | [] => rfl
  | a :: r => by show (match ki_setL (r ++ [v]) r.length v' with | some q => some (a :: q) | none => none) = _; rw [ki_setL_app r]; rfl
theorem setLastV {Q : Unit → Shared → Prop} (F : Fr h₀ L s.heap m) (N : News h₀ L s.heap news) (U : Upd l (PySem.W.listOf (List.toArray (us ++ [v])) n) (PySem.W.listOf (List.toArray (us ++ [v'])) n) news news')
    (h : ∀ h', Fr h₀ L h' m → News h₀ L h' news' → Q () { s with heap := h' }) : wpAny (model prog w) A (setItem (.ref l) (.int (-1) t) v') Q E s := by
  refine ki_setNeg (j := us.length) F N (by decide) (by decide) ?_ (ki_setL_app us) U h
  show seqIndex? (-1) (us ++ [v]).length = _
  rw [List.length_append]
  show seqIndex? (-1) (us.length + 1) = _
  unfold seqIndex?
  have e : (if (-1 : Int) < 0 then (-1 : Int) + ((us.length + 1 : Nat) : Int) else -1) = (us.length : Int) := by rw [if_pos (by decide)]; omega
  simp only [e]
  rw [if_pos (by simp only [Bool.and_eq_true, decide_eq_true_eq]; omega)]
  simp
end
noncomputable def nmsL : List (List Nat) := [[43], [45], [42], [38], [124], [94], [126], [61], [42, 42], [42, 42, 61], [43, 61], [45, 61], [42, 61], [38, 61], [124, 61], [94, 61], [61, 61]]
theorem lastT_mem {ns : List (List Nat)} (h : ∀ l ∈ ns, l ∈ nmsL) : lastT ns ∈ nmsL := by
  unfold lastT
  cases e : ns.getLast? with
  | none => decide
  | some l => exact h l (List.mem_of_getLast? e)
theorem glue_ok : ∀ l ∈ nmsL, l = [61] ∨ stays l = false → l ++ [61] ∈ nmsL := by decide
theorem one_ok : ∀ c ∈ sgs, [c] ∈ nmsL := by decide
theorem addT_ok {ns : List (List Nat)} {c : Nat} (hc : c ∈ sgs) (h : ∀ l ∈ ns, l ∈ nmsL) : ∀ l ∈ addT ns c, l ∈ nmsL := by
  intro l hl
  unfold addT at hl
  split at hl
  · rename_i q
    rcases List.mem_append.mp hl with hl | hl
    · exact h l (List.dropLast_subset _ hl)
    · rw [List.mem_singleton.mp hl]; exact glue_ok _ (lastT_mem h) q.2
  · split at hl
    · rcases List.mem_append.mp hl with hl | hl
      · exact h l (List.dropLast_subset _ hl)
      · rw [List.mem_singleton.mp hl]; decide
    · rcases List.mem_append.mp hl with hl | hl
      · exact h l hl
      · rw [List.mem_singleton.mp hl]; exact one_ok c hc
theorem nms_len : ∀ l ∈ nmsL, 1 ≤ l.length ∧ l.length ≤ 3 := by decide
theorem nms_stays : ∀ l ∈ nmsL, Txt.contains (Str.ofString "=~") (mkS [l.getD (l.length - 1) 0]) = stays l := by decide +kernel
theorem eqL (a b : List Nat) : (mkS a == mkS b) = decide (a = b) := by
  by_cases h : a = b
  · rw [h, decide_eq_true rfl]; exact beq_self_eq_true _
  · rw [decide_eq_false h]; apply beq_false_of_ne; intro e; injection e with e; exact h (by simpa using e)
theorem eqLt {a b : List Nat} {y : Str} (hy : y = mkS b) (h : (mkS a == y) = true) : a = b := by rw [hy, eqL] at h; exact of_decide_eq_true h
theorem eqLf {a b : List Nat} {y : Str} (hy : y = mkS b) (h : (mkS a == y) = false) : a ≠ b := by rw [hy, eqL] at h; exact of_decide_eq_false h
section
variable {prog : Program} {w : World} {A : Around} {E : Value → Shared → Prop} {s : Shared} {l : List Nat} {c : Nat} {t u : Tok} {Q : Value → Shared → Prop}
theorem notInS (hl : l ∈ nmsL) (h : Q (.bool (!stays l)) s) : wpAny (model prog w) A (compareOp .NotIn (.str (mkS [l.getD (l.length - 1) 0]) u) (.str (Str.ofString "=~") t)) Q E s :=
  PySem.SB.notContains (by rw [nms_stays l hl]; exact h)
theorem addS (hl : l.length ≤ 3) (h : ∀ t' k, Q (.str (mkS (l ++ [c])) t') { s with toks := k }) : wpAny (model prog w) A (binaryOp .Add (.str (mkS l) t) (.str (mkS [c]) u)) Q E s :=
  PySem.SB.add (fun t' k => by rw [show mkS l ++ mkS [c] = mkS (l ++ [c]) from by apply PySem.Str.ext'; apply Array.toList_inj.mp; rw [PySem.Str.cps_append, Array.toList_append]]; exact h t' k) (by rw [PySem.sizeLine_eq]; show l.length + 1 ≤ _; omega)
end
theorem addT_len (ns : List (List Nat)) (c : Nat) : (addT ns c).length ≤ ns.length + 1 := by
  unfold addT
  split
  · simp
  · split
    · simp
    · simp
theorem drop_of {ns is : List (List Nat)} (his : ns = is ++ [lastT ns]) : ns.dropLast = is := by
  have := congrArg List.dropLast his
  rwa [List.dropLast_concat] at this
theorem TxA.glue {us : List Value} {ns is : List (List Nat)} {t : Tok} (h : TxA us is) (his : ns = is ++ [lastT ns]) (hc : lastT ns = [61] ∨ stays (lastT ns) = false) : TxA (us ++ [.str (mkS (lastT ns ++ [61])) t]) (addT ns 61) := by
  rw [addT_glue ⟨rfl, hc⟩, drop_of his]
  exact h.push _ _
theorem TxA.star {us : List Value} {ns is : List (List Nat)} {t : Tok} {x : Str} {c : Nat} (h : TxA us is) (his : ns = is ++ [lastT ns]) (hc : lastT ns = [42]) (h1 : c = 42) (hx : x = mkS [42, 42]) : TxA (us ++ [.str x t]) (addT ns c) := by
  subst hx
  rw [addT_star h1 hc, drop_of his]
  exact h.push _ _
theorem TxA.new {us : List Value} {ns : List (List Nat)} {t : Tok} {c : Nat} (h : TxA us ns) (h1 : ¬ (c = 61 ∧ (lastT ns = [61] ∨ stays (lastT ns) = false))) (h2 : ¬ (c = 42 ∧ lastT ns = [42])) : TxA (us ++ [.str (mkS [c]) t]) (addT ns c) := by
  rw [addT_new h1 h2]
  exact h.push _ _
structure EndT (g : Heap) (L : Addr) (news : List (Addr × Obj)) (m : Str → Option Value) (x : Str) (y : Str) (gn : Array GenState) (dr : Drawn) (os : OsState) (fl : Flow) (s' : Shared) : Prop where
  ex : fl = .next ∧ ∃ h' tk' t, s' = ⟨h', gn, dr, tk', os⟩ ∧ Fr g L h' (fun n => if n = x then some (.str y t) else m n) ∧ News g L h' news
section
variable {prog : Program} {w : World} {A : Around} {E : Value → Shared → Prop} {s : Shared} {env : Env} {h₀ : Heap} {x : Str} {body : List Stmt} {Q : Flow → Shared → Prop} {I : Addr}
theorem StrRest.by (J : List Str → (Str → Option Value) → List (Addr × Obj) → Prop)
    (h0 : ∀ m news h tk, J [] m news → Fr h₀ env.locals h m → News h₀ env.locals h news → Q .next { s with heap := h, toks := tk })
    (hs : ∀ v r m news (it : Obj) u h tk, J (v :: r) m news → Fr h₀ env.locals h (fun y => if y = x then some (.str v u) else m y) → News h₀ env.locals h ((I, it) :: news) →
      wpAny (model prog w) A (execs body env) (UnrPost h₀ env.locals { s with heap := h, toks := tk } I it (J r) Q) E { s with heap := h, toks := tk }) :
    ∀ vs m news, J vs m news → StrRest prog w A E h₀ env x body Q s I vs m news := by
  intro vs
  induction vs with
  | nil => exact fun m news j h tk F N => h0 m news h tk j F N
  | cons v r ih => exact fun m news j u it h tk F N => wpAny_mono (hs v r m news it u h tk j F N) (fun f s₂ p => post_mono (fun m n q => ih m n q) p) fun _ _ e => e
end
end
section
open PySem PySem.W PyProof.Rows
set_option compiler.extract_closed false in
set_option compiler.extract_closed false in
set_option compiler.extract_closed false in
noncomputable def plainV : List (List Nat) → List Int → Int → List Int
  | [], vs, _ => vs
  | l :: r, vs, c => plainV r ((rangeKs 0 8).map fun x => (stepG (mkS l) (vs.getD x.toNat 0) x c).fmod 8) c
inductive PJ (A B C D : Addr) (oA oB oC : Obj) (all : List (List Nat)) (vs : List Str) (m : Str → Option Value) (news : List (Addr × Obj)) : Prop
  | mk : ∀ (rest : List Nat) (ns : List (List Nat)) (us : List Value) (cnt : Nat), vs = rest.map (fun c => mkS [c]) → rest.foldl addT ns = all → TxA us ns → (∀ l ∈ ns, l ∈ nmsL) → (∀ c ∈ rest, c ∈ sgs) → ns.length + rest.length ≤ 8 → m (Str.ofString "names") = some (.ref D) → news = [(D, PySem.W.listOf (List.toArray us) cnt), (A, oA), (B, oB), (C, oC)] → PJ A B C D oA oB oC all vs m news
inductive QJ (DN A B C : Addr) (nus : List Value) (cn : Nat) (oC : Obj) (c : Int) (all : List Int) (vs : List Value) (z10 : Str → Option Value) (news : List (Addr × Obj)) : Prop
  | mk : ∀ rest vals vus DV cv oA oB, TxA vs rest → (∀ l ∈ rest, l ∈ nmsL) → IntsAre vus vals → vals.length = 8 → (∀ v ∈ vals, -128 ≤ v ∧ v < 128) → plainV rest vals c = all → (∃ x, oA.data = .cell x) → oB.data = .cell (some (.ref DV)) → news = [(DV, PySem.W.listOf (List.toArray vus) cv), (DN, PySem.W.listOf (List.toArray nus) cn), (A, oA), (B, oB), (C, oC)] → (@Ne Nat DV DN ∧ @Ne Nat DV A ∧ @Ne Nat DV B ∧ @Ne Nat DV C) → QJ DN A B C nus cn oC c all vs z10 news
theorem modB {f : Int → Int} {n : Nat} : ∀ v ∈ (rangeKs 0 n).map (fun x => (f x).fmod 8), -128 ≤ v ∧ v < 128 := by
  intro v hv
  obtain ⟨x, _, rfl⟩ := List.mem_map.mp hv
  have h0 := Int.fmod_nonneg_of_pos (f x) (show (0 : Int) < 8 by decide)
  have h1 := Int.fmod_lt_of_pos (f x) (show (0 : Int) < 8 by decide)
  omega
theorem PJ.next {A B C D : Addr} {oA oB oC : Obj} {all ns : List (List Nat)} {m : Str → Option Value} {c1 : Nat} {r1 : List Nat} {us : List Value} {cnt : Nat} (hall : (c1 :: r1).foldl addT ns = all) (hnm : ∀ l ∈ ns, l ∈ nmsL) (hsg : ∀ c ∈ c1 :: r1, c ∈ sgs) (hlen : ns.length + (c1 :: r1).length ≤ 8) (mn : m (Str.ofString "names") = some (.ref D)) (hT : TxA us (addT ns c1)) :
    PJ A B C D oA oB oC all (r1.map (fun c => mkS [c])) m [(D, PySem.W.listOf (List.toArray us) cnt), (A, oA), (B, oB), (C, oC)] :=
  ⟨r1, addT ns c1, us, cnt, rfl, hall, hT, addT_ok (hsg c1 List.mem_cons_self) hnm, fun c hc => hsg c (List.mem_cons_of_mem _ hc), by have := addT_len ns c1; rw [List.length_cons] at hlen; omega, mn, rfl⟩
set_option maxRecDepth 100000 in
set_option maxHeartbeats 1200000 in
theorem plain_c (w : World) (cs : List Nat) (c : Int) (tt tc : Tok) (h1 : 1 ≤ cs.length) (h8 : cs.length ≤ 8) (hs : ∀ c ∈ cs, c ∈ sgs) (hc0 : 0 ≤ c) (hc1 : c < 8) :
    Con 400 w 114 [.str (mkS cs) tt, .int c tc] [] (fun _ => True) (RetN (plainV (cs.foldl addT []) [0, 1, 2, 3, 4, 5, 6, 7] c)) := by
  have : Challenge.rw_re0146_01 = Challenge.rw_re0146_01 ∧ hd.heap_39 w.params = hd.heap_39 w.params := by k_fill; exact ⟨rfl, rfl⟩
  clear this
  w_top off
  k_with_none
  (k_with "k_lt" => intro kH; (try replace kH := allLt_of kH); (try replace kH := offs_of kH); (try dsimp only [AllLt, LCg.Off1, LCg.Off3, OffF, OffG, ledT] at kH); repeat (first | (have := And.left (And.left kH); have := And.left (And.right (And.left kH)); have := And.right (And.right (And.left kH)); replace kH := And.right kH) | (have := And.left kH; replace kH := And.right kH)))
  (k_with "lt:hoff0" => (try replace hoff0 := allLt_of hoff0); (try replace hoff0 := offs_of hoff0); (try dsimp only [AllLt, LCg.Off1, LCg.Off3, OffF, OffG, ledT] at hoff0); repeat (first | (have := And.left (And.left hoff0); have := And.left (And.right (And.left hoff0)); have := And.right (And.right (And.left hoff0)); replace hoff0 := And.right hoff0) | (have := And.left hoff0; replace hoff0 := And.right hoff0)))
  (k_with "lt:l1" => (try replace l1 := allLt_of l1); (try replace l1 := offs_of l1); (try dsimp only [AllLt, LCg.Off1, LCg.Off3, OffF, OffG, ledT] at l1); repeat (first | (have := And.left (And.left l1); have := And.left (And.right (And.left l1)); have := And.right (And.right (And.left l1)); replace l1 := And.right l1) | (have := And.left l1; replace l1 := And.right l1)))
  (k_with "lt:l2" => (try replace l2 := allLt_of l2); (try replace l2 := offs_of l2); (try dsimp only [AllLt, LCg.Off1, LCg.Off3, OffF, OffG, ledT] at l2); repeat (first | (have := And.left (And.left l2); have := And.left (And.right (And.left l2)); have := And.right (And.right (And.left l2)); replace l2 := And.right l2) | (have := And.left l2; replace l2 := And.right l2)))
  (k_with "lt:ne'" => (try replace ne' := allLt_of ne'); (try replace ne' := offs_of ne'); (try dsimp only [AllLt, LCg.Off1, LCg.Off3, OffF, OffG, ledT] at ne'); repeat (first | (have := And.left (And.left ne'); have := And.left (And.right (And.left ne')); have := And.right (And.right (And.left ne')); replace ne' := And.right ne') | (have := And.left ne'; replace ne' := And.right ne')))
  (k_with "lt:off'" => (try replace off' := allLt_of off'); (try replace off' := offs_of off'); (try dsimp only [AllLt, LCg.Off1, LCg.Off3, OffF, OffG, ledT] at off'); repeat (first | (have := And.left (And.left off'); have := And.left (And.right (And.left off')); have := And.right (And.right (And.left off')); replace off' := And.right off') | (have := And.left off'; replace off' := And.right off')))
  (k_with "lt:kc9" => (try replace kc9 := allLt_of kc9); (try replace kc9 := offs_of kc9); (try dsimp only [AllLt, LCg.Off1, LCg.Off3, OffF, OffG, ledT] at kc9); repeat (first | (have := And.left (And.left kc9); have := And.left (And.right (And.left kc9)); have := And.right (And.right (And.left kc9)); replace kc9 := And.right kc9) | (have := And.left kc9; replace kc9 := And.right kc9)))
  (k_with "k_ne" => refine neN ?_; first | (with_reducible first | assumption | exact Ne.symm (by assumption) | exact Nat.ne_of_lt (by assumption) | exact Ne.symm (Nat.ne_of_lt (by assumption))) | ((try dsimp only); first | ((iterate 2 (first | done | with_reducible (first | exact cN1 _ | exact cN2 _ | exact cN3 _ | exact cL1 (by assumption) | exact cL2 (by assumption) | exact cL3 (by assumption) | exact cL4 (by assumption)) | exact Nat.ne_of_beq_eq_false rfl | refine Ne.symm ?_)); done) | ((iterate 4 (first | done | (with_reducible rename (@Ne Nat _ _) ∧ _ => kc9; (k_extra "lt:kc9"); with_reducible first | assumption | exact Ne.symm (by assumption)) | (with_reducible rename (@Ne Nat _ _) ∧ _ => kc9; clear kc9))); done) | omega))
  (k_with "execs cons" => k_here; (with_reducible rename Fr _ _ _ _ => lF); (let lm := mOf lF); (have F' : Fr _ _ _ lm := lF); (with_reducible refine wpAny_execs_cons ?_); (try dsimp only); (try k_fold))
  (k_with "exec For Name Name cons nil" => (with_reducible refine Stop.mk ?_))
  refine con1L (pre' := fun _ => True) (by k_is) (by k_is) (by decide) (fun _ => BindsTo.of_eq rfl) (by rfl) (by decide +kernel) (fun _ _ _ _ => trivial) ?_ rfl rfl rfl
  intro outer h₀ L h₁ gn dr tk os cells Q E ee AA G _ F N l0 Y hE hQ
  obtain ⟨A₀, base, B, X, p, loose, mean, mg, mb, T, H⟩ := id G
  k_cells Y
  (try dsimp only [List.cons_append, List.nil_append] at N)
  k_steps
  rename Fr _ _ _ _ => F1
  rename News _ _ _ _ => N1
  refine Stop.un ?_
  with_unfolding_all refine For_invVF F1 (by rfl) (by rfl) ?_
  (k_with "pyIter str" => (with_reducible refine Stop.mk ?_))
  k_steps
  refine Stop.un ?_
  with_unfolding_all refine iter_strUnr (by rfl) F1 N1 rfl ?_
  intro I l2
  k_extra "lt:l2"
  refine StrRest.by (PJ _ _ _ _ _ _ _ (cs.foldl addT [])) ?h0 ?hs _ _ _ ⟨cs, [], [], _, rfl, rfl, .nil, fun _ h => (nomatch h), hs, by simp; omega, rfl, rfl⟩
  all_goals (clear F1 N1)
  case h0 =>
    rintro m' news' h' tk' ⟨rest, ns, us, cnt, hv, hall, hT, hnm, hsg, hlen, mn, rfl⟩ F' N'
    obtain rfl : rest = [] := by cases rest with | nil => rfl | cons a b => cases hv
    obtain rfl : ns = cs.foldl addT [] := hall
    rw [hold mn] at F'
    (k_with "call type:list" => k_here; (with_unfolding_all refine list8 (by rfl) (by k_asm) (by k_asm) (by assumption) ?_); intro D' vs' c' h' tk' F' N' l1 hI'; (try k_extra "lt:l1"))
    k_steps
    rename Fr _ _ _ _ => F1
    rename News _ _ _ _ => N1
    refine Stop.un (for_own (wpAny_mono (Q := fun xv s₁ => ForSrc PP w _ h₀ _ _ _ _ _ xv s₁) ?src (fun _ _ q => q) (fun _ _ e => e)) (by intro _; with_unfolding_all rfl) (by intro _ _; with_unfolding_all rfl) (by exact hE))
    case src =>
      k_steps
      refine ⟨_, _, us, _, _, rfl, F1, N1, src_in (by k_mem), fun I l2 => ⟨QJ _ _ _ _ us cnt _ c (plainV (cs.foldl addT []) [0, 1, 2, 3, 4, 5, 6, 7] c), ⟨_, [0, 1, 2, 3, 4, 5, 6, 7], _, _, _, _, _, hT, hnm, hI', rfl, by decide, rfl, ⟨_, by assumption⟩, by assumption, rfl, ?_⟩, ?_, ?_⟩⟩
      · exact ⟨by k_ne, by k_ne, by k_ne, by k_ne⟩
      all_goals clear F1 N1
      · rintro m' news' h' tk' ⟨rest, vals, vus, DV, cv, oA, oB, hr, hokr, hv, h8, hvb, hrun, ⟨xA, hxA⟩, hdB, rfl, hn1, hn2, hn3, hn4⟩ F' N'
        cases hr
        k_steps
        exact hQ _ _ _ _ _ ⟨_, _, _, rfl, rfl, by rw [← hrun]; exact hv⟩ (by k_asm) (cb_drop (by k_asm) (by kcj_all))
      · rintro v r m' news' it h' tk' ⟨rest, vals, vus, DV, cv, oA, oB, hr, hokr, hv, h8, hvb, hrun, ⟨xA, hxA⟩, hdB, rfl, hn1, hn2, hn3, hn4⟩ hit F' N' hoff
        obtain ⟨z, zr, tz, rfl, rfl, hzr⟩ : ∃ z zr tz, rest = z :: zr ∧ v = .str (mkS z) tz ∧ TxA r zr := by cases hr with | cons n t h => exact ⟨_, _, _, rfl, rfl, h⟩
        have hoff0 := hoff
        k_extra "lt:hoff0"
        have hz := nms_len z (hokr z List.mem_cons_self)
        (k_with "subscriptTail Name Name ref int" => k_here; k_dflt (refine subI (by k_asm) (by k_mem) hv (by assumption) (lt8 (by assumption) h8) (le100 h8) ?_ (by with_unfolding_all rfl)); intro _)
        (k_with "call ref" => k_here; k_dflt (refine Con.useZ (step_c w (mkS z) z.length _ _ _ _ _ _ _ (slen z) hz.1 hz.2 (getD_b hvb).1 (getD_b hvb).2 (by assumption) (by assumption) hc0 hc1) G (by k_asm) (by k_asm) trivial rfl rfl rfl rfl (Nat.le_of_ble_eq_true rfl) (Nat.le_of_ble_eq_true rfl) ?_); intro t1' h' tk' F' N')
        (k_with "CompSrc" => k_here; k_dflt (refine LCg.CompSrc.range (n := 8) (by rfl) (by k_asm) (by k_asm) (by assumption) (by decide) (by rfl) (by exact Nat.le_of_ble_eq_true rfl) ?_); intro g'; k_dflt (refine kcf_range (fun x => (stepG (mkS z) (vals.getD x.toNat 0) x c).fmod 8) (fun k' t' I' oI' C' oC' D' m' ys' h' tk' E' hlo' hhi' hC' hx' F' N' off' ne' => ?_) ?_); (all_goals (try (k_extra "lt:off'"; k_extra "lt:ne'"))); (all_goals (try ((show KPfMark → _); intro hMark'))); kcf_last)
        (k_with "KCfEl" => exact ⟨rfl, _, rfl⟩)
        k_steps
        rename News _ _ _ _ => N9
        rename IntsAre _ (List.map _ _) => hy9
        exact unrEndS (by k_asm) N9 (by k_ne) hoff.2 ⟨src_in (by k_mem), zr, _, _, _, _, _, _, hzr, fun q hq => hokr q (List.mem_cons_of_mem _ hq), hy9, by rw [List.length_map, rangeKs_length], modB, hrun, ⟨_, by assumption⟩, by assumption, rfl, by k_ne, by k_ne, by k_ne, by k_ne⟩
  case hs =>
    rintro v r m' news' it u' h' tk' ⟨rest, ns, us, cnt, hv, hall, hT, hnm, hsg, hlen, mn, rfl⟩ F' N'
    obtain ⟨c1, r1, rfl, rfl, rfl⟩ : ∃ c1 r1, rest = c1 :: r1 ∧ v = mkS [c1] ∧ r = r1.map (fun c => mkS [c]) := by
      cases rest with
      | nil => cases hv
      | cons a b => rw [List.map_cons] at hv; injection hv with e1 e2; exact ⟨a, b, rfl, e1, e2⟩
    rw [hold mn] at F'
    (k_with "exec Assign" => (with_reducible refine Stop.mk ?_))
    k_steps
    rename Fr _ _ _ _ => F1
    rename News _ _ _ _ => N1
    refine Stop.un (wpAny_mono (Q := EndT h₀ L (nOf N1) (mOf F1) (Str.ofString "last") (mkS (lastT ns)) gn dr os) ?_ ?_ (fun _ _ e => e))
    · clear hE hQ
      k_with_none
      (k_with "k_lt" => intro kH; (try replace kH := allLt_of kH); (try replace kH := offs_of kH); (try dsimp only [AllLt, LCg.Off1, LCg.Off3, OffF, OffG, ledT] at kH); repeat (first | (have := And.left (And.left kH); have := And.left (And.right (And.left kH)); have := And.right (And.right (And.left kH)); replace kH := And.right kH) | (have := And.left kH; replace kH := And.right kH)))
      (k_with "lt:hoff0" => (try replace hoff0 := allLt_of hoff0); (try replace hoff0 := offs_of hoff0); (try dsimp only [AllLt, LCg.Off1, LCg.Off3, OffF, OffG, ledT] at hoff0); repeat (first | (have := And.left (And.left hoff0); have := And.left (And.right (And.left hoff0)); have := And.right (And.right (And.left hoff0)); replace hoff0 := And.right hoff0) | (have := And.left hoff0; replace hoff0 := And.right hoff0)))
      (k_with "lt:l1" => (try replace l1 := allLt_of l1); (try replace l1 := offs_of l1); (try dsimp only [AllLt, LCg.Off1, LCg.Off3, OffF, OffG, ledT] at l1); repeat (first | (have := And.left (And.left l1); have := And.left (And.right (And.left l1)); have := And.right (And.right (And.left l1)); replace l1 := And.right l1) | (have := And.left l1; replace l1 := And.right l1)))
      (k_with "lt:l2" => (try replace l2 := allLt_of l2); (try replace l2 := offs_of l2); (try dsimp only [AllLt, LCg.Off1, LCg.Off3, OffF, OffG, ledT] at l2); repeat (first | (have := And.left (And.left l2); have := And.left (And.right (And.left l2)); have := And.right (And.right (And.left l2)); replace l2 := And.right l2) | (have := And.left l2; replace l2 := And.right l2)))
      (k_with "lt:ne'" => (try replace ne' := allLt_of ne'); (try replace ne' := offs_of ne'); (try dsimp only [AllLt, LCg.Off1, LCg.Off3, OffF, OffG, ledT] at ne'); repeat (first | (have := And.left (And.left ne'); have := And.left (And.right (And.left ne')); have := And.right (And.right (And.left ne')); replace ne' := And.right ne') | (have := And.left ne'; replace ne' := And.right ne')))
      (k_with "lt:off'" => (try replace off' := allLt_of off'); (try replace off' := offs_of off'); (try dsimp only [AllLt, LCg.Off1, LCg.Off3, OffF, OffG, ledT] at off'); repeat (first | (have := And.left (And.left off'); have := And.left (And.right (And.left off')); have := And.right (And.right (And.left off')); replace off' := And.right off') | (have := And.left off'; replace off' := And.right off')))
      (k_with "lt:kc9" => (try replace kc9 := allLt_of kc9); (try replace kc9 := offs_of kc9); (try dsimp only [AllLt, LCg.Off1, LCg.Off3, OffF, OffG, ledT] at kc9); repeat (first | (have := And.left (And.left kc9); have := And.left (And.right (And.left kc9)); have := And.right (And.right (And.left kc9)); replace kc9 := And.right kc9) | (have := And.left kc9; replace kc9 := And.right kc9)))
      (k_with "k_ne" => refine neN ?_; first | (with_reducible first | assumption | exact Ne.symm (by assumption) | exact Nat.ne_of_lt (by assumption) | exact Ne.symm (Nat.ne_of_lt (by assumption))) | ((try dsimp only); first | ((iterate 2 (first | done | with_reducible (first | exact cN1 _ | exact cN2 _ | exact cN3 _ | exact cL1 (by assumption) | exact cL2 (by assumption) | exact cL3 (by assumption) | exact cL4 (by assumption)) | exact Nat.ne_of_beq_eq_false rfl | refine Ne.symm ?_)); done) | ((iterate 4 (first | done | (with_reducible rename (@Ne Nat _ _) ∧ _ => kc9; (k_extra "lt:kc9"); with_reducible first | assumption | exact Ne.symm (by assumption)) | (with_reducible rename (@Ne Nat _ _) ∧ _ => kc9; clear kc9))); done) | omega))
      rcases List.eq_nil_or_concat ns with rfl | ⟨is, l, rfl⟩
      · cases hT
        k_steps
        exact ⟨rfl, _, _, _, rfl, by k_asm, cb_drop (by k_asm) (by kcj_all)⟩
      · rw [List.concat_eq_append] at hT
        obtain ⟨us, t0, rfl, hT'⟩ := hT.snoc
        (k_with "compareOp NotEq ref ref" => k_here; k_dflt (refine neNil (by k_asm) (by k_mem) (by k_mem) (by exact Nat.le_of_ble_eq_true rfl) ?_))
        (k_with "subscriptTail Name UnaryOp ref int" => k_here; k_dflt (refine subLastV (by k_asm) (by k_mem) ?_ (by with_unfolding_all rfl)))
        k_steps
        exact ⟨rfl, _, _, _, rfl, by (rw [show mkS (lastT (is.concat l)) = mkS l by simp [lastT]]; k_asm), cb_drop (by k_asm) (by kcj_all)⟩
    rintro _ _ ⟨rfl, h', tk2, t2, rfl, F', N'⟩
    dsimp only [nOf, mOf] at F' N'
    clear F1 N1
    have hus : us.length ≤ 8 := by have := hT.len; simp only [List.length_cons] at hlen; omega
    k_with_none
    (k_with "k_lt" => intro kH; (try replace kH := allLt_of kH); (try replace kH := offs_of kH); (try dsimp only [AllLt, LCg.Off1, LCg.Off3, OffF, OffG, ledT] at kH); repeat (first | (have := And.left (And.left kH); have := And.left (And.right (And.left kH)); have := And.right (And.right (And.left kH)); replace kH := And.right kH) | (have := And.left kH; replace kH := And.right kH)))
    (k_with "lt:hoff0" => (try replace hoff0 := allLt_of hoff0); (try replace hoff0 := offs_of hoff0); (try dsimp only [AllLt, LCg.Off1, LCg.Off3, OffF, OffG, ledT] at hoff0); repeat (first | (have := And.left (And.left hoff0); have := And.left (And.right (And.left hoff0)); have := And.right (And.right (And.left hoff0)); replace hoff0 := And.right hoff0) | (have := And.left hoff0; replace hoff0 := And.right hoff0)))
    (k_with "lt:l1" => (try replace l1 := allLt_of l1); (try replace l1 := offs_of l1); (try dsimp only [AllLt, LCg.Off1, LCg.Off3, OffF, OffG, ledT] at l1); repeat (first | (have := And.left (And.left l1); have := And.left (And.right (And.left l1)); have := And.right (And.right (And.left l1)); replace l1 := And.right l1) | (have := And.left l1; replace l1 := And.right l1)))
    (k_with "lt:l2" => (try replace l2 := allLt_of l2); (try replace l2 := offs_of l2); (try dsimp only [AllLt, LCg.Off1, LCg.Off3, OffF, OffG, ledT] at l2); repeat (first | (have := And.left (And.left l2); have := And.left (And.right (And.left l2)); have := And.right (And.right (And.left l2)); replace l2 := And.right l2) | (have := And.left l2; replace l2 := And.right l2)))
    (k_with "lt:ne'" => (try replace ne' := allLt_of ne'); (try replace ne' := offs_of ne'); (try dsimp only [AllLt, LCg.Off1, LCg.Off3, OffF, OffG, ledT] at ne'); repeat (first | (have := And.left (And.left ne'); have := And.left (And.right (And.left ne')); have := And.right (And.right (And.left ne')); replace ne' := And.right ne') | (have := And.left ne'; replace ne' := And.right ne')))
    (k_with "lt:off'" => (try replace off' := allLt_of off'); (try replace off' := offs_of off'); (try dsimp only [AllLt, LCg.Off1, LCg.Off3, OffF, OffG, ledT] at off'); repeat (first | (have := And.left (And.left off'); have := And.left (And.right (And.left off')); have := And.right (And.right (And.left off')); replace off' := And.right off') | (have := And.left off'; replace off' := And.right off')))
    (k_with "lt:kc9" => (try replace kc9 := allLt_of kc9); (try replace kc9 := offs_of kc9); (try dsimp only [AllLt, LCg.Off1, LCg.Off3, OffF, OffG, ledT] at kc9); repeat (first | (have := And.left (And.left kc9); have := And.left (And.right (And.left kc9)); have := And.right (And.right (And.left kc9)); replace kc9 := And.right kc9) | (have := And.left kc9; replace kc9 := And.right kc9)))
    (k_with "k_ne" => refine neN ?_; first | (with_reducible first | assumption | exact Ne.symm (by assumption) | exact Nat.ne_of_lt (by assumption) | exact Ne.symm (Nat.ne_of_lt (by assumption))) | ((try dsimp only); first | ((iterate 2 (first | done | with_reducible (first | exact cN1 _ | exact cN2 _ | exact cN3 _ | exact cL1 (by assumption) | exact cL2 (by assumption) | exact cL3 (by assumption) | exact cL4 (by assumption)) | exact Nat.ne_of_beq_eq_false rfl | refine Ne.symm ?_)); done) | ((iterate 4 (first | done | (with_reducible rename (@Ne Nat _ _) ∧ _ => kc9; (k_extra "lt:kc9"); with_reducible first | assumption | exact Ne.symm (by assumption)) | (with_reducible rename (@Ne Nat _ _) ∧ _ => kc9; clear kc9))); done) | omega))
    (k_with "execs cons" => k_here; (with_reducible rename Fr _ _ _ _ => lF); (let lm := mOf lF); (have F' : Fr _ _ _ lm := lF); (with_reducible refine wpAny_execs_cons ?_); (try dsimp only); (try k_fold))
    (k_with "compareOp Eq str str" => k_here; (with_reducible show wpAny _ _ (compareOp _ (Value.str (Str.mk _) _) _) _ _ _); k_dflt (refine eqS (by assumption) ?_))
    have hl3 := lastT_mem hnm
    have hl4 := nms_len _ hl3
    (k_with "binaryOp Add str str" => k_here; k_dflt (refine addS hl4.2 ?_); intro _ _)
    (k_with "subscriptTail Name UnaryOp str int" => k_here; k_dflt (refine itL hl4.2 hl4.1 ?_ (by with_unfolding_all rfl) (by intro _; with_unfolding_all rfl)); intro _ _)
    (k_with "compareOp NotIn str str" => k_here; k_dflt (refine notInS hl3 ?_))
    (k_with "call builtin:list.append" => k_here; k_dflt (refine append_K (by k_asm) (by k_asm) (by k_upd) ?_ (by exact line8 hus)); intro h' F' N'; (rw [lpush] at N'))
    (k_with "setItem ref int" => k_here; k_dflt (refine setLastV (by k_asm) (by k_asm) (by k_upd) ?_); intro h' F' N')
    (k_with "UnrEnd" => (with_reducible rename News _ _ _ _ => lN'); k_dflt (refine unrEndT (by k_asm) lN' (by (repeat' (first | exact True.intro | refine And.intro (by k_ne) ?_))) ?_))
    by_cases e1 : c1 = 61
    · subst e1
      have q1 : (mkS [61] == Str.ofString "=") = true := by decide +kernel
      have e3 : Str.ofString "=" = mkS [61] := by decide +kernel
      k_steps
      · have hc := eqLt e3 (by assumption)
        obtain ⟨is, his⟩ := lastT_snoc (ns := ns) (by rw [hc]; decide)
        have hT2 := hT
        rw [his] at hT2
        obtain ⟨us, t0, rfl, hT'⟩ := hT2.snoc
        k_steps
        exact PJ.next hall hnm hsg hlen rfl (hT'.glue his (.inl hc))
      · have hc := eqLf e3 (by assumption)
        have hst : stays (lastT ns) = true := by assumption
        exact PJ.next hall hnm hsg hlen rfl (hT.new (fun q => q.2.elim hc (fun z => by rw [hst] at z; cases z)) (fun q => absurd q.1 (by decide)))
      · have hst : stays (lastT ns) = false := by assumption
        obtain ⟨is, his⟩ := lastT_snoc (ns := ns) (by intro e; rw [e] at hst; cases hst)
        have hT2 := hT
        rw [his] at hT2
        obtain ⟨us, t0, rfl, hT'⟩ := hT2.snoc
        k_steps
        exact PJ.next hall hnm hsg hlen rfl (hT'.glue his (.inr hst))
    · have q1 : (mkS [c1] == Str.ofString "=") = false := by rw [show Str.ofString "=" = mkS [61] by decide +kernel, eqL]; exact decide_eq_false (by simpa using e1)
      have e3 : Str.ofString "*" = mkS [42] := by decide +kernel
      k_steps
      · have hc1 := eqLt (a := [c1]) e3 (by assumption)
        have hc := eqLt (a := lastT ns) e3 (by assumption)
        obtain ⟨is, his⟩ := lastT_snoc (ns := ns) (by rw [hc]; decide)
        have hT2 := hT
        rw [his] at hT2
        obtain ⟨us, t0, rfl, hT'⟩ := hT2.snoc
        k_steps
        exact PJ.next hall hnm hsg hlen rfl (hT'.star his hc (by simpa using hc1) (by decide +kernel))
      · have hc := eqLf (a := lastT ns) e3 (by assumption)
        exact PJ.next hall hnm hsg hlen rfl (hT.new (fun q => e1 q.1) (fun q => hc q.2))
      · have hc := eqLf (a := [c1]) e3 (by assumption)
        exact PJ.next hall hnm hsg hlen rfl (hT.new (fun q => e1 q.1) (fun q => hc (by rw [q.1])))
end
section
open PySem PySem.W PyProof.Rows
set_option compiler.extract_closed false in
set_option compiler.extract_closed false in
set_option compiler.extract_closed false in
noncomputable def oddF (rs : List Int) (k : Nat) : Int := (((rangeKs 0 (2 ^ k)).map fun x => ((rs.getD x.toNat 0).fdiv ((2 ^ k : Nat) : Int)).fmod 2).sum).fmod 2
noncomputable def oddB (rs : List Int) : Bool := decide ((List.range 3).map (oddF rs) = [1, 1, 1])
structure PowIs (i n : Nat) : Prop where
  eq : 2 ^ i = n
theorem pw2 (i : Nat) (h : i < 3) : ∃ n : Nat, PowIs i n ∧ Builtin.Range.small 0 (n : Int) 1 = true ∧ Builtin.Range.rangeSize 0 (n : Int) 1 = (n : Int) ∧ n ≤ 4 ∧ 0 < n := by
  have key : ∀ j : Fin 3, Builtin.Range.small 0 ((2 ^ j.val : Nat) : Int) 1 = true ∧ Builtin.Range.rangeSize 0 ((2 ^ j.val : Nat) : Int) 1 = ((2 ^ j.val : Nat) : Int) ∧ 2 ^ j.val ≤ 4 ∧ 0 < 2 ^ j.val := by decide +kernel
  exact ⟨_, ⟨rfl⟩, key ⟨i, h⟩⟩
section
variable {prog : Program} {w : World} {A : Around} {E : Value → Shared → Prop} {s : Shared} {i n : Nat} {z : Int} {t u : Tok} {Q : Value → Shared → Prop}
theorem powR (hi : i < 3) (hn : PowIs i n) (h : ∀ t' k, Q (.int (n : Int) t') { s with toks := k }) : wpAny (model prog w) A (binaryOp .Pow (.int 2 t) (.int (i : Int) u)) Q E s := by
  refine pow_int (Int.natCast_nonneg i) ?_ (by have e : (2 : Int) ^ (i : Int).toNat = (n : Int) := by rw [Int.toNat_natCast, ← hn.eq]; norm_cast
                                               rw [e]; exact h _ _)
  have : (Builtin.Int.intBits 2 : Int) = 2 := by decide +kernel
  rw [this]
  omega
theorem fdvR (hi : 0 < n) (h4 : n ≤ 4) (h0 : 0 ≤ z) (h8 : z < 8) (h : ∀ t' k, Q (.int (z.fdiv (n : Int)) t') { s with toks := k }) : wpAny (model prog w) A (binaryOp .FloorDiv (.int z t) (.int (n : Int) u)) Q E s :=
  floordiv_int (by omega) (h _ _) (Or.inl (PyProof.noPylong_small (by omega)))
end
set_option maxRecDepth 100000 in
set_option maxHeartbeats 800000 in
theorem odd_c (w : World) (l : Addr) (us : List Value) (rs : List Int) (hu : IntsAre us rs) (hb : Small rs) :
    Con 400 w 133 [.ref l] [] (fun h => h.IsList l us.toArray) (fun v nl => ∃ b, v = .bool b ∧ b = oddB rs ∧ nl = []) := by
  have : Challenge.rw_re0146_01 = Challenge.rw_re0146_01 ∧ hd.heap_39 w.params = hd.heap_39 w.params := by k_fill; exact ⟨rfl, rfl⟩
  clear this
  have h8 := hb.1
  w_top off
  k_with_none
  (k_with "k_lt" => intro kH; (try replace kH := allLt_of kH); (try replace kH := offs_of kH); (try dsimp only [AllLt, LCg.Off1, LCg.Off3, OffF, OffG, ledT] at kH); repeat (first | (have := And.left (And.left kH); have := And.left (And.right (And.left kH)); have := And.right (And.right (And.left kH)); replace kH := And.right kH) | (have := And.left kH; replace kH := And.right kH)))
  (k_with "lt:dn" => (try replace dn := allLt_of dn); (try replace dn := offs_of dn); (try dsimp only [AllLt, LCg.Off1, LCg.Off3, OffF, OffG, ledT] at dn); repeat (first | (have := And.left (And.left dn); have := And.left (And.right (And.left dn)); have := And.right (And.right (And.left dn)); replace dn := And.right dn) | (have := And.left dn; replace dn := And.right dn)))
  (k_with "lt:ne'" => (try replace ne' := allLt_of ne'); (try replace ne' := offs_of ne'); (try dsimp only [AllLt, LCg.Off1, LCg.Off3, OffF, OffG, ledT] at ne'); repeat (first | (have := And.left (And.left ne'); have := And.left (And.right (And.left ne')); have := And.right (And.right (And.left ne')); replace ne' := And.right ne') | (have := And.left ne'; replace ne' := And.right ne')))
  (k_with "lt:off'" => (try replace off' := allLt_of off'); (try replace off' := offs_of off'); (try dsimp only [AllLt, LCg.Off1, LCg.Off3, OffF, OffG, ledT] at off'); repeat (first | (have := And.left (And.left off'); have := And.left (And.right (And.left off')); have := And.right (And.right (And.left off')); replace off' := And.right off') | (have := And.left off'; replace off' := And.right off')))
  (k_with "lt:kc9" => (try replace kc9 := allLt_of kc9); (try replace kc9 := offs_of kc9); (try dsimp only [AllLt, LCg.Off1, LCg.Off3, OffF, OffG, ledT] at kc9); repeat (first | (have := And.left (And.left kc9); have := And.left (And.right (And.left kc9)); have := And.right (And.right (And.left kc9)); replace kc9 := And.right kc9) | (have := And.left kc9; replace kc9 := And.right kc9)))
  (k_with "k_ne" => refine neN ?_; first | (with_reducible first | assumption | exact Ne.symm (by assumption) | exact Nat.ne_of_lt (by assumption) | exact Ne.symm (Nat.ne_of_lt (by assumption))) | ((try dsimp only); first | ((iterate 2 (first | done | with_reducible (first | exact cN1 _ | exact cN2 _ | exact cN3 _ | exact cL1 (by assumption) | exact cL2 (by assumption) | exact cL3 (by assumption) | exact cL4 (by assumption)) | exact Nat.ne_of_beq_eq_false rfl | refine Ne.symm ?_)); done) | ((iterate 4 (first | done | (with_reducible rename (@Ne Nat _ _) ∧ _ => kc9; (k_extra "lt:kc9"); with_reducible first | assumption | exact Ne.symm (by assumption)) | (with_reducible rename (@Ne Nat _ _) ∧ _ => kc9; clear kc9))); done) | omega))
  (k_with "execs cons" => k_here; (with_reducible rename Fr _ _ _ _ => lF); (let lm := mOf lF); (have F' : Fr _ _ _ lm := lF); (with_reducible refine wpAny_execs_cons ?_); (try dsimp only); (try k_fold))
  (k_with "eval ListComp" => k_here; k_dflt (refine ListComp_C (F₀ := by k_asm) (by with_unfolding_all rfl) (by rfl) (by decide) (by rfl) (by intro _; rfl) (by intro _; rfl) ?_ (by intro _; rfl)))
  (k_with "SrcC" => (with_reducible refine Stop.mk ?_))
  refine con1L (pre' := fun h => h.IsList l us.toArray) (by k_is) (by k_is) (by decide) (fun _ => BindsTo.of_eq rfl) (by rfl) (by decide +kernel) (fun _ _ => lift0) ?_ rfl rfl rfl
  intro outer h₀ L h₁ gn dr tk os cells Q E ee AA G hl F N l0 Y hE hQ
  obtain ⟨A₀, base, B, X, p, loose, mean, mg, mb, T, H⟩ := id G
  k_cells Y
  (try dsimp only [List.cons_append, List.nil_append] at N)
  k_steps
  rename Fr _ _ _ _ => F1
  rename News _ _ _ _ => N1
  refine Stop.un ⟨_, _, 3, _, _, _, _, oddF rs, rfl, F1, N1, by assumption, by decide +kernel, by decide +kernel, by decide, fun I D C K dn d1 d2 d3 => ⟨?_, ?_⟩⟩
  all_goals clear F1 N1
  all_goals k_extra "lt:dn"
  · clear hE hQ
    rintro i oI oC oK us' tv h' tk' E' hi hd F' N'
    k_with_none
    (k_with "k_lt" => intro kH; (try replace kH := allLt_of kH); (try replace kH := offs_of kH); (try dsimp only [AllLt, LCg.Off1, LCg.Off3, OffF, OffG, ledT] at kH); repeat (first | (have := And.left (And.left kH); have := And.left (And.right (And.left kH)); have := And.right (And.right (And.left kH)); replace kH := And.right kH) | (have := And.left kH; replace kH := And.right kH)))
    (k_with "lt:dn" => (try replace dn := allLt_of dn); (try replace dn := offs_of dn); (try dsimp only [AllLt, LCg.Off1, LCg.Off3, OffF, OffG, ledT] at dn); repeat (first | (have := And.left (And.left dn); have := And.left (And.right (And.left dn)); have := And.right (And.right (And.left dn)); replace dn := And.right dn) | (have := And.left dn; replace dn := And.right dn)))
    (k_with "lt:ne'" => (try replace ne' := allLt_of ne'); (try replace ne' := offs_of ne'); (try dsimp only [AllLt, LCg.Off1, LCg.Off3, OffF, OffG, ledT] at ne'); repeat (first | (have := And.left (And.left ne'); have := And.left (And.right (And.left ne')); have := And.right (And.right (And.left ne')); replace ne' := And.right ne') | (have := And.left ne'; replace ne' := And.right ne')))
    (k_with "lt:off'" => (try replace off' := allLt_of off'); (try replace off' := offs_of off'); (try dsimp only [AllLt, LCg.Off1, LCg.Off3, OffF, OffG, ledT] at off'); repeat (first | (have := And.left (And.left off'); have := And.left (And.right (And.left off')); have := And.right (And.right (And.left off')); replace off' := And.right off') | (have := And.left off'; replace off' := And.right off')))
    (k_with "lt:kc9" => (try replace kc9 := allLt_of kc9); (try replace kc9 := offs_of kc9); (try dsimp only [AllLt, LCg.Off1, LCg.Off3, OffF, OffG, ledT] at kc9); repeat (first | (have := And.left (And.left kc9); have := And.left (And.right (And.left kc9)); have := And.right (And.right (And.left kc9)); replace kc9 := And.right kc9) | (have := And.left kc9; replace kc9 := And.right kc9)))
    (k_with "k_ne" => refine neN ?_; first | (with_reducible first | assumption | exact Ne.symm (by assumption) | exact Nat.ne_of_lt (by assumption) | exact Ne.symm (Nat.ne_of_lt (by assumption))) | ((try dsimp only); first | ((iterate 2 (first | done | with_reducible (first | exact cN1 _ | exact cN2 _ | exact cN3 _ | exact cL1 (by assumption) | exact cL2 (by assumption) | exact cL3 (by assumption) | exact cL4 (by assumption)) | exact Nat.ne_of_beq_eq_false rfl | refine Ne.symm ?_)); done) | ((iterate 4 (first | done | (with_reducible rename (@Ne Nat _ _) ∧ _ => kc9; (k_extra "lt:kc9"); with_reducible first | assumption | exact Ne.symm (by assumption)) | (with_reducible rename (@Ne Nat _ _) ∧ _ => kc9; clear kc9))); done) | omega))
    (k_with "subscriptTail Name Name ref int" => k_here; k_dflt (refine sub8 (by k_asm) (by k_asm) (by first | exact src_of (by assumption) | exact src_in (by k_mem)) hu hb (by omega) ?_ (by with_unfolding_all rfl)); intro _)
    obtain ⟨n, hn, hp1, hp2, hp3, hp4⟩ := pw2 i hi
    (k_with "binaryOp Pow int int" => k_here; k_dflt (refine powR hi hn ?_); intro _ _)
    (k_with "binaryOp FloorDiv int int" => k_here; k_dflt (refine fdvR hp4 hp3 (small_at hb _).1 (small_at hb _).2 ?_); intro _ _)
    (k_with "CompSrc" => k_here; k_dflt (refine LCg.CompSrc.range (n := n) (by rfl) (by k_asm) (by k_asm) (by assumption) hp1 hp2 (by rw [PySem.sizeLine_eq]; omega) ?_); intro g'; clear hp1 hp2; k_dflt (refine kcf_range (fun x => ((rs.getD x.toNat 0).fdiv (n : Int)).fmod 2) (fun k' t' I' oI' C' oC' D' m' ys' h' tk' E' hlo' hhi' hC' hx' F' N' off' ne' => ?_) ?_); (all_goals (try (k_extra "lt:off'"; k_extra "lt:ne'"))); (all_goals (try ((show KPfMark → _); intro hMark'))); kcf_last)
    (k_with "KCfEl" => exact ⟨rfl, _, rfl⟩)
    (k_with "EndElt" => (with_reducible refine Stop.mk ?_))
    have ho : oddF rs i = (((rangeKs 0 n).map fun x => ((rs.getD x.toNat 0).fdiv (n : Int)).fmod 2).sum).fmod 2 := by unfold oddF; rw [hn.eq]
    k_steps
    exact Stop.un ⟨⟨_, congrArg (fun z => Value.int z _) ho.symm⟩, _, _, rfl, by k_asm, cb_drop (by k_asm) (by kcj_all)⟩
  · rintro us' h' tk' hi' F' N'
    k_steps
    exact hQ _ _ _ _ _ ⟨_, rfl, rfl, rfl⟩ (by k_asm) (cb_drop (by k_asm) (by kcj_all))
end
section
open PySem PySem.W PyProof.Rows
set_option compiler.extract_closed false in
set_option compiler.extract_closed false in
set_option compiler.extract_closed false in
inductive CJ (cs : List Nat) (D P T : Addr) (all : List Int) (n : Nat) (m : Str → Option Value) (news : List (Addr × Obj)) : Prop
  | mk : ∀ pl t ut us done op ot cnt, n = cs.length - pl → IntsAre us done → done ++ cutF 8 (cs.drop pl) = all → op.data = .cell (some (.int ((pl : Nat) : Int) t)) → ot.data = .cell (some (.str { cps := List.toArray cs } ut)) → m (Str.ofString "row") = some (.ref D) → news = [(D, PySem.W.listOf (List.toArray us) cnt), (P, op), (T, ot)] → CJ cs D P T all n m news
theorem mx2 {m : Int} (h : m = 1 ∨ m = 2) (g : 1 ≤ m ∧ 2 ≤ m) : m = 2 := h.elim (fun e => absurd (e ▸ g.2) (by decide)) id
theorem mx13 {m : Int} (h : m = 1 ∨ m = 3) (g : 1 ≤ m ∧ 3 ≤ m) : m = 3 := h.elim (fun e => absurd (e ▸ g.2) (by decide)) id
theorem mx3 {m : Int} (h : m = 1 ∨ m = 2 ∨ m = 3) (g : 1 ≤ m ∧ 2 ≤ m ∧ 3 ≤ m) : m = 3 := h.elim (fun e => absurd (e ▸ g.2.2) (by decide)) (fun h => h.elim (fun e => absurd (e ▸ g.2.2) (by decide)) id)
set_option maxRecDepth 100000 in
set_option maxHeartbeats 800000 in
theorem cut_c (w : World) (cs : List Nat) (tt : Tok) (h1 : 1 ≤ cs.length) (h8 : cs.length ≤ 8) (hs : ∀ c ∈ cs, c ∈ sgs) :
    Con 400 w 97 [.str { cps := List.toArray cs } tt] [] (fun _ => True) (RetN (cutF 8 cs)) := by
  have : Challenge.rw_re0146_01 = Challenge.rw_re0146_01 ∧ hd.heap_39 w.params = hd.heap_39 w.params := by k_fill; exact ⟨rfl, rfl⟩
  clear this
  w_top off
  k_with_none
  (k_with "k_lt" => intro kH; (try replace kH := allLt_of kH); (try replace kH := offs_of kH); (try dsimp only [AllLt, LCg.Off1, LCg.Off3, OffF, OffG, ledT] at kH); repeat (first | (have := And.left (And.left kH); have := And.left (And.right (And.left kH)); have := And.right (And.right (And.left kH)); replace kH := And.right kH) | (have := And.left kH; replace kH := And.right kH)))
  (k_with "lt:kc9" => (try replace kc9 := allLt_of kc9); (try replace kc9 := offs_of kc9); (try dsimp only [AllLt, LCg.Off1, LCg.Off3, OffF, OffG, ledT] at kc9); repeat (first | (have := And.left (And.left kc9); have := And.left (And.right (And.left kc9)); have := And.right (And.right (And.left kc9)); replace kc9 := And.right kc9) | (have := And.left kc9; replace kc9 := And.right kc9)))
  (k_with "k_ne" => refine neN ?_; first | (with_reducible first | assumption | exact Ne.symm (by assumption) | exact Nat.ne_of_lt (by assumption) | exact Ne.symm (Nat.ne_of_lt (by assumption))) | ((try dsimp only); first | ((iterate 2 (first | done | with_reducible (first | exact cN1 _ | exact cN2 _ | exact cN3 _ | exact cL1 (by assumption) | exact cL2 (by assumption) | exact cL3 (by assumption) | exact cL4 (by assumption)) | exact Nat.ne_of_beq_eq_false rfl | refine Ne.symm ?_)); done) | ((iterate 4 (first | done | (with_reducible rename (@Ne Nat _ _) ∧ _ => kc9; (k_extra "lt:kc9"); with_reducible first | assumption | exact Ne.symm (by assumption)) | (with_reducible rename (@Ne Nat _ _) ∧ _ => kc9; clear kc9))); done) | omega))
  (k_with "execs cons" => k_here; (with_reducible rename Fr _ _ _ _ => lF); (let lm := mOf lF); (have F' : Fr _ _ _ lm := lF); (with_reducible refine wpAny_execs_cons ?_); (try dsimp only); (try k_fold))
  (k_with "exec While Compare" => (with_reducible refine Stop.mk ?_))
  refine con1L (pre' := fun _ => True) (by k_is) (by k_is) (by decide) (fun _ => BindsTo.of_eq rfl) (by rfl) (by decide +kernel) (fun _ _ _ _ => trivial) ?_ rfl rfl rfl
  intro outer h₀ L h₁ gn dr tk os cells Q E ee AA G _ F N l0 Y hE hQ
  obtain ⟨A₀, base, B, X, p, loose, mean, mg, mb, T, H⟩ := id G
  k_cells Y
  (try dsimp only [List.cons_append, List.nil_append] at N)
  k_steps
  rename Fr _ _ _ _ => F1
  rename News _ _ _ _ => N1
  refine Stop.un (While_inv2 (CJ cs _ _ _ (cutF 8 cs)) F1 N1 ⟨0, _, _, [], [], _, _, _, rfl, .nil, rfl, by assumption, by assumption, rfl, rfl⟩ ?_ (by exact hE))
  clear F1 N1
  rintro n m' news' h' tk' F' N' ⟨pl, t, ut, us, done, op, ot, cnt, rfl, hi, hd, dp, dt, mr, rfl⟩
  rw [hold mr] at F'
  by_cases hlt : pl < cs.length
  · have hrl : 1 ≤ (cs.drop pl).length := by rw [List.length_drop]; exact Nat.sub_pos_of_lt (by assumption)
    have hrs : ∀ c ∈ cs.drop pl, c ∈ sgs := fun c hc => hs c (List.mem_of_mem_drop hc)
    (k_with "call builtin:len" => k_here; (with_reducible show wpAny _ _ (call (Value.builtin "len") [Value.str (Str.mk _) _]) _ _ _); k_dflt (refine lenS (n := cs.length) (slen cs) (n8 h8) ?_); intro _ _)
    (k_with "exec Assign" => (with_reducible refine Stop.mk ?_))
    k_steps
    rename Fr _ _ _ _ => F1
    rename News _ _ _ _ => N1
    refine Stop.un (wpAny_mono (Q := EndS h₀ L (nOf N1) (mOf F1) (Str.ofString "size") (cutS (cs.drop pl) : Nat) gn dr os) ?_ ?_ (fun _ _ e => e))
    · clear hE hQ
      k_with_none
      (k_with "k_lt" => intro kH; (try replace kH := allLt_of kH); (try replace kH := offs_of kH); (try dsimp only [AllLt, LCg.Off1, LCg.Off3, OffF, OffG, ledT] at kH); repeat (first | (have := And.left (And.left kH); have := And.left (And.right (And.left kH)); have := And.right (And.right (And.left kH)); replace kH := And.right kH) | (have := And.left kH; replace kH := And.right kH)))
      (k_with "lt:kc9" => (try replace kc9 := allLt_of kc9); (try replace kc9 := offs_of kc9); (try dsimp only [AllLt, LCg.Off1, LCg.Off3, OffF, OffG, ledT] at kc9); repeat (first | (have := And.left (And.left kc9); have := And.left (And.right (And.left kc9)); have := And.right (And.right (And.left kc9)); replace kc9 := And.right kc9) | (have := And.left kc9; replace kc9 := And.right kc9)))
      (k_with "k_ne" => refine neN ?_; first | (with_reducible first | assumption | exact Ne.symm (by assumption) | exact Nat.ne_of_lt (by assumption) | exact Ne.symm (Nat.ne_of_lt (by assumption))) | ((try dsimp only); first | ((iterate 2 (first | done | with_reducible (first | exact cN1 _ | exact cN2 _ | exact cN3 _ | exact cL1 (by assumption) | exact cL2 (by assumption) | exact cL3 (by assumption) | exact cL4 (by assumption)) | exact Nat.ne_of_beq_eq_false rfl | refine Ne.symm ?_)); done) | ((iterate 4 (first | done | (with_reducible rename (@Ne Nat _ _) ∧ _ => kc9; (k_extra "lt:kc9"); with_reducible first | assumption | exact Ne.symm (by assumption)) | (with_reducible rename (@Ne Nat _ _) ∧ _ => kc9; clear kc9))); done) | omega))
      (k_with "eval ListComp" => k_here; k_dflt (refine ListComp_TT (F₀ := by k_asm) (by with_unfolding_all rfl) (by decide) (by rfl) (by decide) (by rfl) ?_ (by intro _; rfl)))
      (k_with "SrcTT" => k_here; k_dflt (refine SrcTT.intro (by rfl) (by k_asm) (by k_asm) (by k_mem) (by exact Nat.le_of_ble_eq_true rfl) ?_); intro g'; k_dflt lct_lit)
      (k_with "subscriptTail Name Slice str ref" => k_here; (with_reducible rename Fr _ _ _ _ => lF'); (with_reducible rename News _ _ _ _ => lN'); k_dflt (first | (refine slR (k := 1) (s := ⟨_, _, _, _, _⟩) h8 (by rfl) lF' lN' ?_ (by with_unfolding_all rfl) (by intro _; with_unfolding_all rfl)) | (refine slR (k := 2) (s := ⟨_, _, _, _, _⟩) h8 (by rfl) lF' lN' ?_ (by with_unfolding_all rfl) (by intro _; with_unfolding_all rfl)) | (refine slR (k := 3) (s := ⟨_, _, _, _, _⟩) h8 (by rfl) lF' lN' ?_ (by with_unfolding_all rfl) (by intro _; with_unfolding_all rfl))); intro _ _ _ _ _)
      (k_with "compareOp In str ref" => k_here; k_dflt (refine tokInB (by k_asm) X hrl hrs (by decide) (by decide) (by assumption) ?_); intro _)
      (k_with "CompEnd" => (with_reducible rename News _ _ _ _ => lN'); k_dflt (refine compEnd3 (by k_asm) lN' (by simp only [LCg.Off3, and_true]; assumption) (by k_mem) ?_))
      have e1 : (codeT ((cs.drop pl).take 1)).isSome = true := code1 hrl hrs
      rcases e3 : (codeT ((cs.drop pl).take 3)).isSome with _ | _
      · rcases e2 : (codeT ((cs.drop pl).take 2)).isSome with _ | _
        · k_steps
          refine ⟨rfl, _, _, _, _, ?_, rfl, by k_asm, cb_drop (by k_asm) (by kcj_all)⟩
          have := cutS1 e3 e2
          first | exact Eq.trans (b := (1 : Int)) (by assumption) this | exact Eq.trans (b := (1 : Int)) (by assumption) this.symm | exact Eq.trans (b := (1 : Int)) (by assumption) (congrArg Int.ofNat this.symm) | omega
        · k_steps
          refine ⟨rfl, _, _, _, _, ?_, rfl, by k_asm, cb_drop (by k_asm) (by kcj_all)⟩
          have := cutS2 e3 e2
          first | exact (mx2 (by assumption) (by assumption)).trans this | exact (mx2 (by assumption) (by assumption)).trans this.symm | omega
      · rcases e2 : (codeT ((cs.drop pl).take 2)).isSome with _ | _
        all_goals k_steps
        all_goals (refine ⟨rfl, _, _, _, _, ?_, rfl, by k_asm, cb_drop (by k_asm) (by kcj_all)⟩; have := cutS3 e3; first | exact (mx3 (by assumption) (by assumption)).trans this | exact (mx3 (by assumption) (by assumption)).trans this.symm | exact (mx13 (by assumption) (by assumption)).trans this | exact (mx13 (by assumption) (by assumption)).trans this.symm | omega)
    rintro _ _ ⟨rfl, h', tk2, t2, y2, hy2, rfl, F', N'⟩
    subst hy2
    dsimp only [nOf, mOf] at F' N'
    clear F1 N1
    obtain ⟨d, hcd⟩ := cut_some hrl hrs
    have hcl := cut_len (cs.drop pl)
    have hul : us.length ≤ 8 := by
      have e1 := congrArg List.length hd
      have e2 := cutF_len 8 cs
      rw [List.length_append] at e1
      exact sum8 e1 e2 hi.length
    k_with_none
    (k_with "k_lt" => intro kH; (try replace kH := allLt_of kH); (try replace kH := offs_of kH); (try dsimp only [AllLt, LCg.Off1, LCg.Off3, OffF, OffG, ledT] at kH); repeat (first | (have := And.left (And.left kH); have := And.left (And.right (And.left kH)); have := And.right (And.right (And.left kH)); replace kH := And.right kH) | (have := And.left kH; replace kH := And.right kH)))
    (k_with "lt:kc9" => (try replace kc9 := allLt_of kc9); (try replace kc9 := offs_of kc9); (try dsimp only [AllLt, LCg.Off1, LCg.Off3, OffF, OffG, ledT] at kc9); repeat (first | (have := And.left (And.left kc9); have := And.left (And.right (And.left kc9)); have := And.right (And.right (And.left kc9)); replace kc9 := And.right kc9) | (have := And.left kc9; replace kc9 := And.right kc9)))
    (k_with "k_ne" => refine neN ?_; first | (with_reducible first | assumption | exact Ne.symm (by assumption) | exact Nat.ne_of_lt (by assumption) | exact Ne.symm (Nat.ne_of_lt (by assumption))) | ((try dsimp only); first | ((iterate 2 (first | done | with_reducible (first | exact cN1 _ | exact cN2 _ | exact cN3 _ | exact cL1 (by assumption) | exact cL2 (by assumption) | exact cL3 (by assumption) | exact cL4 (by assumption)) | exact Nat.ne_of_beq_eq_false rfl | refine Ne.symm ?_)); done) | ((iterate 4 (first | done | (with_reducible rename (@Ne Nat _ _) ∧ _ => kc9; (k_extra "lt:kc9"); with_reducible first | assumption | exact Ne.symm (by assumption)) | (with_reducible rename (@Ne Nat _ _) ∧ _ => kc9; clear kc9))); done) | omega))
    (k_with "execs cons" => k_here; (with_reducible rename Fr _ _ _ _ => lF); (let lm := mOf lF); (have F' : Fr _ _ _ lm := lF); (with_reducible refine wpAny_execs_cons ?_); (try dsimp only); (try k_fold))
    (k_with "subscriptTail Name Slice str ref" => k_here; (with_reducible rename Fr _ _ _ _ => lF'); (with_reducible rename News _ _ _ _ => lN'); k_dflt (refine slR (k := cutS (cs.drop pl)) (s := ⟨_, _, _, _, _⟩) h8 (by rfl) lF' lN' ?_ (by with_unfolding_all rfl) (by intro _; with_unfolding_all rfl)); intro _ _ _ _ _)
    (k_with "subscriptTail Name Subscript ref str" => k_here; k_dflt (refine tokItem (by k_asm) X (by rw [List.length_take]; exact Nat.le_min.mpr ⟨hcl.1, hrl⟩) (by rw [List.length_take]; exact Nat.le_trans (Nat.min_le_left _ _) hcl.2) (fun c hc => hrs c (List.mem_of_mem_take hc)) hcd ?_ (by with_unfolding_all rfl)); intro _ _)
    (k_with "call builtin:list.append" => k_here; k_dflt (refine append_K (by k_asm) (by k_asm) (by k_upd) ?_ (by exact line8 hul)); intro h' F' N'; (rw [lpush] at N'))
    k_steps
    exact ⟨_, _, _, _, cs.length - (pl + cutS (cs.drop pl)), rfl, by k_asm, by k_asm, Nat.sub_lt_sub_left (by assumption) (Nat.lt_add_of_pos_right hcl.1), pl + cutS (cs.drop pl), _, ut, _, done ++ [d], _, ot, _, rfl, IntsAre.append hi (.cons d _ .nil), cutNext hrl (by rw [List.length_drop]; exact Nat.le_trans (Nat.sub_le _ _) (by assumption)) hcd hd, Eq.trans (by assumption) (by rfl), dt, rfl, rfl⟩
  · (k_with "call builtin:len" => k_here; (with_reducible show wpAny _ _ (call (Value.builtin "len") [Value.str (Str.mk _) _]) _ _ _); k_dflt (refine lenS (n := cs.length) (slen cs) (n8 h8) ?_); intro _ _)
    k_steps
    exact hQ _ _ _ _ _ ⟨_, _, _, rfl, rfl, cutEnd hd (Nat.not_lt.mp hlt) ▸ hi⟩ (by k_asm) (cb_drop (by k_asm) (by kcj_all))
end
section
open PySem PySem.W PyProof.Rows
set_option compiler.extract_closed false in
set_option compiler.extract_closed false in
set_option compiler.extract_closed false in
inductive LJ (la lb : List Nat) (p k : Nat) (m : Str → Option Value) (news : List (Addr × Obj)) : Prop
  | mk : ∀ i t t1 t2 t3, k = p - i → i ≤ p → m (Str.ofString "pre") = some (.int ((i : Nat) : Int) t) → m (Str.ofString "a") = some (.str { cps := List.toArray la } t1) → m (Str.ofString "b") = some (.str { cps := List.toArray lb } t2) → m (Str.ofString "max_cost") = some (.int 6 t3) → news = [] → LJ la lb p k m news
inductive LK (A B : List Nat) (m : Str → Option Value) (news : List (Addr × Obj)) : Prop
  | mk : ∀ t t1 t2 t3, m (Str.ofString "post") = some (.int 0 t) → m (Str.ofString "a") = some (.str { cps := List.toArray A } t1) → m (Str.ofString "b") = some (.str { cps := List.toArray B } t2) → m (Str.ofString "max_cost") = some (.int 6 t3) → news = [] → LK A B m news
inductive OJ (A B : List Nat) (D : Addr) (n b : Nat) (m : Str → Option Value) (news : List (Addr × Obj)) : Prop
  | mk : ∀ us c r tr t1 t2 t3, RowIs us n (fun j => 2 * max (b : Int) ((j : Int) + 1)) → m (Str.ofString "a") = some (.str { cps := List.toArray A } t1) → m (Str.ofString "b") = some (.str { cps := List.toArray B } t2) → m (Str.ofString "max_cost") = some (.int 6 t3) → m (Str.ofString "row") = some (.ref D) → m (Str.ofString "result") = some (.int r tr) → (b ≠ 0 → r = 2 * (n : Int)) → news = [(D, PySem.W.listOf (List.toArray us) c)] → OJ A B D n b m news
theorem rsz {n : Nat} (h : n ≤ 3) : Builtin.Range.small 0 (n : Int) 1 = true ∧ Builtin.Range.rangeSize 0 (n : Int) 1 = (n : Int) := by
  have h4 := le3 h
  rcases h4 with rfl | rfl | rfl | rfl <;> decide +kernel
inductive IJ (A B : List Nat) (D : Addr) (n b : Nat) (I : Addr) (it : Obj) (k : Nat) (m : Str → Option Value) (news : List (Addr × Obj)) : Prop
  | mk : ∀ us c dv rv mv td tr tm tb t1 t2 t3, RowIs us n (fun j => if j < k then 2 * max ((b : Int) + 1) ((j : Int) + 1) else 2 * max (b : Int) ((j : Int) + 1)) → m (Str.ofString "a") = some (.str { cps := List.toArray A } t1) → m (Str.ofString "b") = some (.str { cps := List.toArray B } t2) → m (Str.ofString "max_cost") = some (.int 6 t3) → m (Str.ofString "row") = some (.ref D) → m (Str.ofString "bchar") = some (.str { cps := #[B.getD b 0] } tb) → m (Str.ofString "distance") = some (.int dv td) → m (Str.ofString "result") = some (.int rv tr) → m (Str.ofString "minimum") = some (.int mv tm) → dv = 2 * max (b : Int) (k : Int) → rv = (if k = 0 then 2 * (b : Int) else 2 * max ((b : Int) + 1) (k : Int)) → (k = 0 → mv = 9223372036854775807) → (k ≠ 0 → mv = 2 * (b : Int) + 2) → news = [(I, it), (D, PySem.W.listOf (List.toArray us) c)] → IJ A B D n b I it k m news
theorem RowIs.cong {us : List Value} {n : Nat} {f g : Nat → Int} (h : RowIs us n f) (e : ∀ j, j < n → g j = f j) : RowIs us n g := ⟨h.1, fun j hj => by rw [e j hj]; exact h.2 j hj⟩
theorem getD_of {l : List Nat} {k : Nat} (h : ∀ c ∈ l, 50 ≤ c ∧ c < 64) (hk : k < l.length) : 50 ≤ l.getD k 0 ∧ l.getD k 0 < 64 := by
  rw [List.getD_eq_getElem?_getD, List.getElem?_eq_getElem hk]
  exact h _ (List.getElem_mem hk)
theorem levz (b k : Nat) (hb3 : b < 3) (hk3 : k < 3) (dv rv fk : Int) (hdv : dv = 2 * max (b : Int) (k : Int)) (hrv : rv = (if k = 0 then 2 * (b : Int) else 2 * max ((b : Int) + 1) (k : Int))) (hfk : fk = 2 * max (b : Int) ((k : Int) + 1)) :
    (if dv + 2 < (if fk < rv then fk else rv) + 2 then dv + 2 else (if fk < rv then fk else rv) + 2) = 2 * max ((b : Int) + 1) ((k : Int) + 1) := by
  subst hdv hrv hfk
  have key : ∀ b k : Fin 3, (if (2 * max (b.val : Int) (k.val : Int)) + 2 < (if (2 * max (b.val : Int) ((k.val : Int) + 1)) < (if k.val = 0 then 2 * (b.val : Int) else 2 * max ((b.val : Int) + 1) (k.val : Int)) then (2 * max (b.val : Int) ((k.val : Int) + 1)) else (if k.val = 0 then 2 * (b.val : Int) else 2 * max ((b.val : Int) + 1) (k.val : Int))) + 2 then (2 * max (b.val : Int) (k.val : Int)) + 2 else (if (2 * max (b.val : Int) ((k.val : Int) + 1)) < (if k.val = 0 then 2 * (b.val : Int) else 2 * max ((b.val : Int) + 1) (k.val : Int)) then (2 * max (b.val : Int) ((k.val : Int) + 1)) else (if k.val = 0 then 2 * (b.val : Int) else 2 * max ((b.val : Int) + 1) (k.val : Int))) + 2) = 2 * max ((b.val : Int) + 1) ((k.val : Int) + 1) := by decide +kernel
  exact key ⟨b, hb3⟩ ⟨k, hk3⟩
theorem levk : ∀ b k : Fin 3, (k.val = 0 → 2 * max ((b.val : Int) + 1) ((k.val : Int) + 1) = 2 * (b.val : Int) + 2) ∧ (¬ k.val = 0 → ¬ 2 * max ((b.val : Int) + 1) ((k.val : Int) + 1) < 2 * (b.val : Int) + 2) ∧ 2 * max ((b.val : Int) + 1) ((k.val : Int) + 1) < 9223372036854775807 := by decide +kernel
theorem levm {b k : Nat} (hb : b < 3) (hk : k < 3) {z mv : Int} (hz : z = 2 * max ((b : Int) + 1) ((k : Int) + 1)) (h : z < mv) (h1 : k ≠ 0 → mv = 2 * (b : Int) + 2) : 2 * max ((b : Int) + 1) ((k : Int) + 1) = 2 * (b : Int) + 2 := by
  have q := levk ⟨b, hb⟩ ⟨k, hk⟩
  by_cases e : k = 0
  · exact q.1 e
  · rw [hz, h1 e] at h; exact absurd h (q.2.1 e)
theorem levn {b k : Nat} (hb : b < 3) (hk : k < 3) {z mv : Int} (hz : z = 2 * max ((b : Int) + 1) ((k : Int) + 1)) (h : ¬ z < mv) (h0 : k = 0 → mv = 9223372036854775807) (h1 : k ≠ 0 → mv = 2 * (b : Int) + 2) : mv = 2 * (b : Int) + 2 := by
  have q := levk ⟨b, hb⟩ ⟨k, hk⟩
  by_cases e : k = 0
  · rw [hz, h0 e] at h; exact absurd q.2.2 h
  · exact h1 e
theorem rowg {b k : Nat} (j : Nat) (hj : j ≠ k) : (if j < k + 1 then 2 * max ((b : Int) + 1) ((j : Int) + 1) else 2 * max (b : Int) ((j : Int) + 1)) = (if j < k then 2 * max ((b : Int) + 1) ((j : Int) + 1) else 2 * max (b : Int) ((j : Int) + 1)) := by
  by_cases h : j < k
  · rw [if_pos h, if_pos (by omega)]
  · rw [if_neg h, if_neg (by omega)]
theorem dfac {l : List Nat} {p n i : Nat} (h : l.length = p + n) (hi : i ≤ p) (hn : 1 ≤ n) (h3 : p + n ≤ 3) : (1 ≤ (l.drop i).length ∧ (l.drop i).length ≤ 3) ∧ i < l.length := by
  have g := Nat.lt_of_le_of_lt hi (Nat.lt_add_of_pos_right hn)
  rw [List.length_drop, h]
  exact ⟨⟨Nat.sub_pos_of_lt g, Nat.le_trans (Nat.sub_le _ _) h3⟩, g⟩
theorem dlen {l : List Nat} {p n : Nat} (h : l.length = p + n) : (l.drop p).length = n := by rw [List.length_drop, h, Nat.add_sub_cancel_left]
theorem unrEnd2 {h₀ h' : Heap} {L I : Addr} {it : Obj} {s₁ : Shared} {tk : Nat} {m' : Str → Option Value} {al : List (Addr × Obj)} {rest : (Str → Option Value) → List (Addr × Obj) → Prop} {p q : Addr × Obj} (F : Fr h₀ L h' m') (N : News h₀ L h' al) (hI : (I, it) ∈ al) (hp : p ∈ al) (hq : q ∈ al) (o1 : @Ne Nat p.1 I) (o2 : @Ne Nat q.1 I) (r : rest m' [p, q]) :
    UnrEnd h₀ L s₁ I it rest { s₁ with heap := h', toks := tk } :=
  .intro F N [p, q] (List.forall_mem_cons.mpr ⟨hI, List.forall_mem_cons.mpr ⟨hp, List.forall_mem_cons.mpr ⟨hq, List.forall_mem_nil _⟩⟩⟩) (List.forall_mem_cons.mpr ⟨o1, List.forall_mem_cons.mpr ⟨o2, List.forall_mem_nil _⟩⟩) r
theorem ne_head {la lb : List Nat} {p n : Nat} (hla : la.length = p + n) (hn : 1 ≤ n) (h : (la.drop p).getD 0 0 ≠ (lb.drop p).getD 0 0) : (({ cps := List.toArray la } : Str) == { cps := List.toArray lb }) = false := by
  apply beq_false_of_ne; intro e; injection e with e
  have : la = lb := by simpa using e
  exact h (by rw [this])
theorem mxn {b n : Nat} (h : b < n) : 2 * max ((b + 1 : Nat) : Int) (n : Int) = 2 * (n : Int) := by rw [Int.max_eq_right (Int.ofNat_le.mpr h)]
theorem mxb (b : Nat) : (b : Int) * 2 = 2 * max (b : Int) ((0 : Nat) : Int) := by rw [Int.max_eq_left (show ((0 : Nat) : Int) ≤ (b : Int) from Int.natCast_nonneg b), Int.mul_comm]
theorem ne_one {a b : Nat} (h : a ≠ b) : (({ cps := #[a] } : Str) == { cps := #[b] }) = false := ne1 h
set_option maxRecDepth 100000 in
set_option maxHeartbeats 800000 in
theorem lev_c (w : World) (la lb : List Nat) (p n : Nat) (t1 t2 t3 : Tok) (hla : la.length = p + n) (hlb : lb.length = p + n) (hpn : p + n ≤ 3) (hn : 1 ≤ n) (heq : ∀ i, i < p → la.getD i 0 = lb.getD i 0)
    (hne : ∀ i j, i < n → j < n → (la.drop p).getD i 0 ≠ (lb.drop p).getD j 0) (hA : ∀ c ∈ la, 50 ≤ c ∧ c < 64) (hB : ∀ c ∈ lb, 50 ≤ c ∧ c < 64) :
    Con 400 w 87 [.str { cps := List.toArray la } t1, .str { cps := List.toArray lb } t2, .int 6 t3] [] (fun _ => True) (RetZ (2 * (n : Int))) := by
  have : Challenge.rw_re0146_01 = Challenge.rw_re0146_01 ∧ hd.heap_39 w.params = hd.heap_39 w.params := by k_fill; exact ⟨rfl, rfl⟩
  clear this
  have hab := ne_head hla hn (hne 0 0 hn hn)
  have hn3 : n ≤ 3 := Nat.le_trans (Nat.le_add_left _ _) hpn
  have ha3 : la.length ≤ 3 := hla ▸ hpn
  have hb3 : lb.length ≤ 3 := hlb ▸ hpn
  have hn0 : n ≠ 0 := Nat.ne_of_gt hn
  w_top off
  k_with_none
  (k_with "k_lt" => intro kH; (try replace kH := allLt_of kH); (try replace kH := offs_of kH); (try dsimp only [AllLt, LCg.Off1, LCg.Off3, OffF, OffG, ledT] at kH); repeat (first | (have := And.left (And.left kH); have := And.left (And.right (And.left kH)); have := And.right (And.right (And.left kH)); replace kH := And.right kH) | (have := And.left kH; replace kH := And.right kH)))
  (k_with "lt:l1" => (try replace l1 := allLt_of l1); (try replace l1 := offs_of l1); (try dsimp only [AllLt, LCg.Off1, LCg.Off3, OffF, OffG, ledT] at l1); repeat (first | (have := And.left (And.left l1); have := And.left (And.right (And.left l1)); have := And.right (And.right (And.left l1)); replace l1 := And.right l1) | (have := And.left l1; replace l1 := And.right l1)))
  (k_with "lt:l2" => (try replace l2 := allLt_of l2); (try replace l2 := offs_of l2); (try dsimp only [AllLt, LCg.Off1, LCg.Off3, OffF, OffG, ledT] at l2); repeat (first | (have := And.left (And.left l2); have := And.left (And.right (And.left l2)); have := And.right (And.right (And.left l2)); replace l2 := And.right l2) | (have := And.left l2; replace l2 := And.right l2)))
  (k_with "lt:l3" => (try replace l3 := allLt_of l3); (try replace l3 := offs_of l3); (try dsimp only [AllLt, LCg.Off1, LCg.Off3, OffF, OffG, ledT] at l3); repeat (first | (have := And.left (And.left l3); have := And.left (And.right (And.left l3)); have := And.right (And.right (And.left l3)); replace l3 := And.right l3) | (have := And.left l3; replace l3 := And.right l3)))
  (k_with "lt:kc9" => (try replace kc9 := allLt_of kc9); (try replace kc9 := offs_of kc9); (try dsimp only [AllLt, LCg.Off1, LCg.Off3, OffF, OffG, ledT] at kc9); repeat (first | (have := And.left (And.left kc9); have := And.left (And.right (And.left kc9)); have := And.right (And.right (And.left kc9)); replace kc9 := And.right kc9) | (have := And.left kc9; replace kc9 := And.right kc9)))
  (k_with "k_ne" => refine neN ?_; first | (with_reducible first | assumption | exact Ne.symm (by assumption) | exact Nat.ne_of_lt (by assumption) | exact Ne.symm (Nat.ne_of_lt (by assumption))) | ((try dsimp only); first | ((iterate 2 (first | done | with_reducible (first | exact cN1 _ | exact cN2 _ | exact cN3 _ | exact cL1 (by assumption) | exact cL2 (by assumption) | exact cL3 (by assumption) | exact cL4 (by assumption)) | exact Nat.ne_of_beq_eq_false rfl | refine Ne.symm ?_)); done) | ((iterate 4 (first | done | (with_reducible rename (@Ne Nat _ _) ∧ _ => kc9; (k_extra "lt:kc9"); with_reducible first | assumption | exact Ne.symm (by assumption)) | (with_reducible rename (@Ne Nat _ _) ∧ _ => kc9; clear kc9))); done) | omega))
  (k_with "binaryOp Mult int int" => refine PyProof.Rows.mul_int ?_ (by first | exact .of_right bl2 | exact .of_left bl2 | exact .of_left (blN (by assumption) (by assumption)) | mul_fits))
  (k_with "execs cons" => k_here; (with_reducible rename Fr _ _ _ _ => lF); (let lm := mOf lF); (have F' : Fr _ _ _ lm := lF); (with_reducible refine wpAny_execs_cons ?_); (try dsimp only); (try k_fold))
  (k_with "compareOp Eq str str" => k_here; (with_reducible show wpAny _ _ (compareOp _ (Value.str (Str.mk _) _) (Value.str (Str.mk _) _)) _ _ _); k_dflt (refine eqS (by assumption) ?_))
  (k_with "exec While BoolOp" => (with_reducible refine Stop.mk ?_))
  refine con0L (pre' := fun _ => True) (by k_is) (by k_is) (by decide) (fun _ => BindsTo.of_eq rfl) (locs rfl) (fun _ _ _ _ => trivial) ?_ rfl rfl rfl (by decide)
  intro outer h₀ L h₁ gn dr tk os Q E ee AA G _ F N l0 hE hQ
  obtain ⟨A₀, base, B, X, p', loose, mean, mg, mb, T, H⟩ := id G
  k_steps
  rename Fr _ _ _ _ => F1
  rename News _ _ _ _ => N1
  refine Stop.un (While_inv2 (LJ la lb p) F1 N1 ⟨0, _, _, _, _, rfl, Nat.zero_le _, rfl, rfl, rfl, rfl, rfl⟩ ?_ (by exact hE))
  clear F1 N1
  rintro k m' news' h' tk' F' N' ⟨i, t, u1, u2, u3, rfl, hip, mp, ma, mb', mm, rfl⟩
  rw [hold mp, hold ma, hold mb', hold mm] at F'
  have ⟨⟨da1, da3⟩, ia⟩ := dfac hla hip hn hpn
  have ⟨⟨db1, db3⟩, ib⟩ := dfac hlb hip hn hpn
  have ia3 := Nat.le_of_lt ia
  have ib3 := Nat.le_of_lt ib
  (k_with "truthy str" => k_here; (with_reducible show wpAny _ _ (PySem.truthy (Value.str (Str.mk _) _)) _ _ _); k_dflt (refine truD (by assumption) (by assumption) ?_); intro _)
  (k_with "subscriptTail Name Slice str ref" => k_here; (with_reducible rename Fr _ _ _ _ => lF'); (with_reducible rename News _ _ _ _ => lN'); k_dflt (first | (refine slD (s := ⟨_, _, _, _, _⟩) (by assumption) (by assumption) lF' lN' ?_ (by with_unfolding_all rfl) (by intro _; with_unfolding_all rfl)) | (refine slA (s := ⟨_, _, _, _, _⟩) (by assumption) lF' lN' ?_ (by with_unfolding_all rfl) (by intro _; with_unfolding_all rfl))); intro _ _ _ _ _)
  (k_with "subscriptTail Name Name str int" => k_here; k_dflt (refine itD (by assumption) (by assumption) ?_ (by with_unfolding_all rfl) (by intro _; with_unfolding_all rfl)); intro _ _)
  by_cases hi : i < p
  · have hsame : (({ cps := #[la.getD i 0] } : Str) == { cps := #[lb.getD i 0] }) = true := by rw [heq i hi]; exact beq_self_eq_true _
    k_steps
    exact ⟨_, _, _, _, p - (i + 1), rfl, by assumption, by assumption, Nat.sub_lt_sub_left hi (Nat.lt_succ_self i), i + 1, _, _, _, _, rfl, hi, rfl, rfl, rfl, rfl, rfl⟩
  · obtain rfl : i = p := Nat.le_antisymm hip (Nat.not_lt.mp hi)
    have hdiff : (({ cps := #[la.getD i 0] } : Str) == { cps := #[lb.getD i 0] }) = false := by
      apply ne1
      have := hne 0 0 hn hn
      simpa [List.getD_eq_getElem?_getD, List.getElem?_drop] using this
    k_steps
    rename Fr _ _ _ _ => F1
    rename News _ _ _ _ => N1
    refine Stop.un (While_inv2 (n₀ := 0) (fun _ => LK (la.drop i) (lb.drop i)) F1 N1 ⟨_, _, _, _, rfl, rfl, rfl, rfl, rfl⟩ ?_ (by exact hE))
    clear F1 N1
    rintro k m' news' h' tk' F' N' ⟨t, u1, u2, u3, mp, ma, mb', mm, rfl⟩
    rw [hold mp, hold ma, hold mb', hold mm] at F'
    have hAn : (la.drop i).length = n := dlen hla
    have hBn : (lb.drop i).length = n := dlen hlb
    have hlast : (({ cps := #[(la.drop i).getD ((la.drop i).length - 1) 0] } : Str) == { cps := #[(lb.drop i).getD ((lb.drop i).length - 1) 0] }) = false := ne1 (hne _ _ (by rw [hAn]; exact Nat.sub_lt hn Nat.one_pos) (by rw [hBn]; exact Nat.sub_lt hn Nat.one_pos))
    (k_with "subscriptTail Name BinOp str int" => k_here; k_dflt (refine itL (by assumption) (by assumption) ?_ (by with_unfolding_all rfl) (by intro _; with_unfolding_all rfl)); intro _ _)
    (k_with "call builtin:len" => k_here; (with_reducible show wpAny _ _ (call (Value.builtin "len") [Value.str (Str.mk _) _]) _ _ _); k_dflt (refine lenD (by assumption) (by assumption) ?_); intro _ _)
    (k_with "call type:list" => k_here; k_dflt (refine list2 (n := n) (by rfl) (by k_asm) (by k_asm) (by assumption) (by first | assumption | with_reducible rfl | omega) (by first | assumption | with_reducible rfl | omega) ?_); intro D' vs' c' h' tk' F' N' l1 hI'; (try k_extra "lt:l1"))
    (k_with "pyIter ref" => (with_reducible refine Stop.mk ?_))
    k_steps
    rename Fr _ _ _ _ => F1
    rename News _ _ _ _ => N1
    refine Stop.un (iter_rangeUnr (n := n) (by rfl) (by assumption) (rsz hn3).1 (rsz hn3).2 F1 N1 ?_)
    intro I l2
    k_extra "lt:l2"
    refine RangeRest.by (OJ (la.drop i) (lb.drop i) D' n) ?h0 ?hs n 0 _ _ (Nat.zero_add n) ⟨_, _, 0, _, _, _, _, hI'.cong (fun j _ => by first | rfl | omega), rfl, rfl, rfl, rfl, rfl, fun h => absurd rfl h, rfl⟩
    all_goals (clear F1 N1 hla hlb ia3 ib3 ia ib da1 db1 hpn)
    case h0 =>
      rintro m' news' h' tk' ⟨us, c, r, tr, u1, u2, u3, hrow, ma, mb', mm, mr, mres, hr, rfl⟩ F' N'
      rw [hold ma, hold mb', hold mm, hold mr, hold mres] at F'
      k_steps
      exact hQ _ _ _ _ _ ⟨_, by rw [hr hn0], rfl⟩ (by k_asm) (cb_drop (by k_asm) (by kcj_all))
    case hs =>
      rintro b m' news' t h' tk' hbn ⟨us, c, r, tr, u1, u2, u3, hrow, ma, mb', mm, mr, mres, hr, rfl⟩ F' N'
      rw [hold ma, hold mb', hold mm, hold mr, hold mres] at F'
      rw [Int.zero_add] at F'
      (k_with "subscriptTail Name Name str int" => k_here; k_dflt (refine itD (by assumption) (by first | (rw [hBn]; exact hbn) | (rw [hAn]; exact hkn) | omega) ?_ (by with_unfolding_all rfl) (by intro _; with_unfolding_all rfl)); intro _ _)
      k_steps
      rename Fr _ _ _ _ => F1
      rename News _ _ _ _ => N1
      refine Stop.un (iter_rangeUnr (n := n) (by rfl) (by assumption) (rsz hn3).1 (rsz hn3).2 F1 N1 ?_)
      intro I2 l3
      k_extra "lt:l3"
      have hAm : ∀ k, k < n → 50 ≤ (la.drop i).getD k 0 ∧ (la.drop i).getD k 0 < 64 := fun k hk => getD_of (fun c hc => hA c (List.mem_of_mem_drop hc)) (by rw [hAn]; exact hk)
      have hBm := getD_of (l := lb.drop i) (k := b) (fun c hc => hB c (List.mem_of_mem_drop hc)) (by rw [hBn]; exact hbn)
      refine RangeRest.by (IJ (la.drop i) (lb.drop i) D' n b I _) ?i0 ?is n 0 _ _ (Nat.zero_add n) ⟨_, _, _, _, _, _, _, _, _, _, _, _, hrow.cong (fun j _ => if_neg (Nat.not_lt_zero j)), rfl, rfl, rfl, rfl, rfl, rfl, rfl, rfl, mxb b, by rw [if_pos rfl]; exact Int.mul_comm _ _, fun _ => rfl, fun h => absurd rfl h, rfl⟩
      all_goals (clear F1 N1)
      case i0 =>
        rintro m' news' h' tk' ⟨us, c, dv, rv, mv, td, te, tf, tb, u1, u2, u3, hrow, ma, mb', mm, mr, mc, md, mres, mmin, hdv, hrv, hm0, hm1, rfl⟩ F' N'
        rw [hold ma, hold mb', hold mm, hold mr, hold mres, hold mmin] at F'
        have hmv := hm1 hn0
        k_steps
        exact ⟨_, _, _, _, _, _, _, hrow.cong (fun j hj => by rw [if_pos hj]; rfl), rfl, rfl, rfl, rfl, rfl, fun _ => by rw [hrv, if_neg hn0]; exact mxn hbn, rfl⟩
      case is =>
        rintro k m' news' t h' tk' hkn ⟨us, c, dv, rv, mv, td, te, tf, tb, u1, u2, u3, hrow, ma, mb', mm, mr, mc, md, mres, mmin, hdv, hrv, hm0, hm1, rfl⟩ F' N'
        rw [hold ma, hold mb', hold mm, hold mr, hold mc, hold md, hold mres, hold mmin] at F'
        rw [Int.zero_add] at F'
        (k_with "subscriptTail Name Name ref int" => k_here; k_dflt (refine subRow (by k_asm) (by k_asm) (by k_mem) hrow hkn hn3 ?_ (by with_unfolding_all rfl)); intro _)
        (k_with "setItem ref int" => k_here; k_dflt (refine setRow (by k_asm) (by k_asm) hrow hkn hn3 (by k_upd) ?_); intro h' F' N')
        (k_with "UnrEnd" => k_dflt (refine unrEnd2 (p := (I, _)) (q := (D', _)) (by k_asm) (by k_asm) (by k_mem) (by k_mem) (by k_mem) (by k_ne) (by k_ne) ?_))
        (k_with "call ref" => k_here; k_dflt (refine Con.useZ (sub_c w _ _ _ _ (Ne.symm (hne k b hkn hbn)) hBm.1 hBm.2 (hAm k hkn).1 (hAm k hkn).2) G (by k_asm) (by k_asm) trivial rfl rfl rfl rfl (Nat.le_of_ble_eq_true rfl) (Nat.le_of_ble_eq_true rfl) ?_); intro t1' h' tk' F' N')
        k_steps
        all_goals (have hz := levz b k (Nat.lt_of_lt_of_le hbn hn3) (Nat.lt_of_lt_of_le hkn hn3) _ _ hdv hrv (fk := (fun j : Nat => if j < k then 2 * max ((b : Int) + 1) ((j : Int) + 1) else 2 * max (b : Int) ((j : Int) + 1)) k) (by show (if k < k then _ else _) = _; rw [if_neg (Nat.lt_irrefl k)]))
        all_goals (dsimp only at hz)
        · exact ⟨_, _, _, _, _, _, _, _, _, _, _, _, hrow.set hkn (by show (if k < k + 1 then _ else _) = _; rw [if_pos (Nat.lt_succ_self k)]; exact hz.symm) (fun j _ hj => rowg j hj), rfl, rfl, rfl, rfl, rfl, rfl, rfl, rfl, by show (if k < k then _ else _) = _; rw [if_neg (Nat.lt_irrefl k)]; first | rfl | omega, by rw [if_neg (Nat.succ_ne_zero k)]; exact hz.trans (by first | rfl | omega), fun h => absurd h (Nat.succ_ne_zero k), fun _ => hz.trans (levm (Nat.lt_of_lt_of_le hbn hn3) (Nat.lt_of_lt_of_le hkn hn3) hz (by assumption) hm1), rfl⟩
        · exact ⟨_, _, _, _, _, _, _, _, _, _, _, _, hrow.set hkn (by show (if k < k + 1 then _ else _) = _; rw [if_pos (Nat.lt_succ_self k)]; exact hz.symm) (fun j _ hj => rowg j hj), rfl, rfl, rfl, rfl, rfl, rfl, rfl, rfl, by show (if k < k then _ else _) = _; rw [if_neg (Nat.lt_irrefl k)]; first | rfl | omega, by rw [if_neg (Nat.succ_ne_zero k)]; exact hz.trans (by first | rfl | omega), fun h => absurd h (Nat.succ_ne_zero k), fun _ => levn (Nat.lt_of_lt_of_le hbn hn3) (Nat.lt_of_lt_of_le hkn hn3) hz (by assumption) hm0 hm1, rfl⟩
end
section
open PySem PySem.W PyProof.Rows
set_option compiler.extract_closed false in
set_option compiler.extract_closed false in
set_option compiler.extract_closed false in
set_option maxRecDepth 100000 in
set_option maxHeartbeats 1600000 in
theorem div2 (w : World) (x : Int) (ta tb tn : Tok) (h1 : 0 ≤ x) (h2 : x < 128) : Con 425 w 21 [.int x ta, .int 8 tb, .int 4 tn] [] (fun _ => True) (RetP (x.fdiv 8) (x.fmod 8)) := by
  have : Challenge.rw_re0146_01 = Challenge.rw_re0146_01 ∧ hd.heap_39 w.params = hd.heap_39 w.params := by k_fill; exact ⟨rfl, rfl⟩
  clear this
  have hb := bits7 x h1 h2
  w_top off
  k_with_none
  (k_with "k_lt" => intro kH; (try replace kH := allLt_of kH); (try replace kH := offs_of kH); (try dsimp only [AllLt, LCg.Off1, LCg.Off3, OffF, OffG, ledT] at kH); repeat (first | (have := And.left (And.left kH); have := And.left (And.right (And.left kH)); have := And.right (And.right (And.left kH)); replace kH := And.right kH) | (have := And.left kH; replace kH := And.right kH)))
  (k_with "lt:kc9" => (try replace kc9 := allLt_of kc9); (try replace kc9 := offs_of kc9); (try dsimp only [AllLt, LCg.Off1, LCg.Off3, OffF, OffG, ledT] at kc9); repeat (first | (have := And.left (And.left kc9); have := And.left (And.right (And.left kc9)); have := And.right (And.right (And.left kc9)); replace kc9 := And.right kc9) | (have := And.left kc9; replace kc9 := And.right kc9)))
  (k_with "k_ne" => refine neN ?_; first | (with_reducible first | assumption | exact Ne.symm (by assumption) | exact Nat.ne_of_lt (by assumption) | exact Ne.symm (Nat.ne_of_lt (by assumption))) | ((try dsimp only); first | ((iterate 2 (first | done | with_reducible (first | exact cN1 _ | exact cN2 _ | exact cN3 _ | exact cL1 (by assumption) | exact cL2 (by assumption) | exact cL3 (by assumption) | exact cL4 (by assumption)) | exact Nat.ne_of_beq_eq_false rfl | refine Ne.symm ?_)); done) | ((iterate 4 (first | done | (with_reducible rename (@Ne Nat _ _) ∧ _ => kc9; (k_extra "lt:kc9"); with_reducible first | assumption | exact Ne.symm (by assumption)) | (with_reducible rename (@Ne Nat _ _) ∧ _ => kc9; clear kc9))); done) | omega))
  (k_with "execs cons" => k_here; (with_reducible rename Fr _ _ _ _ => lF); (let lm := mOf lF); (have F' : Fr _ _ _ lm := lF); (with_reducible refine wpAny_execs_cons ?_); (try dsimp only); (try k_fold))
  refine con0L (pre' := fun _ => True) (by k_is) (by k_is) (by decide) (fun _ => BindsTo.of_eq rfl) (locs rfl) (fun _ _ _ _ => trivial) ?_ rfl rfl rfl (by decide)
  intro outer h₀ L h₁ gn dr tk os Q E ee AA G _ F N _ hE hQ
  obtain ⟨A₀, base, B, X, p, loose, mean, mg, mb, T, H⟩ := id G
  k_steps
  all_goals exact hQ _ _ _ _ _ ⟨_, _, _, _, rfl, rfl⟩ (by k_asm) (cb_drop (by k_asm) (by kcj_all))
end
section
open PySem PySem.W PyProof.Rows
set_option compiler.extract_closed false in
set_option compiler.extract_closed false in
set_option compiler.extract_closed false in
inductive RetI (ns : List Int) (v : Value) (nl : List (Addr × Obj)) : Prop
  | mk : ∀ D us k ps c oc, v = .ref D → nl = [(D, W.listOf (List.toArray us) k), (30, tabObj ps), (c, oc)] → IntsAre us ns → StI c oc ps → LCg.Off1 D [(30, tabObj ps), (c, oc)] → RetI ns v nl
noncomputable def digP (n x : Int) : List Int := let len := ((Builtin.Int.intBits x : Int) + n - 1).fdiv n; if x = 0 then [] else fillP n 4 x 0 len (List.replicate len.toNat 0)
set_option maxRecDepth 100000 in
set_option maxHeartbeats 1600000 in
theorem int2_c (w : World) (x n : Int) (tx tn : Tok) (h0 : 0 ≤ x) (h1 : x < 128) (hn : n = 1 ∨ n = 4) (hn1 : n = 1 → x < 16) (ps : Array Value) (ic : Addr) (io : Obj) (hst : StI ic io ps) :
    Con 430 w 35 [.int x tx, .int n tn] [(30, tabObj ps), (ic, io)] (fun _ => True) (RetI (digP n x)) := by
  have : Challenge.rw_re0146_01 = Challenge.rw_re0146_01 ∧ hd.heap_39 w.params = hd.heap_39 w.params := by k_fill; exact ⟨rfl, rfl⟩
  clear this
  w_top off
  k_with_none
  (k_with "k_lt" => intro kH; (try replace kH := allLt_of kH); (try replace kH := offs_of kH); (try dsimp only [AllLt, LCg.Off1, LCg.Off3, OffF, OffG, ledT] at kH); repeat (first | (have := And.left (And.left kH); have := And.left (And.right (And.left kH)); have := And.right (And.right (And.left kH)); replace kH := And.right kH) | (have := And.left kH; replace kH := And.right kH)))
  (k_with "lt:l0" => (try replace l0 := allLt_of l0); (try replace l0 := offs_of l0); (try dsimp only [AllLt, LCg.Off1, LCg.Off3, OffF, OffG, ledT] at l0); repeat (first | (have := And.left (And.left l0); have := And.left (And.right (And.left l0)); have := And.right (And.right (And.left l0)); replace l0 := And.right l0) | (have := And.left l0; replace l0 := And.right l0)))
  (k_with "lt:l1" => (try replace l1 := allLt_of l1); (try replace l1 := offs_of l1); (try dsimp only [AllLt, LCg.Off1, LCg.Off3, OffF, OffG, ledT] at l1); repeat (first | (have := And.left (And.left l1); have := And.left (And.right (And.left l1)); have := And.right (And.right (And.left l1)); replace l1 := And.right l1) | (have := And.left l1; replace l1 := And.right l1)))
  (k_with "lt:l2" => (try replace l2 := allLt_of l2); (try replace l2 := offs_of l2); (try dsimp only [AllLt, LCg.Off1, LCg.Off3, OffF, OffG, ledT] at l2); repeat (first | (have := And.left (And.left l2); have := And.left (And.right (And.left l2)); have := And.right (And.right (And.left l2)); replace l2 := And.right l2) | (have := And.left l2; replace l2 := And.right l2)))
  (k_with "lt:kc9" => (try replace kc9 := allLt_of kc9); (try replace kc9 := offs_of kc9); (try dsimp only [AllLt, LCg.Off1, LCg.Off3, OffF, OffG, ledT] at kc9); repeat (first | (have := And.left (And.left kc9); have := And.left (And.right (And.left kc9)); have := And.right (And.right (And.left kc9)); replace kc9 := And.right kc9) | (have := And.left kc9; replace kc9 := And.right kc9)))
  (k_with "k_ne" => refine neN ?_; first | (with_reducible first | assumption | exact Ne.symm (by assumption) | exact Nat.ne_of_lt (by assumption) | exact Ne.symm (Nat.ne_of_lt (by assumption))) | ((try dsimp only); first | ((iterate 2 (first | done | with_reducible (first | exact cN1 _ | exact cN2 _ | exact cN3 _ | exact cL1 (by assumption) | exact cL2 (by assumption) | exact cL3 (by assumption) | exact cL4 (by assumption)) | exact Nat.ne_of_beq_eq_false rfl | refine Ne.symm ?_)); done) | ((iterate 4 (first | done | (with_reducible rename (@Ne Nat _ _) ∧ _ => kc9; (k_extra "lt:kc9"); with_reducible first | assumption | exact Ne.symm (by assumption)) | (with_reducible rename (@Ne Nat _ _) ∧ _ => kc9; clear kc9))); done) | omega))
  (k_with "execs cons" => k_here; (with_reducible rename Fr _ _ _ _ => lF); (let lm := mOf lF); (have F' : Fr _ _ _ lm := lF); (with_reducible refine wpAny_execs_cons ?_); (try dsimp only); (try k_fold))
  (k_with "binaryOp Mult ref int" => k_here; k_dflt (refine mulZ (by k_asm) (by k_asm) (by k_mem) (by first | exact ⟨by assumption, by assumption⟩ | omega) ?_); intro D' us' c' h' F' N' l1 i'; (try k_extra "lt:l1"); (try dsimp only))
  (k_with "exec FunctionDef" => k_here; k_dflt (refine nestDef_K rfl rfl rfl ?_); k_dflt (refine nestAny (by k_asm) (by k_asm) (by k_asm) (by kn_code) rfl (by repeat (first | exact Spl.here | apply Spl.there)) (by assumption) (ltN (by first | with_reducible assumption | with_reducible exact lt3 (by assumption) | omega)) (ltN (by first | with_reducible assumption | with_reducible exact lt3 (by assumption) | omega)) (by repeat' (first | exact List.forall_mem_nil _ | refine List.forall_mem_cons.mpr ⟨ltN (by (try dsimp only); first | with_reducible assumption | with_reducible exact lt3 (by assumption) | exact Nat.lt_succ_self _ | exact Nat.lt_succ_of_lt (Nat.lt_succ_self _) | exact Nat.lt_succ_of_lt (Nat.lt_succ_of_lt (Nat.lt_succ_self _)) | omega), ?_⟩)) rfl ?_); intro f' c' oc' vs' t' ct' dc' h' tk' F' N' d1' d2' l1 l2; (k_extra "lt:l1"); (try k_extra "lt:l2"); (try dsimp only at N'); (try dsimp only))
  have hn5 : 1 ≤ n ∧ n ≤ 4 := by rcases hn with rfl | rfl <;> decide
  obtain ⟨hL1, hL2, hL3, hL4⟩ := lenB x n h0 h1 hn hn1
  refine con1L (pre' := fun _ => True) (by k_is) (by k_is) (by decide) (fun _ => BindsTo.of_eq rfl) (by rfl) (by decide +kernel) (fun _ _ _ _ => trivial) ?_ rfl rfl rfl
  intro outer h₀ L h₁ gn dr tk os cells Q E ee AA G _ F N l0 Y hE hQ
  obtain ⟨A₀, base, B, X, p, loose, mean, mg, mb, T, H⟩ := id G
  k_cells Y
  (try dsimp only [List.cons_append, List.nil_append] at N)
  obtain ⟨hGa, hGb⟩ := id H
  k_extra "lt:l0"
  iterate 32 (first | (k_unfold; (try dsimp only)) | walk1 | (dsimp only; walk1))
  have IC := inner_ind (w := w) (n := n) (tn := tn) (D := D') (f := f') (by k_asm) (by k_mem) (by exact rfl) d1' d2' (by assumption) (by assumption) (by assumption) (by k_mem) (by k_mem) (by k_mem) (by exact fun s a b c => BindsTo.of_eq rfl) (by decide) (by exact rfl) (by exact rfl) (by exact rfl) (by decide) ?step
  case step =>
    clear hE hQ
    rename Fr _ _ _ _ => F9
    rename News _ _ _ _ => N9
    clear F9 N9
    rintro k hk ih x lo hi tx tl th us ns c0 e1 e2 e3 e4 e5 e6 e7 hi0 outer g L' h1 gn dr tk os Q E G F N hQ
    obtain ⟨A₀, base, B, X, p, loose, mean, mg, mb, T, H⟩ := id G
    (k_with "binaryOp Mult int int" => refine PyProof.Rows.mul_int ?_ (.of_right (bl5 hn5)))
    (k_with "binaryOp RShift int int" => k_here; k_dflt (refine rsh (by first | decide | exact (shB n lo hi (by first | with_reducible exact sB1 (by assumption) (by assumption) | omega) (by first | with_reducible exact sB2 (by assumption) (by assumption) | omega) hn).1) ?_); intro _ _; (try dsimp only))
    (k_with "binaryOp LShift int int" => k_here; k_dflt (refine lsh ⟨(shB n lo hi (by first | with_reducible exact sB1 (by assumption) (by assumption) | omega) (by first | with_reducible exact sB2 (by assumption) (by assumption) | omega) hn).1, lsL (shB n lo hi (by first | with_reducible exact sB1 (by assumption) (by assumption) | omega) (by first | with_reducible exact sB2 (by assumption) (by assumption) | omega) hn).2⟩ (lsX (bX x _ e6 e7 (shB n lo hi (by first | with_reducible exact sB1 (by assumption) (by assumption) | omega) (by first | with_reducible exact sB2 (by assumption) (by assumption) | omega) hn).1 (shB n lo hi (by first | with_reducible exact sB1 (by assumption) (by assumption) | omega) (by first | with_reducible exact sB2 (by assumption) (by assumption) | omega) hn).2).2.2) ?_); intro _ _; (try dsimp only))
    (k_with "call ref" => k_here; (have hb1 := midB lo hi (by first | with_reducible exact sB1 (by assumption) (by assumption) | omega) (by first | with_reducible exact sB2 (by assumption) (by assumption) | omega)); (have hb2 := bX x _ e6 e7 (shB n lo hi (by first | with_reducible exact sB1 (by assumption) (by assumption) | omega) (by first | with_reducible exact sB2 (by assumption) (by assumption) | omega) hn).1 (shB n lo hi (by first | with_reducible exact sB1 (by assumption) (by assumption) | omega) (by first | with_reducible exact sB2 (by assumption) (by assumption) | omega) hn).2); (with_reducible rename IntsAre _ _ => hi9); k_dflt (refine Con.use (ih _ _ _ _ _ _ _ _ c0 (by first | with_reducible (first | assumption | exact hb1.1 | exact hb1.2.1 | exact hb2.1 | exact hb2.2.1 | exact hb2.2.2.1 | exact hb2.2.2.2 | exact mD (by assumption) hb1.1 | exact mE hb1.2.1 (by assumption) | exact mA (by assumption) hb1.2.1 | exact mC (by assumption) hb1.1) | ((try simp only [fill_len]); first | assumption | exact mE hb1.2.1 (by assumption) | omega)) (by first | with_reducible (first | assumption | exact hb1.1 | exact hb1.2.1 | exact hb2.1 | exact hb2.2.1 | exact hb2.2.2.1 | exact hb2.2.2.2 | exact mD (by assumption) hb1.1 | exact mE hb1.2.1 (by assumption) | exact mA (by assumption) hb1.2.1 | exact mC (by assumption) hb1.1) | ((try simp only [fill_len]); first | assumption | exact mE hb1.2.1 (by assumption) | omega)) (by first | with_reducible (first | assumption | exact hb1.1 | exact hb1.2.1 | exact hb2.1 | exact hb2.2.1 | exact hb2.2.2.1 | exact hb2.2.2.2 | exact mD (by assumption) hb1.1 | exact mE hb1.2.1 (by assumption) | exact mA (by assumption) hb1.2.1 | exact mC (by assumption) hb1.1) | ((try simp only [fill_len]); first | assumption | exact mE hb1.2.1 (by assumption) | omega)) (by first | with_reducible (first | assumption | exact hb1.1 | exact hb1.2.1 | exact hb2.1 | exact hb2.2.1 | exact hb2.2.2.1 | exact hb2.2.2.2 | exact mD (by assumption) hb1.1 | exact mE hb1.2.1 (by assumption) | exact mA (by assumption) hb1.2.1 | exact mC (by assumption) hb1.1) | ((try simp only [fill_len]); first | assumption | exact mE hb1.2.1 (by assumption) | omega)) (by first | with_reducible (first | assumption | exact hb1.1 | exact hb1.2.1 | exact hb2.1 | exact hb2.2.1 | exact hb2.2.2.1 | exact hb2.2.2.2 | exact mD (by assumption) hb1.1 | exact mE hb1.2.1 (by assumption) | exact mA (by assumption) hb1.2.1 | exact mC (by assumption) hb1.1) | ((try simp only [fill_len]); first | assumption | exact mE hb1.2.1 (by assumption) | omega)) (by first | with_reducible (first | assumption | exact hb1.1 | exact hb1.2.1 | exact hb2.1 | exact hb2.2.1 | exact hb2.2.2.1 | exact hb2.2.2.2 | exact mD (by assumption) hb1.1 | exact mE hb1.2.1 (by assumption) | exact mA (by assumption) hb1.2.1 | exact mC (by assumption) hb1.1) | ((try simp only [fill_len]); first | assumption | exact mE hb1.2.1 (by assumption) | omega)) (by first | with_reducible (first | assumption | exact hb1.1 | exact hb1.2.1 | exact hb2.1 | exact hb2.2.1 | exact hb2.2.2.1 | exact hb2.2.2.2 | exact mD (by assumption) hb1.1 | exact mE hb1.2.1 (by assumption) | exact mA (by assumption) hb1.2.1 | exact mC (by assumption) hb1.1) | ((try simp only [fill_len]); first | assumption | exact mE hb1.2.1 (by assumption) | omega)) hi9) G (by k_asm) (by k_asm) (by kcj_all) (rem_none _ _) trivial rfl rfl rfl rfl (Nat.le_refl _) (Nat.le_refl _) ?_); (intro v' nl' h' tk' hr' F' N' off'); (obtain ⟨hv', us', hnl', hi'⟩ := hr'); (subst hv' hnl'); (rw [List.append_nil] at N'); clear hb1 hb2 off')
    k_steps
    all_goals exact hQ _ _ _ _ _ _ rfl rfl (by unfold fillP; first | (rw [if_pos (by assumption)]; assumption) | (rw [if_neg (by assumption)]; assumption)) (by k_asm) (by k_asm)
  w_top off
  k_with_none
  (k_with "k_lt" => intro kH; (try replace kH := allLt_of kH); (try replace kH := offs_of kH); (try dsimp only [AllLt, LCg.Off1, LCg.Off3, OffF, OffG, ledT] at kH); repeat (first | (have := And.left (And.left kH); have := And.left (And.right (And.left kH)); have := And.right (And.right (And.left kH)); replace kH := And.right kH) | (have := And.left kH; replace kH := And.right kH)))
  (k_with "lt:l0" => (try replace l0 := allLt_of l0); (try replace l0 := offs_of l0); (try dsimp only [AllLt, LCg.Off1, LCg.Off3, OffF, OffG, ledT] at l0); repeat (first | (have := And.left (And.left l0); have := And.left (And.right (And.left l0)); have := And.right (And.right (And.left l0)); replace l0 := And.right l0) | (have := And.left l0; replace l0 := And.right l0)))
  (k_with "lt:l1" => (try replace l1 := allLt_of l1); (try replace l1 := offs_of l1); (try dsimp only [AllLt, LCg.Off1, LCg.Off3, OffF, OffG, ledT] at l1); repeat (first | (have := And.left (And.left l1); have := And.left (And.right (And.left l1)); have := And.right (And.right (And.left l1)); replace l1 := And.right l1) | (have := And.left l1; replace l1 := And.right l1)))
  (k_with "lt:l2" => (try replace l2 := allLt_of l2); (try replace l2 := offs_of l2); (try dsimp only [AllLt, LCg.Off1, LCg.Off3, OffF, OffG, ledT] at l2); repeat (first | (have := And.left (And.left l2); have := And.left (And.right (And.left l2)); have := And.right (And.right (And.left l2)); replace l2 := And.right l2) | (have := And.left l2; replace l2 := And.right l2)))
  (k_with "lt:kc9" => (try replace kc9 := allLt_of kc9); (try replace kc9 := offs_of kc9); (try dsimp only [AllLt, LCg.Off1, LCg.Off3, OffF, OffG, ledT] at kc9); repeat (first | (have := And.left (And.left kc9); have := And.left (And.right (And.left kc9)); have := And.right (And.right (And.left kc9)); replace kc9 := And.right kc9) | (have := And.left kc9; replace kc9 := And.right kc9)))
  (k_with "k_ne" => refine neN ?_; first | (with_reducible first | assumption | exact Ne.symm (by assumption) | exact Nat.ne_of_lt (by assumption) | exact Ne.symm (Nat.ne_of_lt (by assumption))) | ((try dsimp only); first | ((iterate 2 (first | done | with_reducible (first | exact cN1 _ | exact cN2 _ | exact cN3 _ | exact cL1 (by assumption) | exact cL2 (by assumption) | exact cL3 (by assumption) | exact cL4 (by assumption)) | exact Nat.ne_of_beq_eq_false rfl | refine Ne.symm ?_)); done) | ((iterate 4 (first | done | (with_reducible rename (@Ne Nat _ _) ∧ _ => kc9; (k_extra "lt:kc9"); with_reducible first | assumption | exact Ne.symm (by assumption)) | (with_reducible rename (@Ne Nat _ _) ∧ _ => kc9; clear kc9))); done) | omega))
  (k_with "execs cons" => k_here; (with_reducible rename Fr _ _ _ _ => lF); (let lm := mOf lF); (have F' : Fr _ _ _ lm := lF); (with_reducible refine wpAny_execs_cons ?_); (try dsimp only); (try k_fold))
  have hLr : ((List.replicate (((Builtin.Int.intBits x : Int) + n - 1).fdiv n).toNat (0 : Int)).length : Int) = ((Builtin.Int.intBits x : Int) + n - 1).fdiv n := by rw [List.length_replicate, Int.toNat_of_nonneg (by omega)]
  (k_with "call builtin:len" => k_here; k_dflt (refine lenI _ (by k_asm) (by k_mem) (by assumption) hLr (Int.le_trans hL2 (by decide)) ?_); intro _ _; (try dsimp only))
  (k_with "call ref" => k_here; k_dflt (refine Con.use (IC 4 _ _ _ _ _ _ _ _ _ (by decide) (sub0 hLr (lr4 hLr hL2)) (by decide) (Int.lt_of_lt_of_le (by decide) (hL3 (by assumption))) (Int.le_of_eq hLr.symm) (lr4 hLr hL2) h0 h1 i') G (by k_asm) (by k_asm) (by kcj_all) (.skip (.skip (.keep (by k_all) (rem_none _ _)))) trivial rfl rfl rfl rfl (Nat.le_of_ble_eq_true rfl) (Nat.le_of_ble_eq_true rfl) ?_); (intro v' nl' h' tk' hr' F' N' off'); (obtain ⟨hv', us9, hnl', hi9⟩ := hr'); (subst hv' hnl'); (dsimp only [ledI, List.cons_append, List.nil_append] at N'); clear off')
  k_steps
  rotate_left
  · refine hQ _ _ _ _ _ ⟨D', _, _, _, c', oc', rfl, rfl, ?_, .full d1' d2' (by k_ne), by (repeat' (first | exact True.intro | refine And.intro (by k_ne) ?_))⟩ (by k_asm) (cb_drop (by k_asm) (by kcj_all))
    have hx0 : x = 0 := by assumption
    rw [hL4 hx0] at i'
    unfold digP; rw [if_pos hx0]; exact i'
  refine hQ _ _ _ _ _ ⟨D', _, _, _, c', oc', rfl, rfl, by unfold digP; rw [if_neg (by assumption)]; assumption, .full d1' d2' (by k_ne), by (repeat' (first | exact True.intro | refine And.intro (by k_ne) ?_))⟩ (by k_asm) (cb_drop (by k_asm) (by kcj_all))
end
section
open PySem PySem.W PyProof.Rows
set_option compiler.extract_closed false in
set_option compiler.extract_closed false in
set_option compiler.extract_closed false in
inductive RetD (v : Value) (nl : List (Addr × Obj)) : Prop
  | mk : ∀ z t ps c oc, v = .int z t → nl = [(37, tabObj ps), (c, oc)] → StD c oc ps → RetD v nl
set_option maxRecDepth 100000 in
set_option maxHeartbeats 1600000 in
theorem dig_c (w : World) (l : Addr) (us : List Value) (ns : List Int) (hu : IntsAre us ns) (hdg : ∀ d ∈ ns, 0 ≤ d ∧ d < 16) (hlen : ns.length ≤ 2) (tb : Tok) (ps : Array Value) (ic : Addr) (io : Obj) (hst : StD ic io ps) :
    Con 430 w 42 [.ref l, .int 4 tb] [(37, tabObj ps), (ic, io)] (Apart1 [(37, tabObj ps), (ic, io)] l us) RetD := by
  have : Challenge.rw_re0146_01 = Challenge.rw_re0146_01 ∧ hd.heap_39 w.params = hd.heap_39 w.params := by k_fill; exact ⟨rfl, rfl⟩
  clear this
  w_top off
  k_with_none
  (k_with "k_lt" => intro kH; (try replace kH := allLt_of kH); (try replace kH := offs_of kH); (try dsimp only [AllLt, LCg.Off1, LCg.Off3, OffF, OffG, ledT] at kH); repeat (first | (have := And.left (And.left kH); have := And.left (And.right (And.left kH)); have := And.right (And.right (And.left kH)); replace kH := And.right kH) | (have := And.left kH; replace kH := And.right kH)))
  (k_with "lt:l0" => (try replace l0 := allLt_of l0); (try replace l0 := offs_of l0); (try dsimp only [AllLt, LCg.Off1, LCg.Off3, OffF, OffG, ledT] at l0); repeat (first | (have := And.left (And.left l0); have := And.left (And.right (And.left l0)); have := And.right (And.right (And.left l0)); replace l0 := And.right l0) | (have := And.left l0; replace l0 := And.right l0)))
  (k_with "lt:l1" => (try replace l1 := allLt_of l1); (try replace l1 := offs_of l1); (try dsimp only [AllLt, LCg.Off1, LCg.Off3, OffF, OffG, ledT] at l1); repeat (first | (have := And.left (And.left l1); have := And.left (And.right (And.left l1)); have := And.right (And.right (And.left l1)); replace l1 := And.right l1) | (have := And.left l1; replace l1 := And.right l1)))
  (k_with "lt:l2" => (try replace l2 := allLt_of l2); (try replace l2 := offs_of l2); (try dsimp only [AllLt, LCg.Off1, LCg.Off3, OffF, OffG, ledT] at l2); repeat (first | (have := And.left (And.left l2); have := And.left (And.right (And.left l2)); have := And.right (And.right (And.left l2)); replace l2 := And.right l2) | (have := And.left l2; replace l2 := And.right l2)))
  (k_with "lt:kc9" => (try replace kc9 := allLt_of kc9); (try replace kc9 := offs_of kc9); (try dsimp only [AllLt, LCg.Off1, LCg.Off3, OffF, OffG, ledT] at kc9); repeat (first | (have := And.left (And.left kc9); have := And.left (And.right (And.left kc9)); have := And.right (And.right (And.left kc9)); replace kc9 := And.right kc9) | (have := And.left kc9; replace kc9 := And.right kc9)))
  (k_with "k_ne" => refine neN ?_; first | (with_reducible first | assumption | exact Ne.symm (by assumption) | exact Nat.ne_of_lt (by assumption) | exact Ne.symm (Nat.ne_of_lt (by assumption))) | ((try dsimp only); first | ((iterate 2 (first | done | with_reducible (first | exact cN1 _ | exact cN2 _ | exact cN3 _ | exact cL1 (by assumption) | exact cL2 (by assumption) | exact cL3 (by assumption) | exact cL4 (by assumption)) | exact Nat.ne_of_beq_eq_false rfl | refine Ne.symm ?_)); done) | ((iterate 4 (first | done | (with_reducible rename (@Ne Nat _ _) ∧ _ => kc9; (k_extra "lt:kc9"); with_reducible first | assumption | exact Ne.symm (by assumption)) | (with_reducible rename (@Ne Nat _ _) ∧ _ => kc9; clear kc9))); done) | omega))
  (k_with "execs cons" => k_here; (with_reducible rename Fr _ _ _ _ => lF); (let lm := mOf lF); (have F' : Fr _ _ _ lm := lF); (with_reducible refine wpAny_execs_cons ?_); (try dsimp only); (try k_fold))
  (k_with "exec FunctionDef" => k_here; k_dflt (refine nestDef_K rfl rfl rfl ?_); k_dflt (refine nestAny (by k_asm) (by k_asm) (by k_asm) (by kn_code) rfl (by repeat (first | exact Spl.here | apply Spl.there)) (by assumption) (ltN (by first | with_reducible assumption | with_reducible exact lt3 (by assumption) | omega)) (ltN (by first | with_reducible assumption | with_reducible exact lt3 (by assumption) | omega)) (by repeat' (first | exact List.forall_mem_nil _ | refine List.forall_mem_cons.mpr ⟨ltN (by (try dsimp only); first | with_reducible assumption | with_reducible exact lt3 (by assumption) | exact Nat.lt_succ_self _ | exact Nat.lt_succ_of_lt (Nat.lt_succ_self _) | exact Nat.lt_succ_of_lt (Nat.lt_succ_of_lt (Nat.lt_succ_self _)) | omega), ?_⟩)) rfl ?_); intro f' c' oc' vs' t' ct' dc' h' tk' F' N' d1' d2' l1 l2; (k_extra "lt:l1"); (try k_extra "lt:l2"); (try dsimp only at N'); (try dsimp only))
  refine con1L (pre' := fun h => h.IsList l us.toArray) (by k_is) (by k_is) (by decide) (fun _ => BindsTo.of_eq rfl) (by rfl) (by decide +kernel) (fun _ _ => lift_but) ?_ rfl rfl rfl
  intro outer h₀ L h₁ gn dr tk os cells Q E ee AA G hl F N l0 Y hE hQ
  obtain ⟨A₀, base, B, X, p, loose, mean, mg, mb, T, H⟩ := id G
  k_cells Y
  (try dsimp only [List.cons_append, List.nil_append] at N)
  obtain ⟨hGa, hGb⟩ := id H
  k_extra "lt:l0"
  iterate 5 (first | (k_unfold; (try dsimp only)) | walk1 | (dsimp only; walk1))
  have IC := inner_indD (w := w) (us := us) (ns := ns) (q := l) (tn := tb) (f := f') (by k_asm) (by k_mem) (by exact rfl) d1' d2' (by assumption) (by assumption) (by assumption) (by k_mem) (by k_mem) (by k_mem) ?ap (by exact fun s a b => BindsTo.of_eq rfl) (by decide) (by exact rfl) (by exact rfl) (by exact rfl) (by decide) ?step
  case ap => exact ne_of_base hl (by k_asm) (by kcj_all)
  case step =>
    clear hE hQ
    rename Fr _ _ _ _ => F9
    rename News _ _ _ _ => N9
    clear F9 N9
    rintro k hk ih lo hi tl th e1 e2 e3 e4 outer g L' h1 gn dr tk os Q E G hl F N hQ
    obtain ⟨A₀, base, B, X, p, loose, mean, mg, mb, T, H⟩ := id G
    (k_with "binaryOp Mult int int" => refine PyProof.Rows.mul_int ?_ (.of_right bl4))
    (k_with "binaryOp RShift int int" => k_here; k_dflt (refine rsh (by decide) ?_); intro _ _; (try dsimp only))
    (k_with "binaryOp LShift int int" => k_here; k_dflt (refine lsh ⟨(shB 4 lo hi (by first | with_reducible exact sB1 (by assumption) (by assumption) | omega) (by first | with_reducible exact sB4 (by assumption) (by assumption) | omega) (.inr rfl)).1, lsL (shB 4 lo hi (by first | with_reducible exact sB1 (by assumption) (by assumption) | omega) (by first | with_reducible exact sB4 (by assumption) (by assumption) | omega) (.inr rfl)).2⟩ ⟨by assumption, Int.lt_trans (Int.lt_of_lt_of_le (by assumption) (p16 hk).1) (by decide)⟩ ?_); intro _ _; (try dsimp only))
    (k_with "call ref" => k_here; (have hb1 := midB lo hi (by first | with_reducible exact sB1 (by assumption) (by assumption) | omega) (by first | with_reducible exact sB4 (by assumption) (by assumption) | omega)); k_dflt (refine Con.use (ih _ _ _ _ (by first | with_reducible (first | assumption | exact hb1.1 | exact hb1.2.1 | exact mD (by assumption) hb1.1 | exact mE hb1.2.1 (by assumption) | exact mA (by assumption) hb1.2.1 | exact mC (by assumption) hb1.1) | omega) (by first | with_reducible (first | assumption | exact hb1.1 | exact hb1.2.1 | exact mD (by assumption) hb1.1 | exact mE hb1.2.1 (by assumption) | exact mA (by assumption) hb1.2.1 | exact mC (by assumption) hb1.1) | omega) (by first | with_reducible (first | assumption | exact hb1.1 | exact hb1.2.1 | exact mD (by assumption) hb1.1 | exact mE hb1.2.1 (by assumption) | exact mA (by assumption) hb1.2.1 | exact mC (by assumption) hb1.1) | omega) (by first | with_reducible (first | assumption | exact hb1.1 | exact hb1.2.1 | exact mD (by assumption) hb1.1 | exact mE hb1.2.1 (by assumption) | exact mA (by assumption) hb1.2.1 | exact mC (by assumption) hb1.1) | omega)) G (by k_asm) (by k_asm) (by kcj_all) (rem_none _ _) (lift_list hl (Fr.keep (by k_asm))) rfl rfl rfl rfl (Nat.le_refl _) (Nat.le_refl _) ?_); (intro v' nl' h' tk' hr' F' N' off'); (obtain ⟨hnl', z', t', hv', hz0', hz1'⟩ := hr'); (subst hv' hnl'); (rw [List.append_nil] at N'); clear hb1 off')
    k_steps
    · refine hQ _ _ _ _ _ ?_ ?_ (by k_asm) (by k_asm)
      all_goals (have hd9 : 0 ≤ ns.getD lo.toNat 0 ∧ ns.getD lo.toNat 0 < 16 := by (rw [List.getD_eq_getElem?_getD, List.getElem?_eq_getElem (tlN (by assumption) (by assumption) (by assumption))]; exact hdg _ (List.getElem_mem _)))
      · exact hd9.1
      · exact Int.lt_of_lt_of_le hd9.2 (p16 hk).2
    · exact hQ _ _ _ _ _ (endB hk e1 e3 (by assumption) (by assumption) (by assumption) (by assumption) (by assumption)).1 (endB hk e1 e3 (by assumption) (by assumption) (by assumption) (by assumption) (by assumption)).2 (by k_asm) (by k_asm)
  k_with_none
  (k_with "k_lt" => intro kH; (try replace kH := allLt_of kH); (try replace kH := offs_of kH); (try dsimp only [AllLt, LCg.Off1, LCg.Off3, OffF, OffG, ledT] at kH); repeat (first | (have := And.left (And.left kH); have := And.left (And.right (And.left kH)); have := And.right (And.right (And.left kH)); replace kH := And.right kH) | (have := And.left kH; replace kH := And.right kH)))
  (k_with "lt:l0" => (try replace l0 := allLt_of l0); (try replace l0 := offs_of l0); (try dsimp only [AllLt, LCg.Off1, LCg.Off3, OffF, OffG, ledT] at l0); repeat (first | (have := And.left (And.left l0); have := And.left (And.right (And.left l0)); have := And.right (And.right (And.left l0)); replace l0 := And.right l0) | (have := And.left l0; replace l0 := And.right l0)))
  (k_with "lt:l1" => (try replace l1 := allLt_of l1); (try replace l1 := offs_of l1); (try dsimp only [AllLt, LCg.Off1, LCg.Off3, OffF, OffG, ledT] at l1); repeat (first | (have := And.left (And.left l1); have := And.left (And.right (And.left l1)); have := And.right (And.right (And.left l1)); replace l1 := And.right l1) | (have := And.left l1; replace l1 := And.right l1)))
  (k_with "lt:l2" => (try replace l2 := allLt_of l2); (try replace l2 := offs_of l2); (try dsimp only [AllLt, LCg.Off1, LCg.Off3, OffF, OffG, ledT] at l2); repeat (first | (have := And.left (And.left l2); have := And.left (And.right (And.left l2)); have := And.right (And.right (And.left l2)); replace l2 := And.right l2) | (have := And.left l2; replace l2 := And.right l2)))
  (k_with "lt:kc9" => (try replace kc9 := allLt_of kc9); (try replace kc9 := offs_of kc9); (try dsimp only [AllLt, LCg.Off1, LCg.Off3, OffF, OffG, ledT] at kc9); repeat (first | (have := And.left (And.left kc9); have := And.left (And.right (And.left kc9)); have := And.right (And.right (And.left kc9)); replace kc9 := And.right kc9) | (have := And.left kc9; replace kc9 := And.right kc9)))
  (k_with "k_ne" => refine neN ?_; first | (with_reducible first | assumption | exact Ne.symm (by assumption) | exact Nat.ne_of_lt (by assumption) | exact Ne.symm (Nat.ne_of_lt (by assumption))) | ((try dsimp only); first | ((iterate 2 (first | done | with_reducible (first | exact cN1 _ | exact cN2 _ | exact cN3 _ | exact cL1 (by assumption) | exact cL2 (by assumption) | exact cL3 (by assumption) | exact cL4 (by assumption)) | exact Nat.ne_of_beq_eq_false rfl | refine Ne.symm ?_)); done) | ((iterate 4 (first | done | (with_reducible rename (@Ne Nat _ _) ∧ _ => kc9; (k_extra "lt:kc9"); with_reducible first | assumption | exact Ne.symm (by assumption)) | (with_reducible rename (@Ne Nat _ _) ∧ _ => kc9; clear kc9))); done) | omega))
  (k_with "execs cons" => k_here; (with_reducible rename Fr _ _ _ _ => lF); (let lm := mOf lF); (have F' : Fr _ _ _ lm := lF); (with_reducible refine wpAny_execs_cons ?_); (try dsimp only); (try k_fold))
  (k_with "truthy ref" => k_here; k_dflt (refine truL (by k_asm) hl hu (Nat.le_trans hlen (by decide)) ?_); intro _; (try dsimp only))
  (k_with "call builtin:len" => k_here; k_dflt (refine lenL (by k_asm) hl hu (Nat.le_trans hlen (by decide)) ?_); intro _ _; (try dsimp only))
  (k_with "call ref" => k_here; k_dflt (refine Con.use (IC 2 _ _ _ _ (by decide) (sub0 rfl hlen) (by decide) (Int.natCast_pos.mpr (by assumption)) (Int.le_refl _)) G (by k_asm) (by k_asm) (by kcj_all) (.skip (.skip (.keep (by k_all) (rem_none _ _)))) (lift_list hl (Fr.keep (by k_asm))) rfl rfl rfl rfl (Nat.le_of_ble_eq_true rfl) (Nat.le_of_ble_eq_true rfl) ?_); (intro v' nl' h' tk' hr' F' N' off'); (obtain ⟨hnl', z', t', hv', hz0', hz1'⟩ := hr'); (subst hv' hnl'); (dsimp only [List.cons_append, List.nil_append] at N'); clear off')
  k_steps
  all_goals exact hQ _ _ _ _ _ ⟨_, _, _, c', oc', rfl, rfl, .full d1' d2' (by k_ne)⟩ (by k_asm) (cb_drop (by k_asm) (by kcj_all))
end
section
open PySem PySem.W PyProof.Rows
set_option compiler.extract_closed false in
set_option compiler.extract_closed false in
set_option compiler.extract_closed false in
theorem ints_rev {us : List Value} {ns : List Int} (h : IntsAre us ns) : IntsAre us.reverse ns.reverse := by
  induction h with
  | nil => exact .nil
  | cons n t _ ih => rw [List.reverse_cons, List.reverse_cons]; exact IntsAre.append ih (.cons n t .nil)
theorem lrev (l' : Addr) (ws : List Value) (n : Nat) : (l', PySem.W.listOf (List.toArray (List.toArray ws).toList.reverse) n) = (l', PySem.W.listOf (List.toArray ws.reverse) n) := rfl
theorem isl_of {h₀ h : Heap} {L q : Addr} {news : List (Addr × Obj)} {us : List Value} {n : Nat} (N : News h₀ L h news) (m : (q, PySem.W.listOf (List.toArray us) n) ∈ news) : h.IsList q us.toArray := ⟨_, (N _ m).1, rfl, n, rfl⟩
noncomputable def foldD (r : Int) (ds : List Int) : Int := ds.foldl (fun r d => (r * 2 ^ Int.toNat 4 + d).fmod 8) r
theorem digB (x : Int) (h0 : 0 ≤ x) (h1 : x < 128) : (digP 4 x).length ≤ 2 ∧ (∀ d ∈ digP 4 x, 0 ≤ d ∧ d < 16) ∧ foldD 0 (digP 4 x).reverse = x.fmod 8 :=
  fin_int (P := fun x => (digP 4 x).length ≤ 2 ∧ (∀ d ∈ digP 4 x, 0 ≤ d ∧ d < 16) ∧ foldD 0 (digP 4 x).reverse = x.fmod 8) 128 (by decide +kernel) x h0 h1
theorem divB (r d : Int) (h0 : 0 ≤ r) (h1 : r < 8) (d0 : 0 ≤ d) (d1 : d < 16) : 0 ≤ r * 2 ^ Int.toNat 4 + d ∧ r * 2 ^ Int.toNat 4 + d < 128 ∧ 0 ≤ (r * 2 ^ Int.toNat 4 + d).fdiv 8 ∧ (r * 2 ^ Int.toNat 4 + d).fdiv 8 < 16 ∧ 0 ≤ (r * 2 ^ Int.toNat 4 + d).fmod 8 ∧ (r * 2 ^ Int.toNat 4 + d).fmod 8 < 8 := by
  have e : (2 : Int) ^ Int.toNat 4 = 16 := by decide
  rw [e]
  have b0 : 0 ≤ r * 16 + d := Int.add_nonneg (Int.mul_nonneg h0 (by decide)) d0
  have b1 : r * 16 + d < 128 := Int.lt_of_lt_of_le (Int.add_lt_add_of_le_of_lt (Int.mul_le_mul_of_nonneg_right (Int.le_of_lt_add_one (b := 7) h1) (by decide)) d1) (by decide)
  have b := fin_int (P := fun y => 0 ≤ y.fdiv 8 ∧ y.fdiv 8 < 16 ∧ 0 ≤ y.fmod 8 ∧ y.fmod 8 < 8) 128 (by decide +kernel) (r * 16 + d) b0 b1
  exact ⟨b0, b1, b⟩
inductive DJ (x : Int) (q : Addr) (ap : Addr × Obj) (tb tn : Tok) (r4 : List (Addr × Obj)) (vs : List Value) (m : Str → Option Value) (news : List (Addr × Obj)) : Prop
  | mk : ∀ ds qus qns r tr n0, IntsAre vs ds → (∀ d ∈ ds, 0 ≤ d ∧ d < 16) → m (Str.ofString "b") = some (.int 8 tb) → m (Str.ofString "n") = some (.int 4 tn) → m (Str.ofString "r") = some (.int r tr) → m (Str.ofString "q_digits") = some (.ref q) → 0 ≤ r → r < 8 → foldD r ds = x.fmod 8 → IntsAre qus qns → (∀ d ∈ qns, 0 ≤ d ∧ d < 16) → qns.length + ds.length ≤ 2 → news = (q, PySem.W.listOf (List.toArray qus) n0) :: ap :: r4 → DJ x q ap tb tn r4 vs m news
theorem DJ.end {x : Int} {q I : Addr} {ap : Addr × Obj} {tb tn tr t : Tok} {r4 al : List (Addr × Obj)} {vr qus : List Value} {dr qns : List Int} {r z : Int} {n0 : Nat} {h₀ h' : Heap} {L : Addr} {m' : Str → Option Value} {s₁ : Shared} {tk : Nat} {it : Obj}
    (F : Fr h₀ L h' m') (N : News h₀ L h' al) (hq : (q, PySem.W.listOf (List.toArray (qus ++ [.int z t])) n0) ∈ al) (ha : ap ∈ al) (h4 : ∀ p ∈ r4, p ∈ al) (hI : (I, it) ∈ al) (o1 : @Ne Nat q I) (o2 : @Ne Nat ap.1 I) (o3 : ∀ p ∈ r4, @Ne Nat p.1 I)
    (mb : m' (Str.ofString "b") = some (.int 8 tb)) (mn : m' (Str.ofString "n") = some (.int 4 tn)) (mr : m' (Str.ofString "r") = some (.int r tr)) (mq : m' (Str.ofString "q_digits") = some (.ref q))
    (hdr : IntsAre vr dr) (hdb : ∀ d ∈ dr, 0 ≤ d ∧ d < 16) (hr : 0 ≤ r ∧ r < 8) (hf : foldD r dr = x.fmod 8) (hqs : IntsAre qus qns) (hqb : ∀ d ∈ qns, 0 ≤ d ∧ d < 16) (hz : 0 ≤ z ∧ z < 16) (hl : qns.length + 1 + dr.length ≤ 2) :
    UnrEnd h₀ L s₁ I it (fun m n => ap ∈ n ∧ DJ x q ap tb tn r4 vr m n) { s₁ with heap := h', toks := tk } := by
  refine ⟨h', tk, m', (q, PySem.W.listOf (List.toArray (qus ++ [.int z t])) n0) :: ap :: r4, rfl, F, fun p hp => N p ?_, fun p hp => ?_, List.mem_cons_of_mem _ List.mem_cons_self, dr, _, qns ++ [z], r, tr, n0, hdr, hdb, mb, mn, mr, mq, hr.1, hr.2, hf, IntsAre.append hqs (.cons z t .nil), fun d hd => ?_, by simp only [List.length_append, List.length_cons, List.length_nil]; omega, rfl⟩
  · rcases List.mem_cons.mp hp with rfl | hp
    · exact hI
    · rcases List.mem_cons.mp hp with rfl | hp
      · exact hq
      · rcases List.mem_cons.mp hp with rfl | hp
        · exact ha
        · exact h4 p hp
  · rcases List.mem_cons.mp hp with rfl | hp
    · exact o1
    · rcases List.mem_cons.mp hp with rfl | hp
      · exact o2
      · exact o3 p hp
  · rcases List.mem_append.mp hd with hd | hd
    · exact hqb d hd
    · rw [List.mem_singleton.mp hd]; exact hz
set_option maxRecDepth 100000 in
set_option maxHeartbeats 500000 in
theorem dpos_c (w : World) (x : Int) (ta tb : Tok) (h1 : 0 ≤ x) (h2 : x < 128) (ps qs : Array Value) (ic jc : Addr) (io jo : Obj) (ht : Tabs ps qs ic io jc jo) :
    Con 415 w 49 [.int x ta, .int 8 tb] (ledT ps qs ic io jc jo) (fun _ => True) (RetT (x.fmod 8)) := by
  have : Challenge.rw_re0146_01 = Challenge.rw_re0146_01 ∧ hd.heap_39 w.params = hd.heap_39 w.params := by k_fill; exact ⟨rfl, rfl⟩
  clear this
  obtain ⟨t1, t2, t3, t4, t5, t6, t7⟩ := ht
  w_top off
  k_with_none
  (k_with "k_lt" => intro kH; (try replace kH := allLt_of kH); (try replace kH := offs_of kH); (try dsimp only [AllLt, LCg.Off1, LCg.Off3, OffF, OffG, ledT] at kH); repeat (first | (have := And.left (And.left kH); have := And.left (And.right (And.left kH)); have := And.right (And.right (And.left kH)); replace kH := And.right kH) | (have := And.left kH; replace kH := And.right kH)))
  (k_with "lt:ho'" => (try replace ho' := allLt_of ho'); (try replace ho' := offs_of ho'); (try dsimp only [AllLt, LCg.Off1, LCg.Off3, OffF, OffG, ledT] at ho'); repeat (first | (have := And.left (And.left ho'); have := And.left (And.right (And.left ho')); have := And.right (And.right (And.left ho')); replace ho' := And.right ho') | (have := And.left ho'; replace ho' := And.right ho')))
  (k_with "lt:off'" => (try replace off' := allLt_of off'); (try replace off' := offs_of off'); (try dsimp only [AllLt, LCg.Off1, LCg.Off3, OffF, OffG, ledT] at off'); repeat (first | (have := And.left (And.left off'); have := And.left (And.right (And.left off')); have := And.right (And.right (And.left off')); replace off' := And.right off') | (have := And.left off'; replace off' := And.right off')))
  (k_with "lt:kc9" => (try replace kc9 := allLt_of kc9); (try replace kc9 := offs_of kc9); (try dsimp only [AllLt, LCg.Off1, LCg.Off3, OffF, OffG, ledT] at kc9); repeat (first | (have := And.left (And.left kc9); have := And.left (And.right (And.left kc9)); have := And.right (And.right (And.left kc9)); replace kc9 := And.right kc9) | (have := And.left kc9; replace kc9 := And.right kc9)))
  (k_with "k_ne" => refine neN ?_; first | (with_reducible first | assumption | exact Ne.symm (by assumption) | exact Nat.ne_of_lt (by assumption) | exact Ne.symm (Nat.ne_of_lt (by assumption))) | ((try dsimp only); first | ((iterate 2 (first | done | with_reducible (first | exact cN1 _ | exact cN2 _ | exact cN3 _ | exact cL1 (by assumption) | exact cL2 (by assumption) | exact cL3 (by assumption) | exact cL4 (by assumption)) | exact Nat.ne_of_beq_eq_false rfl | refine Ne.symm ?_)); done) | ((iterate 4 (first | done | (with_reducible rename (@Ne Nat _ _) ∧ _ => kc9; (k_extra "lt:kc9"); with_reducible first | assumption | exact Ne.symm (by assumption)) | (with_reducible rename (@Ne Nat _ _) ∧ _ => kc9; clear kc9))); done) | omega))
  (k_with "execs cons" => k_here; (with_reducible rename Fr _ _ _ _ => lF); (let lm := mOf lF); (have F' : Fr _ _ _ lm := lF); (with_reducible refine wpAny_execs_cons ?_); (try dsimp only); (try k_fold))
  (k_with "storeName" => k_here; (with_reducible show wpAny _ _ (storeName _ _ (Value.int (Nat.cast (Builtin.Int.intBits _)) _)) _ _ _); (rw [show ((Builtin.Int.intBits 8 : Nat) : Int) = 4 from by decide]))
  (k_with "call ref" => k_here; k_dflt (refine Con.use (int2_c w x 4 _ _ h1 h2 (.inr rfl) (by intro h; cases h) _ _ _ t1) G (by k_asm) (by k_asm) (by kcj_all) (.skip (.skip (.keep (by k_all) (.keep (by k_all) .nil)))) trivial rfl rfl rfl rfl (Nat.le_of_ble_eq_true rfl) (Nat.le_of_ble_eq_true rfl) ?_); (intro v' nl' h' tk' hr' F' N' off'); k_dflt (obtain ⟨D', us', k', ps', c', oc', hv', hnl', hi', hst', ho'⟩ := hr'); (subst hv' hnl'); (dsimp only [List.cons_append, List.nil_append] at N'); (k_extra "lt:off'"); (k_extra "lt:ho'"))
  refine con0L (pre' := fun _ => True) (by k_is) (by k_is) (by decide) (fun _ => BindsTo.of_eq rfl) (locs rfl) (fun _ _ _ _ => trivial) ?_ rfl rfl rfl (by decide)
  intro outer h₀ L h₁ gn dr tk os Q E ee AA G _ F N l0 hE hQ
  obtain ⟨A₀, base, B, X, p, loose, mean, mg, mb, T, H⟩ := id G
  k_steps
  rename Fr _ _ _ _ => F1
  rename News _ _ _ _ => N1
  with_unfolding_all refine iter_revUnr (vs := us') (n := k') (by rfl) F1 N1 (by k_offL) (List.mem_cons_of_mem _ List.mem_cons_self) rfl rfl ?_
  refine RevRest.by (DJ x _ _ _ _ _) ?h0 ?hs _ _ _ ⟨_, [], [], 0, _, _, ints_rev hi', fun d hd => (digB x h1 h2).2.1 d (List.mem_reverse.mp hd), rfl, rfl, rfl, rfl, by decide, by decide, (digB x h1 h2).2.2, .nil, fun d hd => (nomatch hd), by rw [List.length_reverse, List.length_nil, Nat.zero_add]; exact (digB x h1 h2).1, rfl⟩
  all_goals clear F1 N1
  case h0 =>
    rintro m' news' h' tk' ⟨ds, qus, qns, r, tr, n0, hds, hdb, mb, mn, mr, mq, hr0, hr1, hf, hq, hqb, hln, rfl⟩ F' N'
    cases hds
    rw [hold mb, hold mn, hold mr, hold mq] at F'
    have hql : qus.length ≤ 8 := sum2 hln hq.length
    have hq2 : qns.reverse.length ≤ 2 := by rw [List.length_reverse]; exact hln
    (k_with "call builtin:list.reverse" => k_here; k_dflt (refine kl_reverse (by k_asm) (by k_asm) rfl (by k_upd) (by exact line8 hql) ?_); intro h' F' N'; (rw [lrev] at N'))
    (k_with "call ref" => k_here; (with_reducible rename News _ _ _ _ => N9); (have hIL := isl_of N9 List.mem_cons_self); k_dflt (refine Con.use (dig_c w _ _ _ (ints_rev hq) (fun d hd => hqb d (List.mem_reverse.mp hd)) hq2 _ _ _ _ t2) G (by k_asm) (by k_asm) (by kcj_all) (.skip (.skip (.keep (by k_all) (.keep (by k_all) (.skip (.skip .nil)))))) ⟨hIL, by k_all⟩ rfl rfl rfl rfl (Nat.le_of_ble_eq_true rfl) (Nat.le_of_ble_eq_true rfl) ?_); (intro v' nl' h' tk' hr' F' N' off'); k_dflt (obtain ⟨z', t', ps2', c2', oc2', hv', hnl', hst2'⟩ := hr'); (subst hv' hnl'); (dsimp only [List.cons_append, List.nil_append] at N'); (k_extra "lt:off'"))
    k_steps
    exact hQ _ _ _ _ _ ⟨_, _, _, _, _, _, _, _, _, _, _, _, rfl, hf, rfl, ⟨hst', hst2', by k_ne, by k_ne, by k_ne, hst'.ne, hst2'.ne⟩, by (repeat' (first | exact True.intro | refine And.intro (by k_ne) ?_))⟩ (by k_asm) (cb_drop (by k_asm) (by kcj_all))
  case hs =>
    rintro v vr m' news' it h' tk' ⟨ds, qus, qns, r, tr, n0, hds, hdb, mb, mn, mr, mq, hr0, hr1, hf, hq, hqb, hln, rfl⟩ hit F' N'
    obtain ⟨d, dr, td, rfl, rfl, hdr⟩ : ∃ d dr td, ds = d :: dr ∧ v = .int d td ∧ IntsAre vr dr := by cases hds with | cons n t h => exact ⟨_, _, _, rfl, rfl, h⟩
    rw [hold mb, hold mn, hold mr, hold mq] at F'
    have hd9 := divB r d hr0 hr1 (hdb d List.mem_cons_self).1 (hdb d List.mem_cons_self).2
    have hql : qus.length ≤ 8 := sum2 hln hq.length
    simp only [List.length_cons] at hln
    (k_with "binaryOp LShift int int" => k_here; k_dflt (refine lsh (by decide) (mx8 (by assumption) (by assumption)) ?_); intro _ _; (try dsimp only))
    (k_with "call ref" => k_here; k_dflt (refine Con.use (div2 w _ _ _ _ hd9.1 hd9.2.1) G (by k_asm) (by k_asm) (by kcj_all) (rem_all _) trivial rfl rfl rfl rfl (Nat.le_of_ble_eq_true rfl) (Nat.le_of_ble_eq_true rfl) ?_); (intro v' nl' h' tk' hr' F' N' off'); k_dflt (obtain ⟨D2', t1', u1', c2', hv', hnl'⟩ := hr'); (subst hv' hnl'); (dsimp only [List.cons_append, List.nil_append] at N'); (k_extra "lt:off'"))
    (k_with "call builtin:list.append" => k_here; k_dflt (refine append_K (by k_asm) (by k_asm) (by k_upd) ?_ (by exact line8 hql)); intro h' F' N'; (rw [lpush] at N'))
    (k_with "UnrEnd" => k_dflt (refine DJ.end (by k_asm) (by k_asm) (by k_mem) (by k_mem) (by kcj_all) (by k_mem) (by k_ne) (by k_ne) (by k_all) rfl rfl rfl rfl hdr (fun d hd => hdb d (List.mem_cons_of_mem _ hd)) hd9.2.2.2.2 hf hq hqb ⟨hd9.2.2.1, hd9.2.2.2.1⟩ (by rw [Nat.add_right_comm]; exact hln)))
    k_steps
end
section
open PySem PySem.W PyProof.Rows
set_option compiler.extract_closed false in
set_option compiler.extract_closed false in
set_option compiler.extract_closed false in
set_option maxRecDepth 100000 in
set_option maxHeartbeats 500000 in
theorem idm_pos (w : World) (x : Int) (ta tb : Tok) (h1 : 0 ≤ x) (h2 : x < 128) (ps qs : Array Value) (ic jc : Addr) (io jo : Obj) (ht : Tabs ps qs ic io jc jo) :
    Con 410 w 56 [.int x ta, .int 8 tb] (ledT ps qs ic io jc jo) (fun _ => True) (RetT (x.fmod 8)) := by
  have : Challenge.rw_re0146_01 = Challenge.rw_re0146_01 ∧ hd.heap_39 w.params = hd.heap_39 w.params := by k_fill; exact ⟨rfl, rfl⟩
  clear this
  have t2 := ht.a
  have t3 := ht.b
  have t4 := ht.c
  have t5 := ht.d
  have t6 := ht.e
  w_top off
  k_with_none
  (k_with "k_lt" => intro kH; (try replace kH := allLt_of kH); (try replace kH := offs_of kH); (try dsimp only [AllLt, LCg.Off1, LCg.Off3, OffF, OffG, ledT] at kH); repeat (first | (have := And.left (And.left kH); have := And.left (And.right (And.left kH)); have := And.right (And.right (And.left kH)); replace kH := And.right kH) | (have := And.left kH; replace kH := And.right kH)))
  (k_with "lt:ho'" => (try replace ho' := allLt_of ho'); (try replace ho' := offs_of ho'); (try dsimp only [AllLt, LCg.Off1, LCg.Off3, OffF, OffG, ledT] at ho'); repeat (first | (have := And.left (And.left ho'); have := And.left (And.right (And.left ho')); have := And.right (And.right (And.left ho')); replace ho' := And.right ho') | (have := And.left ho'; replace ho' := And.right ho')))
  (k_with "lt:kc9" => (try replace kc9 := allLt_of kc9); (try replace kc9 := offs_of kc9); (try dsimp only [AllLt, LCg.Off1, LCg.Off3, OffF, OffG, ledT] at kc9); repeat (first | (have := And.left (And.left kc9); have := And.left (And.right (And.left kc9)); have := And.right (And.right (And.left kc9)); replace kc9 := And.right kc9) | (have := And.left kc9; replace kc9 := And.right kc9)))
  (k_with "k_ne" => refine neN ?_; first | (with_reducible first | assumption | exact Ne.symm (by assumption) | exact Nat.ne_of_lt (by assumption) | exact Ne.symm (Nat.ne_of_lt (by assumption))) | ((try dsimp only); first | ((iterate 2 (first | done | with_reducible (first | exact cN1 _ | exact cN2 _ | exact cN3 _ | exact cL1 (by assumption) | exact cL2 (by assumption) | exact cL3 (by assumption) | exact cL4 (by assumption)) | exact Nat.ne_of_beq_eq_false rfl | refine Ne.symm ?_)); done) | ((iterate 4 (first | done | (with_reducible rename (@Ne Nat _ _) ∧ _ => kc9; (k_extra "lt:kc9"); with_reducible first | assumption | exact Ne.symm (by assumption)) | (with_reducible rename (@Ne Nat _ _) ∧ _ => kc9; clear kc9))); done) | omega))
  (k_with "execs cons" => k_here; (with_reducible rename Fr _ _ _ _ => lF); (let lm := mOf lF); (have F' : Fr _ _ _ lm := lF); (with_reducible refine wpAny_execs_cons ?_); (try dsimp only); (try k_fold))
  (k_with "call ref" => k_here; k_dflt (refine Con.use (dpos_c w x _ _ h1 h2 _ _ _ _ _ _ ht) G (by k_asm) (by k_asm) (by kcj_all) (rem_none _ _) trivial rfl rfl rfl rfl (Nat.le_of_ble_eq_true rfl) (Nat.le_of_ble_eq_true rfl) ?_); (intro v' nl' h' tk' hr' F' N' off'); k_dflt (obtain ⟨D', z', y', t1', t2', k', ps', qs', ic', io', jc', jo', hv', hy', hnl', hst', ho'⟩ := hr'); (subst hv' hnl'); (dsimp only [ledT, List.cons_append, List.nil_append] at N'))
  refine con0L (pre' := fun _ => True) (by k_is) (by k_is) (by decide) (fun _ => BindsTo.of_eq rfl) (locs rfl) (fun _ _ _ _ => trivial) ?_ rfl rfl rfl (by decide)
  intro outer h₀ L h₁ gn dr tk os Q E ee AA G _ F N l0 hE hQ
  obtain ⟨A₀, base, B, X, p, loose, mean, mg, mb, T, H⟩ := id G
  k_steps
  exact hQ _ _ _ _ _ ⟨_, _, _, _, _, _, _, _, _, _, _, _, rfl, hy', rfl, hst', ho'⟩ (by k_asm) (cb_drop (by k_asm) (by kcj_all))
theorem bnot_neg (x : Int) : Builtin.bitNot x = -x - 1 := rfl
theorem negmod (x y : Int) (h : y = (-x - 1).fmod 8) (h1 : -128 ≤ x) (h2 : x < 0) : 8 + Builtin.bitNot y = x.fmod 8 := by
  subst h
  have := fin_int (P := fun z => 8 + Builtin.bitNot (z.fmod 8) = (-z - 1).fmod 8) 128 (by decide +kernel) (-x - 1) (by omega) (by omega)
  rw [this, show -(-x - 1) - 1 = x by omega]
set_option maxRecDepth 100000 in
set_option maxHeartbeats 500000 in
theorem idm_neg (w : World) (x : Int) (ta tb : Tok) (h1 : -128 ≤ x) (h2 : x < 0) (ps qs : Array Value) (ic jc : Addr) (io jo : Obj) (ht : Tabs ps qs ic io jc jo) :
    Con 400 w 56 [.int x ta, .int 8 tb] (ledT ps qs ic io jc jo) (fun _ => True) (RetT (x.fmod 8)) := by
  have : Challenge.rw_re0146_01 = Challenge.rw_re0146_01 ∧ hd.heap_39 w.params = hd.heap_39 w.params := by k_fill; exact ⟨rfl, rfl⟩
  clear this
  have t2 := ht.a
  have t3 := ht.b
  have t4 := ht.c
  have t5 := ht.d
  have t6 := ht.e
  w_top off
  k_with_none
  (k_with "k_lt" => intro kH; (try replace kH := allLt_of kH); (try replace kH := offs_of kH); (try dsimp only [AllLt, LCg.Off1, LCg.Off3, OffF, OffG, ledT] at kH); repeat (first | (have := And.left (And.left kH); have := And.left (And.right (And.left kH)); have := And.right (And.right (And.left kH)); replace kH := And.right kH) | (have := And.left kH; replace kH := And.right kH)))
  (k_with "lt:ho'" => (try replace ho' := allLt_of ho'); (try replace ho' := offs_of ho'); (try dsimp only [AllLt, LCg.Off1, LCg.Off3, OffF, OffG, ledT] at ho'); repeat (first | (have := And.left (And.left ho'); have := And.left (And.right (And.left ho')); have := And.right (And.right (And.left ho')); replace ho' := And.right ho') | (have := And.left ho'; replace ho' := And.right ho')))
  (k_with "lt:kc9" => (try replace kc9 := allLt_of kc9); (try replace kc9 := offs_of kc9); (try dsimp only [AllLt, LCg.Off1, LCg.Off3, OffF, OffG, ledT] at kc9); repeat (first | (have := And.left (And.left kc9); have := And.left (And.right (And.left kc9)); have := And.right (And.right (And.left kc9)); replace kc9 := And.right kc9) | (have := And.left kc9; replace kc9 := And.right kc9)))
  (k_with "k_ne" => refine neN ?_; first | (with_reducible first | assumption | exact Ne.symm (by assumption) | exact Nat.ne_of_lt (by assumption) | exact Ne.symm (Nat.ne_of_lt (by assumption))) | ((try dsimp only); first | ((iterate 2 (first | done | with_reducible (first | exact cN1 _ | exact cN2 _ | exact cN3 _ | exact cL1 (by assumption) | exact cL2 (by assumption) | exact cL3 (by assumption) | exact cL4 (by assumption)) | exact Nat.ne_of_beq_eq_false rfl | refine Ne.symm ?_)); done) | ((iterate 4 (first | done | (with_reducible rename (@Ne Nat _ _) ∧ _ => kc9; (k_extra "lt:kc9"); with_reducible first | assumption | exact Ne.symm (by assumption)) | (with_reducible rename (@Ne Nat _ _) ∧ _ => kc9; clear kc9))); done) | omega))
  (k_with "execs cons" => k_here; (with_reducible rename Fr _ _ _ _ => lF); (let lm := mOf lF); (have F' : Fr _ _ _ lm := lF); (with_reducible refine wpAny_execs_cons ?_); (try dsimp only); (try k_fold))
  (k_with "call ref" => k_here; k_dflt (refine Con.use (idm_pos w (-x - 1) _ _ (by omega) (by omega) _ _ _ _ _ _ ht) G (by k_asm) (by k_asm) (by kcj_all) (rem_none _ _) trivial rfl rfl rfl rfl (Nat.le_of_ble_eq_true rfl) (Nat.le_of_ble_eq_true rfl) ?_); (intro v' nl' h' tk' hr' F' N' off'); k_dflt (obtain ⟨D', z', y', t1', t2', k', ps', qs', ic', io', jc', jo', hv', hy', hnl', hst', ho'⟩ := hr'); (subst hv' hnl'); (dsimp only [ledT, List.cons_append, List.nil_append] at N'); have t2 := hst'.a; have t3 := hst'.b; have t4 := hst'.c; have t5 := hst'.d; have t6 := hst'.e; (k_extra "lt:ho'"))
  refine con0L (pre' := fun _ => True) (by k_is) (by k_is) (by decide) (fun _ => BindsTo.of_eq rfl) (locs rfl) (fun _ _ _ _ => trivial) ?_ rfl rfl rfl (by decide)
  intro outer h₀ L h₁ gn dr tk os Q E ee AA G _ F N l0 hE hQ
  obtain ⟨A₀, base, B, X, p, loose, mean, mg, mb, T, H⟩ := id G
  k_steps
  exact hQ _ _ _ _ _ ⟨_, _, _, _, _, _, _, _, _, _, _, _, rfl, negmod x _ hy' h1 h2, rfl, hst', by (repeat' (first | exact True.intro | refine And.intro (by k_ne) ?_))⟩ (by k_asm) (cb_drop (by k_asm) (by kcj_all))
theorem Con.mono {d d' : Nat} {w : World} {f : Addr} {vs : List Value} {led : List (Addr × Obj)} {pre : Heap → Prop} {ret : Value → List (Addr × Obj) → Prop} (C : Con d w f vs led pre ret) (h : d' ≤ d) : Con d' w f vs led pre ret :=
  fun env outer h₀ L m hp gn dr tk os Q E a b c e n p k => wp_lift (C env outer h₀ L m hp gn dr tk os Q E a b c e n p k) rfl h rfl rfl (Nat.mul_le_mul_left 3 h)
theorem idm_c (w : World) (x : Int) (ta tb : Tok) (h1 : -128 ≤ x) (h2 : x < 128) (ps qs : Array Value) (ic jc : Addr) (io jo : Obj) (ht : Tabs ps qs ic io jc jo) :
    Con 400 w 56 [.int x ta, .int 8 tb] (ledT ps qs ic io jc jo) (fun _ => True) (RetT (x.fmod 8)) := by
  rcases Int.lt_or_le x 0 with h | h
  · exact idm_neg w x ta tb h1 h ps qs ic jc io jo ht
  · exact Con.mono (idm_pos w x ta tb h h2 ps qs ic jc io jo ht) (by decide)
end
section
open PySem PySem.W PyProof.Rows
set_option compiler.extract_closed false in
set_option compiler.extract_closed false in
set_option compiler.extract_closed false in
noncomputable def wd (r : Int) : Str := { cps := #[(50 + r % 2).toNat, (52 + 2 * (r % 2) + r / 2 % 2).toNat, (56 + 4 * (r % 2) + 2 * (r / 2 % 2) + r / 4 % 2).toNat] }
inductive TxtsAre : List Value → List Str → Prop
  | nil : TxtsAre [] []
  | cons {vs : List Value} {ds : List Str} (d : Str) (t : Tok) : TxtsAre vs ds → TxtsAre (.str d t :: vs) (d :: ds)
theorem TxtsAre.push {vs : List Value} {ds : List Str} (h : TxtsAre vs ds) (d : Str) (t : Tok) : TxtsAre (vs ++ [.str d t]) (ds ++ [d]) := by
  induction h with
  | nil => exact .cons d t .nil
  | cons e u _ ih => exact .cons e u ih
theorem TxtsAre.len {vs : List Value} {ds : List Str} (h : TxtsAre vs ds) : vs.length = ds.length := by
  induction h with
  | nil => rfl
  | cons _ _ _ ih => rw [List.length_cons, List.length_cons, ih]
theorem slice3 (a b c d : Value) : slicePick (List.toArray [a, b, c, d]) none (some 3) none = List.toArray [a, b, c] := rfl
theorem dig8 (r : Int) (h0 : 0 ≤ r) (h1 : r < 8) : digP 1 (8 + r) = [r % 2, r / 2 % 2, r / 4 % 2, 1] :=
  fin_int (P := fun r => digP 1 (8 + r) = [r % 2, r / 2 % 2, r / 4 % 2, 1]) 8 (by decide +kernel) r h0 h1
theorem ints4 {us : List Value} {r : Int} (h0 : 0 ≤ r) (h1 : r < 8) (h : IntsAre us (digP 1 (8 + r))) : ∃ t u v w, us = [.int (r % 2) t, .int (r / 2 % 2) u, .int (r / 4 % 2) v, .int 1 w] := by
  rw [dig8 r h0 h1] at h
  cases h with | cons _ t h => cases h with | cons _ u h => cases h with | cons _ v h => cases h with | cons _ w h => cases h; exact ⟨t, u, v, w, rfl⟩
theorem wd_eq (r : Int) (h0 : 0 ≤ r) (h1 : r < 8) : Str.ofString "" ++ ({ cps := #[(48 + (2 * 1 + r % 2)).toNat] } : Str) ++ ({ cps := #[(48 + (2 * (2 * 1 + r % 2) + r / 2 % 2)).toNat] } : Str) ++ ({ cps := #[(48 + (2 * (2 * (2 * 1 + r % 2) + r / 2 % 2) + r / 4 % 2)).toNat] } : Str) = wd r :=
  fin_int (P := fun r => Str.ofString "" ++ ({ cps := #[(48 + (2 * 1 + r % 2)).toNat] } : Str) ++ ({ cps := #[(48 + (2 * (2 * 1 + r % 2) + r / 2 % 2)).toNat] } : Str) ++ ({ cps := #[(48 + (2 * (2 * (2 * 1 + r % 2) + r / 2 % 2) + r / 4 % 2)).toNat] } : Str) = wd r) 8 (by decide +kernel) r h0 h1
inductive WJ (l' l I : Addr) (lo : Obj) (all : List Str) (vs : List Value) (m : Str → Option Value) (news : List (Addr × Obj)) : Prop
  | mk : ∀ rs ws ds n ps ic io, IntsAre vs rs → (∀ r ∈ rs, 0 ≤ r ∧ r < 8) → m (Str.ofString "words") = some (.ref l') → news = [(l', PySem.W.listOf (List.toArray ws) n), (l, lo), (30, tabObj ps), (ic, io)] → TxtsAre ws ds → ds ++ rs.map wd = all → StI ic io ps → @Ne Nat l' ic → @Ne Nat l ic → @Ne Nat ic I → WJ l' l I lo all vs m news
theorem WJ.end {l' l I : Addr} {lo it : Obj} {all : List Str} {r1 : Int} {rr : List Int} {r ws : List Value} {ds : List Str} {n : Nat} {t : Tok} {ps : Array Value} {ic : Addr} {io : Obj} {h₀ h' : Heap} {L : Addr} {m' : Str → Option Value} {al : List (Addr × Obj)} {s₁ : Shared} {tk : Nat}
    (F : Fr h₀ L h' m') (N : News h₀ L h' al) (hm : m' (Str.ofString "words") = some (.ref l')) (hw : (l', PySem.W.listOf (List.toArray (ws ++ [.str (wd r1) t])) n) ∈ al) (hl : (l, lo) ∈ al) (hp : (30, tabObj ps) ∈ al) (hc : (ic, io) ∈ al) (hI : (I, it) ∈ al)
    (ht : TxtsAre ws ds) (hi : IntsAre r rr) (hs : ∀ r ∈ rr, 0 ≤ r ∧ r < 8) (he : ds ++ (r1 :: rr).map wd = all) (hst : StI ic io ps) (a : @Ne Nat l' ic) (b : @Ne Nat l ic) (i1 : @Ne Nat l' I) (i2 : @Ne Nat l I) (i3 : @Ne Nat 30 I) (i4 : @Ne Nat ic I) :
    UnrEnd h₀ L s₁ I it (fun m' n' => (l, lo) ∈ n' ∧ WJ l' l I lo all r m' n') { s₁ with heap := h', toks := tk } := by
  refine ⟨h', tk, m', [(l', PySem.W.listOf (List.toArray (ws ++ [.str (wd r1) t])) n), (l, lo), (30, tabObj ps), (ic, io)], rfl, F, cb_drop N ?_, ?_, ?_, rr, _, _, _, _, _, _, hi, hs, hm, rfl, ht.push _ _, ?_, hst, a, b, i4⟩
  · exact List.forall_mem_cons.mpr ⟨hI, List.forall_mem_cons.mpr ⟨hw, List.forall_mem_cons.mpr ⟨hl, List.forall_mem_cons.mpr ⟨hp, List.forall_mem_cons.mpr ⟨hc, List.forall_mem_nil _⟩⟩⟩⟩⟩
  · exact List.forall_mem_cons.mpr ⟨i1, List.forall_mem_cons.mpr ⟨i2, List.forall_mem_cons.mpr ⟨i3, List.forall_mem_cons.mpr ⟨i4, List.forall_mem_nil _⟩⟩⟩⟩
  · exact List.mem_cons_of_mem _ List.mem_cons_self
  · rw [← he, List.map_cons, List.append_assoc]; rfl
inductive RetW (l : Addr) (lo : Obj) (ds : List Str) (v : Value) (nl : List (Addr × Obj)) : Prop
  | mk : ∀ D us n ps ic io, v = .ref D → nl = [(D, PySem.W.listOf (List.toArray us) n), (l, lo), (30, tabObj ps), (ic, io)] → TxtsAre us ds → StI ic io ps → LCg.Off1 D [(l, lo), (30, tabObj ps), (ic, io)] → @Ne Nat l ic → RetW l lo ds v nl
theorem ch1 (b : Int) : 0 ≤ 2 * 1 + b % 2 ∧ 2 * 1 + b % 2 ≤ 3 := by omega
theorem ch2 {a : Int} (h : 0 ≤ a ∧ a ≤ 3) (b : Int) : 0 ≤ 2 * a + b % 2 ∧ 2 * a + b % 2 ≤ 7 := by omega
theorem ch3 {a : Int} (h : 0 ≤ a ∧ a ≤ 7) (b : Int) : 0 ≤ 2 * a + b % 2 ∧ 2 * a + b % 2 ≤ 15 := by omega
theorem chw {a n : Int} (h : 0 ≤ a ∧ a ≤ n) (hn : n ≤ 15) : 0 ≤ a ∧ a ≤ 15 := ⟨h.1, Int.le_trans h.2 hn⟩
theorem chrW {prog : Program} {w : World} {A : Around} {s : Shared} {E : Value → Shared → Prop} {a : Int} {t : Tok} {Q : Value → Shared → Prop} (h : 0 ≤ a ∧ a ≤ 15) (k : Q (.str ⟨#[(48 + a).toNat]⟩ s.toks) { s with toks := s.toks + 1 }) :
    wpAny (model prog w) A (call (.builtin "chr") [.int (48 + a) t]) Q E s := chr_of_range (by omega) (by omega) k
set_option maxRecDepth 100000 in
set_option maxHeartbeats 1200000 in
theorem words_c (w : World) (l : Addr) (hl1 : @Ne Nat l 30) (lo : Obj) (cc : Nat) (us : List Value) (rs : List Int) (hlc : lo.cls = .type "list") (hld : lo.data = .seq us.toArray cc) (hu : IntsAre us rs) (hb : Small rs) (ps : Array Value) (ic : Addr) (io : Obj) (hl2 : @Ne Nat l ic) (hst : StI ic io ps) :
    Con 400 w 121 [.ref l] [(l, lo), (30, tabObj ps), (ic, io)] (fun _ => True) (RetW l lo (rs.map wd)) := by
  have : Challenge.rw_re0146_01 = Challenge.rw_re0146_01 ∧ hd.heap_39 w.params = hd.heap_39 w.params := by k_fill; exact ⟨rfl, rfl⟩
  clear this
  have hic := hst.ne
  w_top off
  k_with_none
  (k_with "k_lt" => intro kH; (try replace kH := allLt_of kH); (try replace kH := offs_of kH); (try dsimp only [AllLt, LCg.Off1, LCg.Off3, OffF, OffG, ledT] at kH); repeat (first | (have := And.left (And.left kH); have := And.left (And.right (And.left kH)); have := And.right (And.right (And.left kH)); replace kH := And.right kH) | (have := And.left kH; replace kH := And.right kH)))
  (k_with "lt:ho'" => (try replace ho' := allLt_of ho'); (try replace ho' := offs_of ho'); (try dsimp only [AllLt, LCg.Off1, LCg.Off3, OffF, OffG, ledT] at ho'); repeat (first | (have := And.left (And.left ho'); have := And.left (And.right (And.left ho')); have := And.right (And.right (And.left ho')); replace ho' := And.right ho') | (have := And.left ho'; replace ho' := And.right ho')))
  (k_with "lt:l1" => (try replace l1 := allLt_of l1); (try replace l1 := offs_of l1); (try dsimp only [AllLt, LCg.Off1, LCg.Off3, OffF, OffG, ledT] at l1); repeat (first | (have := And.left (And.left l1); have := And.left (And.right (And.left l1)); have := And.right (And.right (And.left l1)); replace l1 := And.right l1) | (have := And.left l1; replace l1 := And.right l1)))
  (k_with "lt:off'" => (try replace off' := allLt_of off'); (try replace off' := offs_of off'); (try dsimp only [AllLt, LCg.Off1, LCg.Off3, OffF, OffG, ledT] at off'); repeat (first | (have := And.left (And.left off'); have := And.left (And.right (And.left off')); have := And.right (And.right (And.left off')); replace off' := And.right off') | (have := And.left off'; replace off' := And.right off')))
  (k_with "lt:kc9" => (try replace kc9 := allLt_of kc9); (try replace kc9 := offs_of kc9); (try dsimp only [AllLt, LCg.Off1, LCg.Off3, OffF, OffG, ledT] at kc9); repeat (first | (have := And.left (And.left kc9); have := And.left (And.right (And.left kc9)); have := And.right (And.right (And.left kc9)); replace kc9 := And.right kc9) | (have := And.left kc9; replace kc9 := And.right kc9)))
  (k_with "k_ne" => refine neN ?_; first | (with_reducible first | assumption | exact Ne.symm (by assumption) | exact Nat.ne_of_lt (by assumption) | exact Ne.symm (Nat.ne_of_lt (by assumption))) | ((try dsimp only); first | ((iterate 2 (first | done | with_reducible (first | exact cN1 _ | exact cN2 _ | exact cN3 _ | exact cL1 (by assumption) | exact cL2 (by assumption) | exact cL3 (by assumption) | exact cL4 (by assumption)) | exact Nat.ne_of_beq_eq_false rfl | refine Ne.symm ?_)); done) | ((iterate 4 (first | done | (with_reducible rename (@Ne Nat _ _) ∧ _ => kc9; (k_extra "lt:kc9"); with_reducible first | assumption | exact Ne.symm (by assumption)) | (with_reducible rename (@Ne Nat _ _) ∧ _ => kc9; clear kc9))); done) | omega))
  (k_with "execs cons" => k_here; (with_reducible rename Fr _ _ _ _ => lF); (let lm := mOf lF); (have F' : Fr _ _ _ lm := lF); (with_reducible refine wpAny_execs_cons ?_); (try dsimp only); (try k_fold))
  refine con0L (pre' := fun _ => True) (by k_is) (by k_is) (by decide) (fun _ => BindsTo.of_eq rfl) (locs rfl) (fun _ _ _ _ => trivial) ?_ rfl rfl rfl (by decide)
  intro outer h₀ L h₁ gn dr tk os Q E ee AA G _ F N l0 hE hQ
  obtain ⟨A₀, base, B, X, p, loose, mean, mg, mb, T, H⟩ := id G
  obtain ⟨hGa, hGb⟩ := id H
  (k_with "exec For Name Name cons nil" => k_here; (with_reducible rename Fr _ _ _ _ => lF'); (with_unfolding_all refine For_invVF lF' (by rfl) (by rfl) ?_))
  k_steps
  rename Fr _ _ _ _ => F'
  rename News _ _ _ _ => N'
  with_unfolding_all refine iter_listUnr (lo := lo) (vs := us) (n := cc) (by rfl) F' N' (by k_mem) hlc hld ?_
  intro I' l1
  (try k_extra "lt:l1")
  refine ListRest.by (WJ _ l I' lo (rs.map wd)) ?h0 ?hs us _ _ ⟨rs, [], [], 0, ps, ic, io, hu, hb.2, rfl, rfl, .nil, rfl, hst, by k_ne, hl2, by k_ne⟩
  all_goals (clear F' N')
  case h0 =>
    rintro m' news' h' tk' ⟨rs', ws, ds, n', ps', ic2, io', hi', hs', hm', rfl, ht', he', hst', ha', hb', hg'⟩ F' N'
    cases hi'
    rw [hold hm'] at F'
    rw [List.map_nil, List.append_nil] at he'
    subst he'
    k_steps
    exact hQ _ _ _ _ _ ⟨_, _, _, _, _, _, rfl, rfl, ht', hst', by (repeat' (first | exact True.intro | refine And.intro (by k_ne) ?_)), hb'⟩ (by k_asm) (cb_drop (by k_asm) (by kcj_all))
  case hs =>
    rintro v r m' news' it h' tk' ⟨rs', ws, ds, n', ps', ic2, io', hi', hs', hm', rfl, ht', he', hst', ha', hb', hg'⟩ hc' F' N'
    obtain ⟨r1, rr, t1, rfl, rfl, hi2⟩ : ∃ r1 rr t1, rs' = r1 :: rr ∧ v = .int r1 t1 ∧ IntsAre r rr := by cases hi' with | cons n t h => exact ⟨_, _, _, rfl, rfl, h⟩
    obtain ⟨hr1, hr2⟩ := hs' r1 List.mem_cons_self
    have hs2 : ∀ r ∈ rr, 0 ≤ r ∧ r < 8 := fun r hr => hs' r (List.mem_cons_of_mem _ hr)
    rw [hold hm'] at F'
    have hic2 := hst'.ne
    (k_with "binaryOp Mult int int" => refine PyProof.Rows.mul_int ?_ (.of_left bl2))
    have hwl : ws.length ≤ 8 := by
      have e1 := congrArg List.length he'
      have e2 := ht'.len
      have e3 := hb.1
      rw [List.length_append, List.length_map] at e1
      exact sum8 e1 (Nat.le_of_eq (by rw [List.length_map]; exact e3)) e2
    (k_with "call ref" => k_here; k_dflt (refine Con.use (int2_c w (8 + r1) 1 _ _ (Int.add_nonneg (by decide) hr1) (Int.lt_trans (Int.add_lt_add_left hr2 8) (by decide)) (.inl rfl) (fun _ => Int.add_lt_add_left hr2 8) _ _ _ hst') G (by k_asm) (by k_asm) (by kcj_all) (.keep (by k_all) (.keep (by k_all) (.keep (by k_all) (.skip (.skip .nil))))) trivial rfl rfl rfl rfl (Nat.le_of_ble_eq_true rfl) (Nat.le_of_ble_eq_true rfl) ?_); (intro v' nl' h' tk' hr' F' N' off'); k_dflt (obtain ⟨D', us', k', ps', c', oc', hv', hnl', hi', hst', ho'⟩ := hr'); (obtain ⟨t1', t2', t3', t4', hus'⟩ := ints4 hr1 hr2 hi'); (subst hv' hnl' hus'); (dsimp only [List.cons_append, List.nil_append] at N'); (k_extra "lt:off'"); (k_extra "lt:ho'"))
    (k_with "exec For Name Subscript cons nil" => k_here; (with_reducible rename Fr _ _ _ _ => lF'); (with_unfolding_all refine For_invVF lF' (by rfl) (by rfl) ?_))
    (k_with "call builtin:list.append" => k_here; (with_reducible show wpAny _ _ (call (Value.builtin _) [Value.ref _, Value.str _ _]) _ _ _); k_dflt (refine append_K (by k_asm) (by k_asm) (by k_upd) ?_ (by exact line8 hwl)); intro h' F' N'; (rw [wd_eq _ hr1 hr2, lpush] at N'))
    (k_with "call builtin:chr" => k_here; k_dflt (refine chrW (by first | exact chw (ch1 _) (by decide) | exact chw (ch2 (ch1 _) _) (by decide) | exact ch3 (ch2 (ch1 _) _) _) ?_))
    (k_with "UnrEnd" => (with_reducible show UnrEnd _ _ _ _ _ (fun m' n' => _ ∧ WJ _ _ _ _ _ _ m' n') _); k_dflt (refine WJ.end (by k_asm) (by k_asm) rfl (by k_mem) (by k_mem) (by k_mem) (by k_mem) (by k_mem) ht' hi2 hs2 he' hst' (by k_ne) (by k_ne) (by k_ne) (by k_ne) (by k_ne) (by k_ne)))
    k_steps
end
section
open PySem PySem.W PyProof.Rows
set_option compiler.extract_closed false in
set_option compiler.extract_closed false in
set_option compiler.extract_closed false in
set_option maxRecDepth 100000 in
set_option maxHeartbeats 500000 in
theorem lev_eq (w : World) (a : Str) (t1 t2 t3 : Tok) : Con 400 w 87 [.str a t1, .str a t2, .int 6 t3] [] (fun _ => True) (RetZ 0) := by
  have : Challenge.rw_re0146_01 = Challenge.rw_re0146_01 ∧ hd.heap_39 w.params = hd.heap_39 w.params := by k_fill; exact ⟨rfl, rfl⟩
  clear this
  w_top off
  k_with_none
  (k_with "k_lt" => intro kH; (try replace kH := allLt_of kH); (try replace kH := offs_of kH); (try dsimp only [AllLt, LCg.Off1, LCg.Off3, OffF, OffG, ledT] at kH); repeat (first | (have := And.left (And.left kH); have := And.left (And.right (And.left kH)); have := And.right (And.right (And.left kH)); replace kH := And.right kH) | (have := And.left kH; replace kH := And.right kH)))
  (k_with "lt:kc9" => (try replace kc9 := allLt_of kc9); (try replace kc9 := offs_of kc9); (try dsimp only [AllLt, LCg.Off1, LCg.Off3, OffF, OffG, ledT] at kc9); repeat (first | (have := And.left (And.left kc9); have := And.left (And.right (And.left kc9)); have := And.right (And.right (And.left kc9)); replace kc9 := And.right kc9) | (have := And.left kc9; replace kc9 := And.right kc9)))
  (k_with "k_ne" => refine neN ?_; first | (with_reducible first | assumption | exact Ne.symm (by assumption) | exact Nat.ne_of_lt (by assumption) | exact Ne.symm (Nat.ne_of_lt (by assumption))) | ((try dsimp only); first | ((iterate 2 (first | done | with_reducible (first | exact cN1 _ | exact cN2 _ | exact cN3 _ | exact cL1 (by assumption) | exact cL2 (by assumption) | exact cL3 (by assumption) | exact cL4 (by assumption)) | exact Nat.ne_of_beq_eq_false rfl | refine Ne.symm ?_)); done) | ((iterate 4 (first | done | (with_reducible rename (@Ne Nat _ _) ∧ _ => kc9; (k_extra "lt:kc9"); with_reducible first | assumption | exact Ne.symm (by assumption)) | (with_reducible rename (@Ne Nat _ _) ∧ _ => kc9; clear kc9))); done) | omega))
  (k_with "execs cons" => k_here; (with_reducible rename Fr _ _ _ _ => lF); (let lm := mOf lF); (have F' : Fr _ _ _ lm := lF); (with_reducible refine wpAny_execs_cons ?_); (try dsimp only); (try k_fold))
  (k_with "compareOp Eq str str" => k_here; k_dflt (refine eqS (beq_self_eq_true _) ?_))
  refine con0L (pre' := fun _ => True) (by k_is) (by k_is) (by decide) (fun _ => BindsTo.of_eq rfl) (locs rfl) (fun _ _ _ _ => trivial) ?_ rfl rfl rfl (by decide)
  intro outer h₀ L h₁ gn dr tk os Q E ee AA G _ F N _ hE hQ
  obtain ⟨A₀, base, B, X, p, loose, mean, mg, mb, T, H⟩ := id G
  k_steps
  exact hQ _ _ _ _ _ ⟨_, rfl, rfl⟩ (by assumption) (by assumption)
noncomputable def levD (r s : Int) : Int := if r % 2 ≠ s % 2 then 6 else if r / 2 % 2 ≠ s / 2 % 2 then 4 else if r / 4 % 2 ≠ s / 4 % 2 then 2 else 0
noncomputable abbrev levP (la lb : List Nat) (p n : Nat) : Prop := la.length = p + n ∧ lb.length = p + n ∧ (p + n ≤ 3 ∧ 1 ≤ n) ∧ (∀ i, i < p → la.getD i 0 = lb.getD i 0) ∧ (∀ i, i < n → ∀ j, j < n → (la.drop p).getD i 0 ≠ (lb.drop p).getD j 0) ∧ (∀ c ∈ la, 50 ≤ c ∧ c < 64) ∧ (∀ c ∈ lb, 50 ≤ c ∧ c < 64)
theorem levP_all (r s : Int) (h0 : 0 ≤ r) (h1 : r < 8) (g0 : 0 ≤ s) (g1 : s < 8) : r = s ∨ ∃ p ∈ [0, 1, 2], levP (wd r).cps.toList (wd s).cps.toList p (3 - p) ∧ levD r s = 2 * ((3 - p : Nat) : Int) := by
  have key : ∀ a : Fin 8, ∀ b : Fin 8, (a.val : Int) = b.val ∨ ∃ p ∈ [0, 1, 2], levP (wd a.val).cps.toList (wd b.val).cps.toList p (3 - p) ∧ levD a.val b.val = 2 * ((3 - p : Nat) : Int) := by decide +kernel
  have := key ⟨r.toNat, (Int.toNat_lt h0).mpr h1⟩ ⟨s.toNat, (Int.toNat_lt g0).mpr g1⟩
  simp only [Int.toNat_of_nonneg h0, Int.toNat_of_nonneg g0] at this
  exact this
theorem lev_wd (w : World) (r s : Int) (t1 t2 t3 : Tok) (h0 : 0 ≤ r) (h1 : r < 8) (g0 : 0 ≤ s) (g1 : s < 8) : Con 400 w 87 [.str (wd r) t1, .str (wd s) t2, .int 6 t3] [] (fun _ => True) (RetZ (levD r s)) := by
  rcases levP_all r s h0 h1 g0 g1 with rfl | ⟨p, _, ⟨a, b, ⟨c, d⟩, e, f, g, h⟩, q⟩
  · have : levD r r = 0 := by simp [levD]
    rw [this]; exact lev_eq w _ t1 t2 t3
  · rw [q]
    exact lev_c w (wd r).cps.toList (wd s).cps.toList p (3 - p) t1 t2 t3 a b c d e (fun i j hi hj => f i hi j hj) g h
end
section
open PySem PySem.W PyProof.Rows
set_option compiler.extract_closed false in
set_option compiler.extract_closed false in
set_option compiler.extract_closed false in
set_option maxRecDepth 100000 in
set_option maxHeartbeats 800000 in
theorem eight_c (w : World) (l : Addr) (us : List Value) (rs : List Int) (hu : IntsAre us rs) (hb : Small rs) :
  Con 400 w 138 [.ref l] [] (fun h => h.IsList l us.toArray) (RetL (again (again (again rs)))) := by
  have : Challenge.rw_re0146_01 = Challenge.rw_re0146_01 ∧ hd.heap_39 w.params = hd.heap_39 w.params := by k_fill; exact ⟨rfl, rfl⟩
  clear this
  have h8 := hb.1
  w_top off
  k_with_none
  (k_with "k_lt" => intro kH; (try replace kH := allLt_of kH); (try replace kH := offs_of kH); (try dsimp only [AllLt, LCg.Off1, LCg.Off3, OffF, OffG, ledT] at kH); repeat (first | (have := And.left (And.left kH); have := And.left (And.right (And.left kH)); have := And.right (And.right (And.left kH)); replace kH := And.right kH) | (have := And.left kH; replace kH := And.right kH)))
  (k_with "lt:kc9" => (try replace kc9 := allLt_of kc9); (try replace kc9 := offs_of kc9); (try dsimp only [AllLt, LCg.Off1, LCg.Off3, OffF, OffG, ledT] at kc9); repeat (first | (have := And.left (And.left kc9); have := And.left (And.right (And.left kc9)); have := And.right (And.right (And.left kc9)); replace kc9 := And.right kc9) | (have := And.left kc9; replace kc9 := And.right kc9)))
  (k_with "k_ne" => refine neN ?_; first | (with_reducible first | assumption | exact Ne.symm (by assumption) | exact Nat.ne_of_lt (by assumption) | exact Ne.symm (Nat.ne_of_lt (by assumption))) | ((try dsimp only); first | ((iterate 2 (first | done | with_reducible (first | exact cN1 _ | exact cN2 _ | exact cN3 _ | exact cL1 (by assumption) | exact cL2 (by assumption) | exact cL3 (by assumption) | exact cL4 (by assumption)) | exact Nat.ne_of_beq_eq_false rfl | refine Ne.symm ?_)); done) | ((iterate 4 (first | done | (with_reducible rename (@Ne Nat _ _) ∧ _ => kc9; (k_extra "lt:kc9"); with_reducible first | assumption | exact Ne.symm (by assumption)) | (with_reducible rename (@Ne Nat _ _) ∧ _ => kc9; clear kc9))); done) | omega))
  (k_with "execs cons" => k_here; (with_reducible rename Fr _ _ _ _ => lF); (let lm := mOf lF); (have F' : Fr _ _ _ lm := lF); (with_reducible refine wpAny_execs_cons ?_); (try k_fold))
  (k_with "subscriptTail Name Name ref int" => k_here; k_dflt (refine sub8 (by k_asm) (by k_asm) (by first | exact src_of (by assumption) | exact src_in (by k_mem)) (by with_reducible assumption) (by first | assumption | exact small_step (by assumption) | exact small_step (small_step (by assumption))) (by exact small_mem (by assumption) (by first | assumption | exact small_step (by assumption) | exact small_step (small_step (by assumption)))) ?_ (by with_unfolding_all rfl)); intro _)
  refine con1L (pre' := fun h => h.IsList l us.toArray) (by k_is) (by k_is) (by decide) (fun _ => BindsTo.of_eq rfl) (by rfl) (by decide +kernel) (fun _ _ => lift0) ?_ rfl rfl rfl
  intro outer h₀ L h₁ gn dr tk os cells Q E ee AA G hl F N l0 Y hE hQ
  obtain ⟨A₀, base, B, X, p, loose, mean, mg, mb, T, H⟩ := id G
  k_cells Y
  (try dsimp only [List.cons_append, List.nil_append] at N)
  k_steps
  all_goals exact hQ _ _ _ _ _ ⟨_, _, _, rfl, rfl, by unfold again; assumption⟩ (by assumption) (cb_drop (by assumption) (by kcj_all))
end
section
open PySem PySem.W PyProof.Rows
set_option compiler.extract_closed false in
set_option compiler.extract_closed false in
set_option compiler.extract_closed false in
noncomputable def pickN (ns : List Int) (lo hi st : Option Int) : List Int := (sliceRange (sliceBounds lo hi st ns.length).1 (sliceBounds lo hi st ns.length).2.1 (sliceBounds lo hi st ns.length).2.2).filterMap (ns[·]?)
theorem ints_pick {xs : List Value} {ns : List Int} (hi : IntsAre xs ns) (is : List Nat) : IntsAre (is.filterMap (xs.toArray[·]?)) (is.filterMap (ns[·]?)) := by
  have key : ∀ i : Nat, (xs[i]? = none ∧ ns[i]? = none) ∨ ∃ z t, xs[i]? = some (.int z t) ∧ ns[i]? = some z := by
    intro i
    induction hi generalizing i with
    | nil => left; simp
    | cons n t _ ih =>
      cases i with
      | zero => right; exact ⟨n, t, by simp⟩
      | succ i => simpa using ih i
  induction is with
  | nil => simpa using IntsAre.nil
  | cons i r ih =>
    rw [List.filterMap_cons, List.filterMap_cons, List.getElem?_toArray]
    rcases key i with ⟨e1, e2⟩ | ⟨z, t, e1, e2⟩
    · rw [e1, e2]; exact ih
    · rw [e1, e2]; exact IntsAre.cons z t ih
theorem sumSlice {prog : Program} {w : World} {A : Around} {E : Value → Shared → Prop} {s : Shared} {h₀ : Heap} {L l : Addr} {m : Str → Option Value} {news : List (Addr × Obj)} {xs : List Value} {ns : List Int} {lo hi st : Option Int} {Q : Value → Shared → Prop}
    (hh : A.handled = none) (F : Fr h₀ L s.heap m) (N : News h₀ L s.heap news) (hm : (l, ({ cls := .type "list", data := .seq (slicePick xs.toArray lo hi st) } : Obj)) ∈ news) (hx : IntsAre xs ns)
    (h : ∀ h' tk t', Fr h₀ L h' m → News h₀ L h' news → Q (.int (pickN ns lo hi st).sum t') { s with heap := h', toks := tk }) : wpAny (model prog w) A (call (.builtin "sum") [.ref l]) Q E s := by
  have hms := ints_pick hx (sliceRange (sliceBounds lo hi st xs.toArray.size).1 (sliceBounds lo hi st xs.toArray.size).2.1 (sliceBounds lo hi st xs.toArray.size).2.2)
  have e : xs.toArray.size = ns.length := by rw [List.size_toArray, hx.length]
  refine LSm.sum_ints F N hh ⟨_, (N _ hm).1, rfl, _, rfl⟩ hms fun h' tk t' F' N' => ?_
  have q := h h' tk t' F' N'
  unfold pickN at q
  rw [e]
  exact q
theorem kB {k z : Int} (h : k < 0 + ((z - 0).toNat : Int)) (h5 : 5 ≤ z) (h8 : z ≤ 8) : k < 8 := by omega
theorem kL {z : Int} (h8 : z ≤ 8) : (rangeKs 0 (z - 0).toNat).length ≤ 1048576 := by rw [rangeKs_length]; omega
noncomputable def signG (ns : List Int) (k : Int) : Str := Txt.item (Str.ofString "+-*&|^~=") ((([2, 7, 4, 0, 7, 0, 0, 0] : List Int).getD k.toNat 0 + (pickN ns (some k) (some 32) (some 8)).sum).fmod 8)
theorem genS {P : Int → Prop} (n : Nat) (h : ∀ z, 5 ≤ z → z ≤ 8 → P z) : P (if (if (n : Int) < 8 then (n : Int) else 8) > 5 then (if (n : Int) < 8 then (n : Int) else 8) else 5) :=
  h _ (by split <;> omega) (by split <;> (split <;> omega))
noncomputable def Signs (cs : List Nat) : Prop := 5 ≤ cs.length ∧ cs.length ≤ 8 ∧ ∀ c ∈ cs, c ∈ [43, 45, 42, 38, 124, 94, 126, 61]
inductive RetX (v : Value) (nl : List (Addr × Obj)) : Prop
  | mk : ∀ cs t, v = .str { cps := List.toArray cs } t → Signs cs → nl = [] → RetX v nl
theorem signG_one (ns : List Int) (k : Int) : ∃ c, signG ns k = { cps := #[c] } ∧ c ∈ [43, 45, 42, 38, 124, 94, 126, 61] := by
  refine ⟨_, rfl, ?_⟩
  have key : ∀ i : Nat, i < 8 → (Txt.charAt (Str.ofString "+-*&|^~=") (i : Int)).getD 0 ∈ [43, 45, 42, 38, 124, 94, 126, 61] := by decide +kernel
  generalize ((([2, 7, 4, 0, 7, 0, 0, 0] : List Int).getD k.toNat 0 + (pickN ns (some k) (some 32) (some 8)).sum)) = z
  have h0 : 0 ≤ z.fmod 8 := Int.fmod_nonneg_of_pos _ (by decide)
  have h1 : z.fmod 8 < 8 := Int.fmod_lt_of_pos _ (by decide)
  have := key (z.fmod 8).toNat (by omega)
  rwa [Int.toNat_of_nonneg h0] at this
theorem join_signs {ds : List Str} (h : ∀ d ∈ ds, ∃ c, d = { cps := #[c] } ∧ c ∈ [43, 45, 42, 38, 124, 94, 126, 61]) : ∃ cs, Txt.join (Str.ofString "") ds = { cps := List.toArray cs } ∧ cs.length = ds.length ∧ ∀ c ∈ cs, c ∈ [43, 45, 42, 38, 124, 94, 126, 61] := by
  have hs : ∃ cs : List Nat, ds = cs.map (fun c => ({ cps := #[c] } : Str)) ∧ ∀ c ∈ cs, c ∈ [43, 45, 42, 38, 124, 94, 126, 61] := by
    induction ds with
    | nil => exact ⟨[], rfl, fun c hc => nomatch hc⟩
    | cons d r ih =>
      obtain ⟨cs, rfl, hcs⟩ := ih fun x hx => h x (List.mem_cons_of_mem _ hx)
      obtain ⟨c, rfl, hc⟩ := h d List.mem_cons_self
      exact ⟨c :: cs, rfl, fun x hx => by rcases List.mem_cons.mp hx with rfl | hx
                                          · exact hc
                                          · exact hcs x hx⟩
  obtain ⟨cs, rfl, hcs⟩ := hs
  refine ⟨cs, ?_, by rw [List.length_map], hcs⟩
  have fl : ∀ (cs : List Nat) (acc : Array Nat), (cs.map (fun c => ({ cps := #[c] } : Str))).foldl (fun acc p => acc ++ (Str.ofString "").cps ++ p.cps) acc = acc ++ cs.toArray := by
    intro cs
    induction cs with
    | nil => intro acc; simp
    | cons c r ih =>
      intro acc
      rw [List.map_cons, List.foldl_cons, ih]
      rw [show (Str.ofString "").cps = #[] from by decide +kernel]
      apply Array.toList_inj.mp
      simp
  cases cs with
  | nil => rfl
  | cons c r =>
    show (⟨((r.map (fun c => ({ cps := #[c] } : Str)))).foldl (fun acc p => acc ++ (Str.ofString "").cps ++ p.cps) #[c]⟩ : Str) = _
    rw [fl]
    congr 1
    apply Array.toList_inj.mp
    simp
theorem signs_of (ns : List Int) (z : Int) (h5 : 5 ≤ z) (h8 : z ≤ 8) : ∃ cs, Txt.join (Str.ofString "") ((rangeKs 0 (z - 0).toNat).map (signG ns)) = { cps := List.toArray cs } ∧ Signs cs := by
  obtain ⟨cs, e, hl, hm⟩ := join_signs (ds := (rangeKs 0 (z - 0).toNat).map (signG ns)) (fun d hd => by
    obtain ⟨k, _, rfl⟩ := List.mem_map.mp hd
    exact signG_one ns k)
  refine ⟨cs, e, ?_⟩
  rw [List.length_map, rangeKs_length] at hl
  exact ⟨by omega, by omega, hm⟩
set_option maxRecDepth 100000 in
set_option maxHeartbeats 800000 in
theorem text_c (w : World) (l : Addr) (xs : List Value) (ns : List Int) (hi : IntsAre xs ns) (hlen : ns.length ≤ 63) :
    Con 400 w 92 [.ref l] [] (fun h => h.IsList l xs.toArray) RetX := by
  have : Challenge.rw_re0146_01 = Challenge.rw_re0146_01 ∧ hd.heap_39 w.params = hd.heap_39 w.params := by k_fill; exact ⟨rfl, rfl⟩
  clear this
  w_top off
  k_with_none
  (k_with "k_lt" => intro kH; (try replace kH := allLt_of kH); (try replace kH := offs_of kH); (try dsimp only [AllLt, LCg.Off1, LCg.Off3, OffF, OffG, ledT] at kH); repeat (first | (have := And.left (And.left kH); have := And.left (And.right (And.left kH)); have := And.right (And.right (And.left kH)); replace kH := And.right kH) | (have := And.left kH; replace kH := And.right kH)))
  (k_with "lt:ne'" => (try replace ne' := allLt_of ne'); (try replace ne' := offs_of ne'); (try dsimp only [AllLt, LCg.Off1, LCg.Off3, OffF, OffG, ledT] at ne'); repeat (first | (have := And.left (And.left ne'); have := And.left (And.right (And.left ne')); have := And.right (And.right (And.left ne')); replace ne' := And.right ne') | (have := And.left ne'; replace ne' := And.right ne')))
  (k_with "lt:off'" => (try replace off' := allLt_of off'); (try replace off' := offs_of off'); (try dsimp only [AllLt, LCg.Off1, LCg.Off3, OffF, OffG, ledT] at off'); repeat (first | (have := And.left (And.left off'); have := And.left (And.right (And.left off')); have := And.right (And.right (And.left off')); replace off' := And.right off') | (have := And.left off'; replace off' := And.right off')))
  (k_with "lt:kc9" => (try replace kc9 := allLt_of kc9); (try replace kc9 := offs_of kc9); (try dsimp only [AllLt, LCg.Off1, LCg.Off3, OffF, OffG, ledT] at kc9); repeat (first | (have := And.left (And.left kc9); have := And.left (And.right (And.left kc9)); have := And.right (And.right (And.left kc9)); replace kc9 := And.right kc9) | (have := And.left kc9; replace kc9 := And.right kc9)))
  (k_with "k_ne" => refine neN ?_; first | (with_reducible first | assumption | exact Ne.symm (by assumption) | exact Nat.ne_of_lt (by assumption) | exact Ne.symm (Nat.ne_of_lt (by assumption))) | ((try dsimp only); first | ((iterate 2 (first | done | with_reducible (first | exact cN1 _ | exact cN2 _ | exact cN3 _ | exact cL1 (by assumption) | exact cL2 (by assumption) | exact cL3 (by assumption) | exact cL4 (by assumption)) | exact Nat.ne_of_beq_eq_false rfl | refine Ne.symm ?_)); done) | ((iterate 4 (first | done | (with_reducible rename (@Ne Nat _ _) ∧ _ => kc9; (k_extra "lt:kc9"); with_reducible first | assumption | exact Ne.symm (by assumption)) | (with_reducible rename (@Ne Nat _ _) ∧ _ => kc9; clear kc9))); done) | omega))
  (k_with "execs cons" => k_here; (with_reducible rename Fr _ _ _ _ => lF); (let lm := mOf lF); (have F' : Fr _ _ _ lm := lF); (with_reducible refine wpAny_execs_cons ?_); (try k_fold))
  (k_with "storeName" => k_here; (with_reducible show wpAny _ _ (storeName _ (Str.ofString "size") (Value.int _ _)) _ _ _); k_dflt (refine genS ns.length (P := fun z => wpAny _ _ (storeName _ _ (Value.int z _)) _ _ _) ?_); intro z hz5 hz8; have hkL := kL hz8)
  (k_with "call builtin:sum" => k_here; (with_reducible show wpAny _ _ (call (Value.builtin "sum") [Value.ref _]) _ _ _); k_dflt (refine sumSlice (by with_unfolding_all rfl) (by k_asm) (by k_asm) (by k_mem) hi ?_); intro h' tk' t' F' N')
  (k_with "CompSrc" => k_here; k_dflt (refine LCg.CompSrc.range (by rfl) (by k_asm) (by k_asm) (by assumption) (by first | decide | exact small_one (by decide) (by decide) (Int.le_trans (by decide) hz5) (Int.lt_of_le_of_lt hz8 (by decide)) | exact small_one (by l_bnd) (by l_bnd) (by l_bnd) (by l_bnd)) (by first | exact rangeSize_nat _ _ | rfl) (by first | exact Nat.le_of_ble_eq_true rfl | (rw [PySem.sizeLine_eq, Int.sub_zero]; exact Int.toNat_le.mpr (Int.le_trans hz8 (by decide))) | (rw [PySem.sizeLine_eq]; omega)) ?_); intro g'; k_dflt (refine kct_range (signG ns) (fun k' t' I' oI' C' oC' D' m' ys' h' tk' E' hlo' hhi' hC' hx' F' N' off' ne' => ?_) ?_); (all_goals (try (have hk8 := kB hhi' hz5 hz8))); (all_goals (try (k_extra "lt:off'"; k_extra "lt:ne'"))); (all_goals (try ((show KPfMark → _); intro hMark'))); kcf_last)
  (k_with "KCtEl" => exact ⟨rfl, _, rfl⟩)
  refine con1L (pre' := fun h => h.IsList l xs.toArray) (by k_is) (by k_is) (by decide) (fun _ => BindsTo.of_eq rfl) (by rfl) (by decide +kernel) (fun _ _ => lift0) ?_ rfl rfl rfl
  intro outer h₀ L h₁ gn dr tk os cells Q E ee AA G hl F N l0 Y hE hQ
  obtain ⟨A₀, base, B, X, p, loose, mean, mg, mb, T, H⟩ := id G
  k_cells Y
  (try dsimp only [List.cons_append, List.nil_append] at N)
  k_steps
  iterate 1 (refine LCg.CompEnd.intro (by assumption) (by assumption) _ ?sub ?off True.intro ⟨rfl, _, rfl⟩; (case sub => kcf_all); (case off => repeat' (first | exact True.intro | refine And.intro ⟨by k_ne, by k_ne, by k_ne⟩ ?_)))
  obtain ⟨cs, ecs, hcs⟩ := signs_of ns z hz5 hz8
  all_goals exact hQ _ _ _ _ _ ⟨cs, _, by rw [← ecs], hcs, rfl⟩ (by assumption) (cb_drop (by assumption) (by kcj_all))
end
section
open PySem PySem.W PyProof.Rows
set_option compiler.extract_closed false in
set_option compiler.extract_closed false in
set_option compiler.extract_closed false in
noncomputable def itW (rs : List Int) : Nat → Int | 0 => 0 | k + 1 => rs.getD (itW rs k).toNat 0
noncomputable def wkP (rs : List Int) : Nat → List Int | 0 => [] | k + 1 => wkP rs k ++ [itW rs k]
noncomputable def roundB (rs : List Int) : Bool := decide (sortI (wkP rs 8) = [0, 1, 2, 3, 4, 5, 6, 7]) && (itW rs 8 == 0)
theorem itW_b {rs : List Int} (h : Small rs) : ∀ k, 0 ≤ itW rs k ∧ itW rs k < 8
  | 0 => ⟨Int.le_refl 0, (by decide : (0 : Int) < 8)⟩
  | _ + 1 => small_at h _
theorem wkP_len (rs : List Int) : ∀ k, (wkP rs k).length = k
  | 0 => rfl
  | k + 1 => by rw [wkP, List.length_append, wkP_len rs k]; rfl
theorem roundT {rs n : List Int} (so : SortOf (wkP rs (7 + 1)) n) (e : n = [0, 1, 2, 3, 4, 5, 6, 7]) : (rs.getD (itW rs 7).toNat 0 == 0) = roundB rs := by
  have q : decide (sortI (wkP rs 8) = [0, 1, 2, 3, 4, 5, 6, 7]) = true := decide_eq_true (by rw [← so.eq]; exact e)
  unfold roundB
  rw [q, Bool.true_and]
  rfl
theorem roundF {rs n : List Int} (so : SortOf (wkP rs (7 + 1)) n) (e : ¬ n = [0, 1, 2, 3, 4, 5, 6, 7]) : decide (n = [0, 1, 2, 3, 4, 5, 6, 7]) = roundB rs := by
  have q : decide (sortI (wkP rs 8) = [0, 1, 2, 3, 4, 5, 6, 7]) = false := decide_eq_false (by rw [← so.eq]; exact e)
  unfold roundB
  rw [q, Bool.false_and, decide_eq_false e]
inductive RJ (rs : List Int) (D l : Addr) (i : Nat) (m : Str → Option Value) (news : List (Addr × Obj)) : Prop
  | mk : ∀ ws n, IntsAre ws (wkP rs (i + 1)) → m (Str.ofString "walk") = some (.ref D) → m (Str.ofString "results") = some (.ref l) → news = [(D, PySem.W.listOf (List.toArray ws) n)] → RJ rs D l i m news
theorem RJ.end {rs : List Int} {D l I : Addr} {i n : Nat} {ws : List Value} {t : Tok} {h₀ h' : Heap} {L : Addr} {m' : Str → Option Value} {al : List (Addr × Obj)} {s₁ : Shared} {tk : Nat} {it : Obj}
    (F : Fr h₀ L h' m') (N : News h₀ L h' al) (hw : (D, PySem.W.listOf (List.toArray (ws ++ [.int (rs.getD (itW rs i).toNat 0) t])) n) ∈ al) (hI : (I, it) ∈ al) (o : @Ne Nat D I)
    (hm : m' (Str.ofString "walk") = some (.ref D)) (hr : m' (Str.ofString "results") = some (.ref l)) (hi : IntsAre ws (wkP rs (i + 1))) :
    UnrEnd h₀ L s₁ I it (RJ rs D l (i + 1)) { s₁ with heap := h', toks := tk } :=
  ⟨h', tk, m', [(D, _)], rfl, F, fun p hp => N p (by rcases List.mem_cons.mp hp with rfl | hp; exact hI; rw [List.mem_singleton.mp hp]; exact hw), fun p hp => by rw [List.mem_singleton.mp hp]; exact o, _, n, IntsAre.append hi (.cons _ t .nil), hm, hr, rfl⟩
set_option maxRecDepth 100000 in
set_option maxHeartbeats 800000 in
theorem round_c (w : World) (l : Addr) (us : List Value) (rs : List Int) (hu : IntsAre us rs) (hb : Small rs) :
    Con 400 w 128 [.ref l] [] (fun h => h.IsList l us.toArray) (fun v nl => ∃ b, v = .bool b ∧ b = roundB rs ∧ nl = []) := by
  have : Challenge.rw_re0146_01 = Challenge.rw_re0146_01 ∧ hd.heap_39 w.params = hd.heap_39 w.params := by k_fill; exact ⟨rfl, rfl⟩
  clear this
  have h8 := hb.1
  w_top off
  k_with_none
  (k_with "k_lt" => intro kH; (try replace kH := allLt_of kH); (try replace kH := offs_of kH); (try dsimp only [AllLt, LCg.Off1, LCg.Off3, OffF, OffG, ledT] at kH); repeat (first | (have := And.left (And.left kH); have := And.left (And.right (And.left kH)); have := And.right (And.right (And.left kH)); replace kH := And.right kH) | (have := And.left kH; replace kH := And.right kH)))
  (k_with "lt:l1" => (try replace l1 := allLt_of l1); (try replace l1 := offs_of l1); (try dsimp only [AllLt, LCg.Off1, LCg.Off3, OffF, OffG, ledT] at l1); repeat (first | (have := And.left (And.left l1); have := And.left (And.right (And.left l1)); have := And.right (And.right (And.left l1)); replace l1 := And.right l1) | (have := And.left l1; replace l1 := And.right l1)))
  (k_with "lt:kc9" => (try replace kc9 := allLt_of kc9); (try replace kc9 := offs_of kc9); (try dsimp only [AllLt, LCg.Off1, LCg.Off3, OffF, OffG, ledT] at kc9); repeat (first | (have := And.left (And.left kc9); have := And.left (And.right (And.left kc9)); have := And.right (And.right (And.left kc9)); replace kc9 := And.right kc9) | (have := And.left kc9; replace kc9 := And.right kc9)))
  (k_with "k_ne" => refine neN ?_; first | (with_reducible first | assumption | exact Ne.symm (by assumption) | exact Nat.ne_of_lt (by assumption) | exact Ne.symm (Nat.ne_of_lt (by assumption))) | ((try dsimp only); first | ((iterate 2 (first | done | with_reducible (first | exact cN1 _ | exact cN2 _ | exact cN3 _ | exact cL1 (by assumption) | exact cL2 (by assumption) | exact cL3 (by assumption) | exact cL4 (by assumption)) | exact Nat.ne_of_beq_eq_false rfl | refine Ne.symm ?_)); done) | ((iterate 4 (first | done | (with_reducible rename (@Ne Nat _ _) ∧ _ => kc9; (k_extra "lt:kc9"); with_reducible first | assumption | exact Ne.symm (by assumption)) | (with_reducible rename (@Ne Nat _ _) ∧ _ => kc9; clear kc9))); done) | omega))
  (k_with "execs cons" => k_here; (with_reducible rename Fr _ _ _ _ => lF); (let lm := mOf lF); (have F' : Fr _ _ _ lm := lF); (with_reducible refine wpAny_execs_cons ?_); (try k_fold))
  (k_with "RangeRest" => (with_reducible refine Stop.mk ?_))
  refine con0L (pre' := fun h => h.IsList l us.toArray) (by k_is) (by k_is) (by decide) (fun _ => BindsTo.of_eq rfl) (locs rfl) (fun _ _ => lift0) ?_ rfl rfl rfl (by decide)
  intro outer h₀ L h₁ gn dr tk os Q E ee AA G hl F N l0 hE hQ
  obtain ⟨A₀, base, B, X, p, loose, mean, mg, mb, T, H⟩ := id G
  k_steps
  refine Stop.un (RangeRest.by (RJ rs _ l) ?h0 ?hs 7 0 _ _ rfl ⟨_, _, .cons 0 _ .nil, rfl, rfl, rfl⟩)
  all_goals (rename Fr _ _ _ _ => F9; rename News _ _ _ _ => N9; clear F9 N9)
  case h0 =>
    rintro m' news' h' tk' ⟨ws, n, hi, mw, mr, rfl⟩ F' N'
    rw [hold mw, hold mr] at F'
    have h7 : (wkP rs (7 + 1)).length < 64 := by rw [wkP_len]; decide
    have hib := itW_b hb 7
    (k_with "call builtin:sorted" => k_here; (with_reducible rename News _ _ _ _ => N9); (with_unfolding_all refine sortedI (by k_asm) N9 (isl_at N9 List.mem_cons_self) hi h7 ?_); intro D' v' n' c' h' F' N' l1 i' so'; (try k_extra "lt:l1"))
    (k_with "call type:list" => k_here; (with_unfolding_all refine list8 (by rfl) (by k_asm) (by k_asm) (by assumption) ?_); intro D' vs' c' h' tk' F' N' l1 hI'; (try k_extra "lt:l1"))
    (k_with "subscriptTail Name UnaryOp ref int" => k_here; k_dflt (refine subLast (by k_asm) (by k_mem) hi ?_ (by with_unfolding_all rfl)); intro _)
    (k_with "subscriptTail Name Subscript ref int" => k_here; k_dflt (refine sub8 (by k_asm) (by k_asm) (src_of hl) hu hb hib ?_ (by with_unfolding_all rfl)); intro _)
    k_steps
    · exact hQ _ _ _ _ _ ⟨_, rfl, roundT so' (by assumption), rfl⟩ (by assumption) (cb_drop (by assumption) (by kcj_all))
    · exact hQ _ _ _ _ _ ⟨_, rfl, roundF so' (by assumption), rfl⟩ (by assumption) (cb_drop (by assumption) (by kcj_all))
  case hs =>
    rintro i m' news' t h' tk' hi7 ⟨ws, n, hi, mw, mr, rfl⟩ F' N'
    rw [hold mw, hold mr] at F'
    have hwl : ws.length ≤ 8 := by have := hi.length; rw [wkP_len] at this; omega
    have hib := itW_b hb i
    (k_with "subscriptTail Name UnaryOp ref int" => k_here; k_dflt (refine subLast (by k_asm) (by k_mem) hi ?_ (by with_unfolding_all rfl)); intro _)
    (k_with "subscriptTail Name Subscript ref int" => k_here; k_dflt (refine sub8 (by k_asm) (by k_asm) (src_of hl) hu hb hib ?_ (by with_unfolding_all rfl)); intro _)
    (k_with "call builtin:list.append" => k_here; k_dflt (refine append_K (by k_asm) (by k_asm) (by k_upd) ?_ (by exact line8 hwl)); intro h' F' N'; (rw [lpush] at N'))
    (k_with "UnrEnd" => k_dflt (refine RJ.end (by k_asm) (by k_asm) (by k_mem) (by k_mem) (by k_ne) rfl rfl hi))
    k_steps
end
section
open PySem PySem.W PyProof.Rows PySem.Spec PySem.Calls LCg
noncomputable def valsF (cs : List Nat) (c : Int) : List Int := runF ([256 + c] ++ cutF 8 cs ++ [0, 31]) [0, 1, 2, 3, 4, 5, 6, 7] 0
noncomputable def resF (cs : List Nat) (c : Int) : List Int := (valsF cs c).map fun x => x.fmod 8
noncomputable def ovF (rs : List Int) (k i : Nat) : Int := levD (rs.getD i 0) (rs.getD (i + 2 ^ k) 0) + 2 * (k : Int) - 6
noncomputable def ovP (k i : Nat) : Bool := decide (((i : Int).fdiv ((2 ^ k : Nat) : Int)).fmod 2 = 0)
noncomputable def apartB (rs : List Int) : Bool := decide (sortI rs = [0, 1, 2, 3, 4, 5, 6, 7])
structure Good (rs : List Int) : Prop where
  mx : ∀ a ∈ allC (ovF rs) ovP 8 3, a ≤ 0
  mn : ∀ M ∈ allC (ovF rs) ovP 8 3, (∀ a ∈ allC (ovF rs) ovP 8 3, M ≤ a) → (M == 0) = apartB rs
  eight : again (again (again (again rs))) = again (again (again rs))
  round : roundB rs = (apartB rs && oddB rs)
end
section
open PySem PySem.W PyProof.Rows PySem.Spec PySem.Calls LCg
theorem tokL_ok : ∀ e ∈ tokL, (7 ≤ e.2 ∧ e.2 < 54) ∧ e.1 ∈ nmsL := by decide +kernel
theorem code_rng {l : List Nat} {d : Int} (h : codeT l = some d) : 7 ≤ d ∧ d < 54 := (tokL_ok _ (codeT_mem h)).1
theorem cutF_ok : ∀ (k : Nat) (l : List Nat), (∀ c ∈ l, c ∈ sgs) → ∀ z ∈ cutF k l, 7 ≤ z ∧ z < 54
  | 0, _, _, _, h => nomatch h
  | _ + 1, [], _, _, h => nomatch h
  | k + 1, a :: r, hs, z, h => by
    obtain ⟨d, hd⟩ := cut_some (l := a :: r) (Nat.succ_le_succ (Nat.zero_le _)) hs
    rcases List.mem_cons.mp h with rfl | h
    · rw [hd]; exact code_rng hd
    · exact cutF_ok k _ (fun c hc => hs c (List.mem_of_mem_drop hc)) z h
theorem okS_all {cs : List Nat} {c : Int} (hc0 : 0 ≤ c) (hc1 : c < 8) (hs : ∀ c ∈ cs, c ∈ sgs) : ∀ z ∈ [256 + c] ++ cutF 8 cs ++ [0, 31], okS z := by
  intro z hz
  rcases List.mem_append.mp hz with hz | hz
  · rcases List.mem_append.mp hz with hz | hz
    · rw [List.mem_singleton.mp hz]; exact .inr (.inl ⟨by omega, by omega⟩)
    · exact .inr (.inr (cutF_ok 8 cs hs z hz))
  · rcases List.mem_cons.mp hz with rfl | hz
    · exact .inl rfl
    · rw [List.mem_singleton.mp hz]; exact .inr (.inr ⟨by decide, by decide⟩)
noncomputable def stepV (nm : Str) (vs : List Int) (c : Int) : List Int := (rangeKs 0 8).map fun x => stepG nm (vs.getD x.toNat 0) x c
noncomputable def Bnd (vs : List Int) : Prop := vs.length = 8 ∧ ∀ v ∈ vs, -128 ≤ v ∧ v < 128
theorem bnd_step (nm : Str) (vs : List Int) (c : Int) : Bnd (stepV nm vs c) := ⟨by rw [stepV, List.length_map, rangeKs_length], stepB⟩
noncomputable def tokM : Nat → List Nat → List (List Nat)
  | 0, _ => []
  | _ + 1, [] => []
  | k + 1, l => l.take (cutS l) :: tokM k (l.drop (cutS l))
theorem cutF_tok : ∀ (k : Nat) (l : List Nat), cutF k l = (tokM k l).map fun t => (codeT t).getD 0
  | 0, _ => rfl
  | _ + 1, [] => rfl
  | k + 1, a :: r => by
    show _ :: cutF k _ = _ :: List.map _ (tokM k _)
    rw [cutF_tok k]
theorem cut_nms {l : List Nat} (h : 1 ≤ l.length) (hs : ∀ c ∈ l, c ∈ sgs) : l.take (cutS l) ∈ nmsL := by
  obtain ⟨d, hd⟩ := cut_some h hs
  exact (tokL_ok _ (codeT_mem hd)).2
theorem tok_nms : ∀ (k : Nat) (l : List Nat), (∀ c ∈ l, c ∈ sgs) → ∀ t ∈ tokM k l, t ∈ nmsL
  | 0, _, _, _, h => nomatch h
  | _ + 1, [], _, _, h => nomatch h
  | k + 1, a :: r, hs, t, h => by
    rcases List.mem_cons.mp h with rfl | h
    · exact cut_nms (Nat.succ_le_succ (Nat.zero_le _)) hs
    · exact tok_nms k _ (fun c hc => hs c (List.mem_of_mem_drop hc)) t h
theorem nm_of : ∀ l ∈ nmsL, 7 ≤ (codeT l).getD 0 ∧ (codeT l).getD 0 < 54 ∧ nmL.getD ((codeT l).getD 0 - 7).toNat (Str.ofString "") = mkS l := by decide +kernel
theorem runF_tok (c : Int) : ∀ (ts : List (List Nat)) (vs : List Int), (∀ t ∈ ts, t ∈ nmsL) → runF ((ts.map fun t => (codeT t).getD 0) ++ [0, 31]) vs c = ts.foldl (fun vs t => stepV (mkS t) vs c) vs
  | [], _, _ => rfl
  | t :: r, vs, h => by
    have ht := nm_of t (h t List.mem_cons_self)
    have e1 : ¬ (codeT t).getD 0 = 0 := by omega
    have e2 : ¬ 256 ≤ (codeT t).getD 0 := by omega
    rw [List.map_cons, List.cons_append, List.foldl_cons, ← runF_tok c r _ fun t ht => h t (List.mem_cons_of_mem _ ht)]
    simp only [runF, if_neg e1, if_neg e2, stepV, ht.2.2]
theorem vals_eq {cs : List Nat} {c : Int} (hc0 : 0 ≤ c) (hs : ∀ c ∈ cs, c ∈ sgs) : valsF cs c = (tokM 8 cs).foldl (fun vs t => stepV (mkS t) vs c) [0, 1, 2, 3, 4, 5, 6, 7] := by
  have e1 : ¬ (256 + c : Int) = 0 := by omega
  have e2 : (256 : Int) ≤ 256 + c := by omega
  rw [← runF_tok c _ _ (tok_nms 8 cs hs), ← cutF_tok]
  show runF ((256 + c) :: (cutF 8 cs ++ [0, 31])) _ 0 = _
  rw [runF, if_neg e1, if_pos e2, show (256 + c : Int) - 256 = c by omega]
theorem fold_b (c : Int) : ∀ (ts : List (List Nat)) (vs : List Int), Bnd vs → Bnd (ts.foldl (fun vs t => stepV (mkS t) vs c) vs)
  | [], _, h => h
  | _ :: r, _, _ => fold_b c r _ (bnd_step _ _ _)
theorem bnd0 : Bnd [0, 1, 2, 3, 4, 5, 6, 7] := ⟨rfl, by decide⟩
theorem valsB {cs : List Nat} {c : Int} (hc0 : 0 ≤ c) (hs : ∀ c ∈ cs, c ∈ sgs) : (valsF cs c).length = 8 ∧ ∀ v ∈ valsF cs c, -128 ≤ v ∧ v < 128 := by
  rw [vals_eq hc0 hs]; exact fold_b c _ _ bnd0
theorem addT_cons {t : List Nat} {ns : List (List Nat)} (h : ns ≠ []) (c : Nat) : addT (t :: ns) c = t :: addT ns c := by
  have e1 : lastT (t :: ns) = lastT ns := by
    unfold lastT
    rw [List.getLast?_cons]
    cases e : ns.getLast? with
    | none => exact absurd (List.getLast?_eq_none_iff.mp e) h
    | some x => rfl
  have e2 : (t :: ns).dropLast = t :: ns.dropLast := by cases ns with | nil => exact absurd rfl h | cons a r => rfl
  unfold addT
  rw [e1, e2]
  split
  · rfl
  · split <;> rfl
theorem addT_ne (ns : List (List Nat)) (c : Nat) : addT ns c ≠ [] := by
  unfold addT
  split
  · simp
  · split <;> simp
theorem foldT_cons (t : List Nat) : ∀ (cs : List Nat) (ns : List (List Nat)), ns ≠ [] → cs.foldl addT (t :: ns) = t :: cs.foldl addT ns
  | [], _, _ => rfl
  | c :: r, ns, h => by
    rw [List.foldl_cons, List.foldl_cons, addT_cons h, foldT_cons t r _ (addT_ne ns c)]
theorem foldT_one : ∀ l ∈ nmsL, l.foldl addT [] = [l] := by decide
theorem addT_nil : ∀ c ∈ sgs, addT [] c = [[c]] := by decide
theorem noGlueL : ∀ t ∈ nmsL, t.length = 3 → ∀ d ∈ sgs, addT [t] d = [t, [d]] := by decide +kernel
theorem noGlue2 : ∀ a ∈ sgs, ∀ b ∈ sgs, ∀ c ∈ sgs, ([a, b, c].drop (cutS [a, b, c])).head? = none ∨ addT [[a, b, c].take (cutS [a, b, c])] ((([a, b, c].drop (cutS [a, b, c])).head?).getD 0) = [[a, b, c].take (cutS [a, b, c]), [((([a, b, c].drop (cutS [a, b, c])).head?).getD 0)]] := by decide +kernel
theorem noGlue1 : ∀ a ∈ sgs, ∀ b ∈ sgs, ([a, b].drop (cutS [a, b])).head? = none ∨ addT [[a, b].take (cutS [a, b])] ((([a, b].drop (cutS [a, b])).head?).getD 0) = [[a, b].take (cutS [a, b]), [((([a, b].drop (cutS [a, b])).head?).getD 0)]] := by decide +kernel
theorem cutS_four (a b c d : Nat) (r : List Nat) : cutS (a :: b :: c :: d :: r) = cutS [a, b, c] := rfl
theorem noGlue {l : List Nat} (hs : ∀ c ∈ l, c ∈ sgs) {b : Nat} {r : List Nat} (h : l.drop (cutS l) = b :: r) : addT [l.take (cutS l)] b = [l.take (cutS l), [b]] := by
  have hl := cut_len l
  match l, hs, h, hl with
  | [], _, h, _ => rw [List.drop_nil] at h; cases h
  | [a], _, h, hl => rw [List.drop_eq_nil_of_le (by simpa using hl.1)] at h; cases h
  | [a, b'], hs, h, _ =>
    have := noGlue1 a (hs a (by simp)) b' (hs b' (by simp))
    rw [h] at this
    exact this.resolve_left (fun q => nomatch q)
  | [a, b', c], hs, h, _ =>
    have := noGlue2 a (hs a (by simp)) b' (hs b' (by simp)) c (hs c (by simp))
    rw [h] at this
    exact this.resolve_left (fun q => nomatch q)
  | a :: b' :: c :: d :: r', hs, h, hl =>
    have := noGlue2 a (hs a (by simp)) b' (hs b' (by simp)) c (hs c (by simp))
    have hn := cut_nms (l := a :: b' :: c :: d :: r') (Nat.succ_le_succ (Nat.zero_le _)) hs
    rw [cutS_four] at h hl hn ⊢
    generalize cutS [a, b', c] = k at h hl this hn ⊢
    have hk : k = 1 ∨ k = 2 ∨ k = 3 := by omega
    rcases hk with rfl | rfl | rfl
    · obtain ⟨rfl, _⟩ := List.cons.inj h; exact this.resolve_left (fun q => nomatch q)
    · obtain ⟨rfl, _⟩ := List.cons.inj h; exact this.resolve_left (fun q => nomatch q)
    · obtain ⟨rfl, _⟩ := List.cons.inj h; exact noGlueL _ hn rfl d (hs d (by simp))
theorem tok_add : ∀ (k : Nat) (l : List Nat), l.length ≤ k → (∀ c ∈ l, c ∈ sgs) → l.foldl addT [] = tokM k l
  | 0, l, h, _ => by rw [List.eq_nil_of_length_eq_zero (Nat.le_zero.mp h)]; rfl
  | _ + 1, [], _, _ => rfl
  | k + 1, a :: r, h, hs => by
    have hc := cut_len (a :: r)
    have hn := cut_nms (l := a :: r) (Nat.succ_le_succ (Nat.zero_le _)) hs
    have hsd : ∀ c ∈ (a :: r).drop (cutS (a :: r)), c ∈ sgs := fun c hc => hs c (List.mem_of_mem_drop hc)
    have ih := tok_add k ((a :: r).drop (cutS (a :: r))) (by rw [List.length_drop]; omega) hsd
    have key : (a :: r).foldl addT [] = (a :: r).take (cutS (a :: r)) :: ((a :: r).drop (cutS (a :: r))).foldl addT [] := by
      conv => lhs; rw [← List.take_append_drop (cutS (a :: r)) (a :: r), List.foldl_append, foldT_one _ hn]
      cases e : (a :: r).drop (cutS (a :: r)) with
      | nil => rfl
      | cons b r' =>
        rw [List.foldl_cons, noGlue hs e, foldT_cons _ _ _ (by simp), List.foldl_cons, addT_nil b (hsd b (by rw [e]; exact List.mem_cons_self))]
    rw [key, ih]
    rfl
end
section
open PySem PySem.W PyProof.Rows PySem.Spec PySem.Calls LCg
noncomputable def ops2 : List (Int → Int → Int) := [fun v o => v + o, fun v o => v - o, fun v o => v * v * o, fun v o => v * o, Builtin.bitAnd, Builtin.bitOr, Builtin.bitXor, fun v _ => Builtin.bitNot v]
theorem chain_or (f s2 : Str) : (∃ op ∈ ops2, ∀ v o g, chainG f s2 v o g = op v o) ∨ (∀ v o g, chainG f s2 v o g = g) := by
  have mem : ∀ i (h : i < ops2.length), ops2[i] ∈ ops2 := fun i h => List.getElem_mem h
  by_cases h1 : (f == Str.ofString "+") = true
  · exact .inl ⟨_, mem 0 (by decide), fun v o g => by unfold chainG; rw [if_pos h1]; rfl⟩
  by_cases h2 : (f == Str.ofString "-") = true
  · exact .inl ⟨_, mem 1 (by decide), fun v o g => by unfold chainG; rw [if_neg h1, if_pos h2]; rfl⟩
  by_cases h3 : (s2 == Str.ofString "**") = true
  · exact .inl ⟨_, mem 2 (by decide), fun v o g => by unfold chainG; rw [if_neg h1, if_neg h2, if_pos h3]; rfl⟩
  by_cases h4 : (f == Str.ofString "*") = true
  · exact .inl ⟨_, mem 3 (by decide), fun v o g => by unfold chainG; rw [if_neg h1, if_neg h2, if_neg h3, if_pos h4]; rfl⟩
  by_cases h5 : (f == Str.ofString "&") = true
  · exact .inl ⟨_, mem 4 (by decide), fun v o g => by unfold chainG; rw [if_neg h1, if_neg h2, if_neg h3, if_neg h4, if_pos h5]; rfl⟩
  by_cases h6 : (f == Str.ofString "|") = true
  · exact .inl ⟨_, mem 5 (by decide), fun v o g => by unfold chainG; rw [if_neg h1, if_neg h2, if_neg h3, if_neg h4, if_neg h5, if_pos h6]; rfl⟩
  by_cases h7 : (f == Str.ofString "^") = true
  · exact .inl ⟨_, mem 6 (by decide), fun v o g => by unfold chainG; rw [if_neg h1, if_neg h2, if_neg h3, if_neg h4, if_neg h5, if_neg h6, if_pos h7]; rfl⟩
  by_cases h8 : (f == Str.ofString "~") = true
  · exact .inl ⟨_, mem 7 (by decide), fun v o g => by unfold chainG; rw [if_neg h1, if_neg h2, if_neg h3, if_neg h4, if_neg h5, if_neg h6, if_neg h7, if_pos h8]; rfl⟩
  · exact .inr fun v o g => by unfold chainG; rw [if_neg h1, if_neg h2, if_neg h3, if_neg h4, if_neg h5, if_neg h6, if_neg h7, if_neg h8]
theorem ops_8 : ∀ op ∈ ops2, ∀ v : Fin 256, ∀ o : Fin 8, (op ((v.val : Int) - 128) o.val) % 8 = (op (((v.val : Int) - 128) % 8) o.val) % 8 := by decide +kernel
theorem ops_T : ∀ op ∈ ops2, ∀ v o : Fin 8, (op (v.val : Int) (o.val : Int)) % 2 = (op ((v.val % 2 : Nat) : Int) ((o.val % 2 : Nat) : Int)) % 2 ∧ (op (v.val : Int) (o.val : Int)) % 4 = (op ((v.val % 4 : Nat) : Int) ((o.val % 4 : Nat) : Int)) % 4 := by decide +kernel
theorem emod_of (x : Int) {n : Int} (h : 0 ≤ n) : x.fmod n = x % n := Int.fmod_eq_emod_of_nonneg _ h
theorem step_e (nm : Str) (v g c : Int) : (stepG nm v g c).fmod 8 = chainG (Txt.item nm 0) (Txt.slice nm none (some 2)) v (othG (Txt.item nm (-1)) g c) g % 8 := by
  unfold stepG
  rw [emod_of _ (by decide), emod_of _ (by decide), Int.sub_emod, Int.emod_emod_of_dvd _ (by decide : (8 : Int) ∣ 256), show (128 : Int) % 8 = 0 from rfl, Int.sub_zero, Int.emod_emod]
theorem oth_b (z : Str) {g c : Int} (hg : 0 ≤ g ∧ g < 8) (hc : 0 ≤ c ∧ c < 8) : 0 ≤ othG z g c ∧ othG z g c < 8 := by
  unfold othG
  split
  · exact hg
  · exact hc
theorem step_8 (nm : Str) {v g c : Int} (hv : -128 ≤ v ∧ v < 128) (hg : 0 ≤ g ∧ g < 8) (hc : 0 ≤ c ∧ c < 8) : (stepG nm v g c).fmod 8 = (stepG nm (v.fmod 8) g c).fmod 8 := by
  rw [step_e, step_e]
  have ho := oth_b (Txt.item nm (-1)) hg hc
  rcases chain_or (Txt.item nm 0) (Txt.slice nm none (some 2)) with ⟨op, hop, h⟩ | h
  · rw [h, h]
    have hv0 : 0 ≤ v + 128 := Int.add_le_add_right hv.1 128
    have := ops_8 op hop ⟨(v + 128).toNat, (Int.toNat_lt hv0).mpr (Int.add_lt_add_right hv.2 128)⟩ ⟨(othG (Txt.item nm (-1)) g c).toNat, (Int.toNat_lt ho.1).mpr ho.2⟩
    simp only [Int.toNat_of_nonneg ho.1, Int.toNat_of_nonneg hv0] at this
    rw [Int.add_sub_cancel] at this
    rw [emod_of v (by decide)]
    exact this
  · rw [h, h]
theorem opT {op : Int → Int → Int} (hop : op ∈ ops2) {v o : Int} (hv : 0 ≤ v ∧ v < 8) (ho : 0 ≤ o ∧ o < 8) : op v o % 2 = op (v % 2) (o % 2) % 2 ∧ op v o % 4 = op (v % 4) (o % 4) % 4 := by
  have := ops_T op hop ⟨v.toNat, (Int.toNat_lt hv.1).mpr hv.2⟩ ⟨o.toNat, (Int.toNat_lt ho.1).mpr ho.2⟩
  simp only [Int.toNat_of_nonneg ho.1, Int.toNat_of_nonneg hv.1, Int.natCast_emod] at this
  exact this
theorem oth_T (z : Str) {g g' c : Int} (m : Int) (h : g % m = g' % m) : othG z g c % m = othG z g' c % m := by
  unfold othG
  split
  · exact h
  · rfl
theorem mod82 {x y : Int} (h : x % 2 = y % 2) : x % 8 % 2 = y % 8 % 2 := by rw [Int.emod_emod_of_dvd _ (by decide), Int.emod_emod_of_dvd _ (by decide), h]
theorem mod84 {x y : Int} (h : x % 4 = y % 4) : x % 8 % 4 = y % 8 % 4 := by rw [Int.emod_emod_of_dvd _ (by decide), Int.emod_emod_of_dvd _ (by decide), h]
theorem step_T2 (nm : Str) {v v' g g' c : Int} (hv : 0 ≤ v ∧ v < 8) (hv' : 0 ≤ v' ∧ v' < 8) (hg : 0 ≤ g ∧ g < 8) (hg' : 0 ≤ g' ∧ g' < 8) (hc : 0 ≤ c ∧ c < 8) :
    (v % 2 = v' % 2 → g % 2 = g' % 2 → (stepG nm v g c).fmod 8 % 2 = (stepG nm v' g' c).fmod 8 % 2) ∧ (v % 4 = v' % 4 → g % 4 = g' % 4 → (stepG nm v g c).fmod 8 % 4 = (stepG nm v' g' c).fmod 8 % 4) := by
  rw [step_e, step_e]
  have ho := oth_b (Txt.item nm (-1)) hg hc
  have ho' := oth_b (Txt.item nm (-1)) hg' hc
  rcases chain_or (Txt.item nm 0) (Txt.slice nm none (some 2)) with ⟨op, hop, h⟩ | h
  · rw [h, h]
    have a := opT hop hv ho
    have b := opT hop hv' ho'
    refine ⟨fun e1 e2 => ?_, fun e1 e2 => ?_⟩
    · rw [e1, oth_T _ 2 e2] at a
      exact mod82 (a.1.trans b.1.symm)
    · rw [e1, oth_T _ 4 e2] at a
      exact mod84 (a.2.trans b.2.symm)
  · rw [h, h]
    exact ⟨fun _ e => mod82 e, fun _ e => mod84 e⟩
theorem getR (F : Int → Int) {x : Nat} (h : x < 8) : ((rangeKs 0 8).map F).getD x 0 = F (x : Int) := by
  have e : rangeKs 0 8 = (List.range 8).map fun (i : Nat) => ((i : Nat) : Int) := by decide
  rw [e, List.map_map, List.getD_eq_getElem?_getD, List.getElem?_map, List.getElem?_range h]
  rfl
theorem bnd_at {vs : List Int} (h : Bnd vs) (x : Nat) : -128 ≤ vs.getD x 0 ∧ vs.getD x 0 < 128 := getD_b h.2
theorem map_at (f : Int → Int) (vs : List Int) {x : Nat} (h : x < vs.length) : (vs.map f).getD x 0 = f (vs.getD x 0) := by
  rw [List.getD_eq_getElem?_getD, List.getD_eq_getElem?_getD, List.getElem?_map, List.getElem?_eq_getElem h]; rfl
theorem plain_step (nm : Str) {vs : List Int} {c : Int} (h : Bnd vs) (hc : 0 ≤ c ∧ c < 8) : (rangeKs 0 8).map (fun x => (stepG nm ((vs.map fun y => y.fmod 8).getD x.toNat 0) x c).fmod 8) = (stepV nm vs c).map fun y => y.fmod 8 := by
  rw [stepV, List.map_map]
  refine List.map_congr_left fun x hx => ?_
  have hx := mem_rangeKs hx
  have hx8 : x.toNat < vs.length := by rw [h.1]; omega
  rw [map_at _ _ hx8]
  exact (step_8 nm (bnd_at h _) ⟨by omega, by omega⟩ hc).symm
theorem plain_fold {c : Int} (hc : 0 ≤ c ∧ c < 8) : ∀ (ts : List (List Nat)) (vs : List Int), Bnd vs → plainV ts (vs.map fun y => y.fmod 8) c = (ts.foldl (fun vs t => stepV (mkS t) vs c) vs).map fun y => y.fmod 8
  | [], _, _ => rfl
  | t :: r, vs, h => by
    rw [List.foldl_cons, ← plain_fold hc r _ (bnd_step (mkS t) vs c), ← plain_step (mkS t) h hc]
    rfl
theorem plain_eq {cs : List Nat} {c : Int} (hc0 : 0 ≤ c) (hc1 : c < 8) (hsg : Signs cs) : resF cs c = plainV (cs.foldl addT []) [0, 1, 2, 3, 4, 5, 6, 7] c := by
  have e := plain_fold ⟨hc0, hc1⟩ (tokM 8 cs) _ bnd0
  rw [← vals_eq hc0 hsg.2.2, ← tok_add 8 cs hsg.2.1 hsg.2.2] at e
  exact e.symm
theorem resSmall {cs : List Nat} {c : Int} (hc0 : 0 ≤ c) (hsg : Signs cs) : Small (resF cs c) := by
  refine ⟨by rw [resF, List.length_map]; exact (valsB hc0 hsg.2.2).1, fun v hv => ?_⟩
  obtain ⟨x, _, rfl⟩ := List.mem_map.mp hv
  exact ⟨Int.fmod_nonneg_of_pos _ (by decide), Int.fmod_lt_of_pos _ (by decide)⟩
structure Tf (rs : List Int) : Prop where
  sm : Small rs
  t2 : ∀ x y : Nat, x < 8 → y < 8 → x % 2 = y % 2 → rs.getD x 0 % 2 = rs.getD y 0 % 2
  t4 : ∀ x y : Nat, x < 8 → y < 8 → x % 4 = y % 4 → rs.getD x 0 % 4 = rs.getD y 0 % 4
theorem tf_step (nm : Str) {vs : List Int} {c : Int} (h : Tf vs) (hc : 0 ≤ c ∧ c < 8) : Tf ((rangeKs 0 8).map fun x => (stepG nm (vs.getD x.toNat 0) x c).fmod 8) := by
  refine ⟨⟨by rw [List.length_map, rangeKs_length], fun v hv => ?_⟩, fun x y hx hy e => ?_, fun x y hx hy e => ?_⟩
  · obtain ⟨x, _, rfl⟩ := List.mem_map.mp hv
    exact ⟨Int.fmod_nonneg_of_pos _ (by decide), Int.fmod_lt_of_pos _ (by decide)⟩
  · rw [getR _ hx, getR _ hy, Int.toNat_natCast, Int.toNat_natCast]
    exact (step_T2 nm (small_at h.sm _) (small_at h.sm _) (i8 hx) (i8 hy) hc).1 (h.t2 x y hx hy e) (congrArg Int.ofNat e)
  · rw [getR _ hx, getR _ hy, Int.toNat_natCast, Int.toNat_natCast]
    exact (step_T2 nm (small_at h.sm _) (small_at h.sm _) (i8 hx) (i8 hy) hc).2 (h.t4 x y hx hy e) (congrArg Int.ofNat e)
theorem tf_fold {c : Int} (hc : 0 ≤ c ∧ c < 8) : ∀ (ts : List (List Nat)) (vs : List Int), Tf vs → Tf (plainV ts vs c)
  | [], _, h => h
  | t :: r, _, h => tf_fold hc r _ (tf_step (mkS t) h hc)
theorem tf0 : Tf [0, 1, 2, 3, 4, 5, 6, 7] := by
  have key : ∀ x y : Fin 8, (x.val % 2 = y.val % 2 → ([0, 1, 2, 3, 4, 5, 6, 7] : List Int).getD x.val 0 % 2 = ([0, 1, 2, 3, 4, 5, 6, 7] : List Int).getD y.val 0 % 2) ∧ (x.val % 4 = y.val % 4 → ([0, 1, 2, 3, 4, 5, 6, 7] : List Int).getD x.val 0 % 4 = ([0, 1, 2, 3, 4, 5, 6, 7] : List Int).getD y.val 0 % 4) := by decide +kernel
  exact ⟨⟨rfl, by decide⟩, fun x y hx hy => (key ⟨x, hx⟩ ⟨y, hy⟩).1, fun x y hx hy => (key ⟨x, hx⟩ ⟨y, hy⟩).2⟩
theorem resT {cs : List Nat} {c : Int} (hc0 : 0 ≤ c) (hc1 : c < 8) (hsg : Signs cs) : Tf (resF cs c) := by
  rw [plain_eq hc0 hc1 hsg]
  exact tf_fold ⟨hc0, hc1⟩ _ _ tf0
end
section
open PySem PySem.W PyProof.Rows PySem.Spec PySem.Calls LCg
noncomputable def mp (rs : List Int) (x : Nat) : Nat := (rs.getD x 0).toNat
structure T8 (h : Nat → Nat) : Prop where
  lt : ∀ x, x < 8 → h x < 8
  t2 : ∀ x y, x < 8 → y < 8 → x % 2 = y % 2 → h x % 2 = h y % 2
  t4 : ∀ x y, x < 8 → y < 8 → x % 4 = y % 4 → h x % 4 = h y % 4
theorem T8.comp {h : Nat → Nat} (t : T8 h) : T8 fun x => h (h x) :=
  ⟨fun x hx => t.lt _ (t.lt x hx), fun x y hx hy e => t.t2 _ _ (t.lt x hx) (t.lt y hy) (t.t2 x y hx hy e), fun x y hx hy e => t.t4 _ _ (t.lt x hx) (t.lt y hy) (t.t4 x y hx hy e)⟩
theorem f2 : ∀ y z w : Fin 8, ¬ z.val % 2 = y.val % 2 → ¬ w.val % 2 = z.val % 2 → w.val % 2 = y.val % 2 := by decide +kernel
theorem f4 : ∀ y z w : Fin 8, z.val % 2 = y.val % 2 → w.val % 2 = z.val % 2 → ¬ z.val % 4 = y.val % 4 → ¬ w.val % 4 = z.val % 4 → w.val % 4 = y.val % 4 := by decide +kernel
theorem f8 : ∀ y z w : Fin 8, z.val % 4 = y.val % 4 → w.val % 4 = z.val % 4 → ¬ z.val = y.val → ¬ w.val = z.val → w.val = y.val := by decide +kernel
theorem idem1 {h : Nat → Nat} (t : T8 h) : ∀ x, x < 8 → h (h (h (h x))) % 2 = h (h x) % 2 := by
  intro x hx
  have a := t.lt x hx
  have b := t.lt _ a
  have c := t.lt _ b
  by_cases e : h (h x) % 2 = h x % 2
  · have e1 := t.t2 _ _ b a e
    exact (t.t2 _ _ c b e1).trans e1
  · by_cases e3 : h (h (h x)) % 2 = h (h x) % 2
    · exact (t.t2 _ _ c b e3).trans e3
    · exact t.t2 _ _ c a (f2 ⟨_, a⟩ ⟨_, b⟩ ⟨_, c⟩ e e3)
theorem idem2 {h : Nat → Nat} (t : T8 h) (i : ∀ x, x < 8 → h (h x) % 2 = h x % 2) : ∀ x, x < 8 → h (h (h (h x))) % 4 = h (h x) % 4 := by
  intro x hx
  have a := t.lt x hx
  have b := t.lt _ a
  have c := t.lt _ b
  by_cases e : h (h x) % 4 = h x % 4
  · have e1 := t.t4 _ _ b a e
    exact (t.t4 _ _ c b e1).trans e1
  · by_cases e3 : h (h (h x)) % 4 = h (h x) % 4
    · exact (t.t4 _ _ c b e3).trans e3
    · exact t.t4 _ _ c a (f4 ⟨_, a⟩ ⟨_, b⟩ ⟨_, c⟩ (i x hx) (i _ a) e e3)
theorem idem4 {h : Nat → Nat} (t : T8 h) (i : ∀ x, x < 8 → h (h x) % 4 = h x % 4) : ∀ x, x < 8 → h (h (h (h x))) = h (h x) := by
  intro x hx
  have a := t.lt x hx
  have b := t.lt _ a
  have c := t.lt _ b
  by_cases e : h (h x) = h x
  · rw [e, e]; exact e
  · by_cases e3 : h (h (h x)) = h (h x)
    · rw [e3]; exact e3
    · exact congrArg h (f8 ⟨_, a⟩ ⟨_, b⟩ ⟨_, c⟩ (i x hx) (i _ a) e e3)
theorem eight_id {h : Nat → Nat} (t : T8 h) : ∀ x, x < 8 → h (h (h (h (h (h (h (h (h (h (h (h (h (h (h (h x))))))))))))))) = h (h (h (h (h (h (h (h x))))))) :=
  idem4 t.comp.comp (idem2 t.comp (idem1 t))
theorem tn_mod {x y n : Int} (hx : 0 ≤ x) (hy : 0 ≤ y) (hn : 0 ≤ n) (e : x % n = y % n) : x.toNat % n.toNat = y.toNat % n.toNat := by rw [← Int.toNat_emod hx hn, ← Int.toNat_emod hy hn, e]
theorem tn_lt {x : Int} (h : 0 ≤ x ∧ x < 8) : x.toNat < 8 := (Int.toNat_lt h.1).mpr h.2
theorem mp_of {rs : List Int} (t : Tf rs) : T8 (mp rs) :=
  ⟨fun x _ => tn_lt (small_at t.sm x), fun x y hx hy e => tn_mod (n := 2) (small_at t.sm x).1 (small_at t.sm y).1 (by decide) (t.t2 x y hx hy e), fun x y hx hy e => tn_mod (n := 4) (small_at t.sm x).1 (small_at t.sm y).1 (by decide) (t.t4 x y hx hy e)⟩
theorem mp_again {rs : List Int} (h : Small rs) {x : Nat} (hx : x < 8) : mp (again rs) x = mp rs (mp rs x) := by
  show ((rs.map fun k => rs.getD k.toNat 0).getD x 0).toNat = _
  rw [map_at _ _ (by rw [h.1]; exact hx)]
  rfl
theorem lst8 {rs : List Int} (h : rs.length = 8) : rs = (List.range 8).map fun i => rs.getD i 0 := by
  apply List.ext_getElem?
  intro i
  rw [List.getElem?_map]
  by_cases hi : i < 8
  · rw [List.getElem?_range hi, Option.map_some, List.getD_eq_getElem?_getD, List.getElem?_eq_getElem (h ▸ hi)]; rfl
  · rw [List.getElem?_eq_none (by rw [h]; exact Nat.not_lt.mp hi), List.getElem?_eq_none (by rw [List.length_range]; exact Nat.not_lt.mp hi)]; rfl
theorem small_ext {rs ss : List Int} (h : Small rs) (g : Small ss) (e : ∀ x, x < 8 → mp rs x = mp ss x) : rs = ss := by
  rw [lst8 h.1, lst8 g.1]
  refine List.map_congr_left fun i hi => ?_
  have a := e i (List.mem_range.mp hi)
  rw [← Int.toNat_of_nonneg (small_at h i).1, ← Int.toNat_of_nonneg (small_at g i).1]
  exact congrArg _ a
theorem eight_ok {rs : List Int} (t : Tf rs) : again (again (again (again rs))) = again (again (again rs)) := by
  have m := mp_of t
  have s0 := t.sm
  have s1 : Small (again rs) := small_step s0
  have s2 : Small (again (again rs)) := small_step s1
  have s3 : Small (again (again (again rs))) := small_step s2
  have l0 := m.lt
  have l1 : ∀ x, x < 8 → mp (again rs) x < 8 := fun x hx => by rw [mp_again s0 hx]; exact m.comp.lt x hx
  have l2 : ∀ x, x < 8 → mp (again (again rs)) x < 8 := fun x hx => by rw [mp_again s1 hx]; exact l1 _ (l1 x hx)
  have e1 : ∀ x, x < 8 → mp (again rs) x = mp rs (mp rs x) := fun x hx => mp_again s0 hx
  have e2 : ∀ x, x < 8 → mp (again (again rs)) x = mp rs (mp rs (mp rs (mp rs x))) := fun x hx => by
    rw [mp_again s1 hx, e1 _ (l1 x hx), e1 x hx]
  have e3 : ∀ x, x < 8 → mp (again (again (again rs))) x = mp rs (mp rs (mp rs (mp rs (mp rs (mp rs (mp rs (mp rs x))))))) := fun x hx => by
    rw [mp_again s2 hx, e2 _ (l2 x hx), e2 x hx]
  have l3 : ∀ x, x < 8 → mp (again (again (again rs))) x < 8 := fun x hx => by rw [mp_again s2 hx]; exact l2 _ (l2 x hx)
  refine small_ext (small_step s3) s3 fun x hx => ?_
  show mp (again (again (again (again rs)))) x = _
  rw [mp_again s3 hx, e3 _ (l3 x hx), e3 x hx]
  exact eight_id m x hx
noncomputable def nb (a b c : Bool) : Int := (((cond a 1 0) + (cond b 2 0) + (cond c 4 0) : Nat) : Int)
noncomputable def mk1 (a0 a1 b0 b1 b2 b3 c0 c1 c2 c3 c4 c5 c6 c7 : Bool) : List Int := [nb a0 b0 c0, nb a1 b1 c1, nb a0 b2 c2, nb a1 b3 c3, nb a0 b0 c4, nb a1 b1 c5, nb a0 b2 c6, nb a1 b3 c7]
noncomputable def mkF (A B C : Nat → Bool) : List Int := (List.range 8).map fun i => nb (A (i % 2)) (B (i % 4)) (C i)
theorem mkF_eq (A B C : Nat → Bool) : mkF A B C = mk1 (A 0) (A 1) (B 0) (B 1) (B 2) (B 3) (C 0) (C 1) (C 2) (C 3) (C 4) (C 5) (C 6) (C 7) := rfl
theorem nb_of (r : Int) (h0 : 0 ≤ r) (h1 : r < 8) : r = nb (r % 2 == 1) (r % 4 / 2 == 1) (r / 4 == 1) :=
  fin_int (P := fun r => r = nb (r % 2 == 1) (r % 4 / 2 == 1) (r / 4 == 1)) 8 (by decide +kernel) r h0 h1
theorem bits_of {rs : List Int} (t : Tf rs) : ∃ A B C, rs = mkF A B C := by
  refine ⟨fun i => rs.getD i 0 % 2 == 1, fun i => rs.getD i 0 % 4 / 2 == 1, fun i => rs.getD i 0 / 4 == 1, ?_⟩
  conv => lhs; rw [lst8 t.sm.1]
  refine List.map_congr_left fun i hi => ?_
  have h8 := List.mem_range.mp hi
  have e := nb_of _ (small_at t.sm i).1 (small_at t.sm i).2
  rw [t.t2 i (i % 2) h8 (Nat.lt_trans (Nat.mod_lt i (by decide)) (by decide)) (Nat.mod_mod i 2).symm, t.t4 i (i % 4) h8 (Nat.lt_trans (Nat.mod_lt i (by decide)) (by decide)) (Nat.mod_mod i 4).symm] at e
  exact e
theorem nb_inj : ∀ a b c a' b' c' : Bool, nb a b c = nb a' b' c' → a = a' ∧ b = b' ∧ c = c' := by decide +kernel
noncomputable def Surj (rs : List Int) : Prop := ∀ a b c : Bool, nb a b c ∈ rs
structure Turns (A B C : Nat → Bool) : Prop where
  a : A 1 = !A 0
  b2 : B 2 = !B 0
  b3 : B 3 = !B 1
  c4 : C 4 = !C 0
  c5 : C 5 = !C 1
  c6 : C 6 = !C 2
  c7 : C 7 = !C 3
theorem nb_ne (b : Bool) : ¬ b = !b := by cases b <;> decide
theorem surj_turns {A B C : Nat → Bool} (h : Surj (mkF A B C)) : Turns A B C := by
  have key : ∀ a b c, ∃ i, i < 8 ∧ A (i % 2) = a ∧ B (i % 4) = b ∧ C i = c := by
    intro a b c
    obtain ⟨i, hi, e⟩ := List.mem_map.mp (h a b c)
    exact ⟨i, List.mem_range.mp hi, nb_inj _ _ _ _ _ _ e⟩
  have ha : A 1 = !A 0 := by
    obtain ⟨i, _, e, _⟩ := key (!A 0) false false
    rcases Nat.mod_two_eq_zero_or_one i with q | q
    · rw [q] at e; exact absurd e (nb_ne _)
    · rw [q] at e; exact e
  have ev : ∀ i p, p < 2 → A (i % 2) = A p → i % 2 = p := by
    intro i p hp e
    rcases Nat.mod_two_eq_zero_or_one i with q | q <;> rcases (Nat.lt_succ_iff_lt_or_eq.mp hp) with r | r
    · rw [q, Nat.lt_one_iff.mp r]
    · rw [q, r, ha] at e; exact absurd e (nb_ne _)
    · rw [q, Nat.lt_one_iff.mp r, ha] at e; exact absurd e.symm (nb_ne _)
    · rw [q, r]
  have m4 : ∀ i p : Fin 8, i.val % 2 = p.val % 2 → p.val < 2 → ¬ i.val % 4 = p.val → i.val % 4 = p.val + 2 := by decide +kernel
  have hb : ∀ p, p < 2 → B (p + 2) = !B p := by
    intro p hp
    obtain ⟨i, hi, e1, e2, _⟩ := key (A p) (!B p) false
    have q := m4 ⟨i, hi⟩ ⟨p, Nat.lt_trans hp (by decide)⟩ ((ev i p hp e1).trans (Nat.mod_eq_of_lt hp).symm) hp (fun q => by rw [q] at e2; exact nb_ne _ e2)
    rw [q] at e2
    exact e2
  have hb4 : ∀ p i, p < 4 → i % 2 = p % 2 → B (i % 4) = B p → i % 4 = p := by
    intro p i hp e1 e2
    have k1 : ∀ x p : Fin 4, x.val % 2 = p.val % 2 → ¬ x.val = p.val → (p.val < 2 ∧ x.val = p.val + 2) ∨ (x.val < 2 ∧ p.val = x.val + 2) := by decide +kernel
    by_cases q : i % 4 = p
    · exact q
    · rcases k1 ⟨i % 4, Nat.mod_lt i (by decide)⟩ ⟨p, hp⟩ ((Nat.mod_mod_of_dvd i (by decide)).trans e1) q with ⟨r, s⟩ | ⟨r, s⟩
      · rw [show i % 4 = p + 2 from s, hb p r] at e2; exact absurd e2.symm (nb_ne _)
      · rw [show p = i % 4 + 2 from s, hb _ r] at e2; exact absurd e2 (nb_ne _)
  have m8 : ∀ i p : Fin 8, i.val % 4 = p.val → ¬ i.val = p.val → i.val = p.val + 4 := by decide +kernel
  have hc : ∀ p, p < 4 → C (p + 4) = !C p := by
    intro p hp
    obtain ⟨i, hi, e1, e2, e3⟩ := key (A (p % 2)) (B p) (!C p)
    have q := m8 ⟨i, hi⟩ ⟨p, Nat.lt_trans hp (by decide)⟩ (hb4 p i hp (ev i _ (Nat.mod_lt p (by decide)) e1) e2) (fun q => by rw [show i = p from q] at e3; exact nb_ne _ e3)
    rw [show i = p + 4 from q] at e3
    exact e3
  exact ⟨ha, hb 0 (by decide), hb 1 (by decide), hc 0 (by decide), hc 1 (by decide), hc 2 (by decide), hc 3 (by decide)⟩
theorem apart_surj {rs : List Int} (h : apartB rs = true) : Surj rs := by
  intro a b c
  have e : sortI rs = [0, 1, 2, 3, 4, 5, 6, 7] := of_decide_eq_true h
  have key : ∀ a b c : Bool, nb a b c ∈ ([0, 1, 2, 3, 4, 5, 6, 7] : List Int) := by decide +kernel
  exact (sortI_perm rs).mem_iff.mp (e ▸ key a b c)
theorem mem_wkP {rs : List Int} : ∀ (k : Nat) (v : Int), v ∈ wkP rs k → ∃ j, j < k ∧ v = itW rs j
  | 0, _, h => nomatch h
  | k + 1, v, h => by
    rcases List.mem_append.mp h with h | h
    · obtain ⟨j, hj, e⟩ := mem_wkP k v h
      exact ⟨j, Nat.lt_succ_of_lt hj, e⟩
    · exact ⟨k, Nat.lt_succ_self k, List.mem_singleton.mp h⟩
theorem itW_mem {rs : List Int} (h : Small rs) (k : Nat) : itW rs (k + 1) ∈ rs := by
  show rs.getD (itW rs k).toNat 0 ∈ rs
  have := itW_b h k
  have hl : (itW rs k).toNat < rs.length := by rw [h.1]; omega
  rw [List.getD_eq_getElem?_getD, List.getElem?_eq_getElem hl]
  exact List.getElem_mem hl
theorem round_surj {rs : List Int} (hs : Small rs) (h : roundB rs = true) : Surj rs := by
  intro a b c
  unfold roundB at h
  rw [Bool.and_eq_true] at h
  have e : sortI (wkP rs 8) = [0, 1, 2, 3, 4, 5, 6, 7] := of_decide_eq_true h.1
  have e0 : itW rs 8 = 0 := eq_of_beq h.2
  have key : ∀ a b c : Bool, nb a b c ∈ ([0, 1, 2, 3, 4, 5, 6, 7] : List Int) := by decide +kernel
  obtain ⟨j, _, hv⟩ := mem_wkP 8 _ ((sortI_perm (wkP rs 8)).mem_iff.mp (e ▸ key a b c))
  rw [hv]
  cases j with
  | zero => show (0 : Int) ∈ rs; rw [← e0]; exact itW_mem hs 7
  | succ j => exact itW_mem hs j
theorem turn_all : ∀ a b b' c d e f : Bool, apartB (mk1 a (!a) b b' (!b) (!b') c d e f (!c) (!d) (!e) (!f)) = true ∧ roundB (mk1 a (!a) b b' (!b) (!b') c d e f (!c) (!d) (!e) (!f)) = oddB (mk1 a (!a) b b' (!b) (!b') c d e f (!c) (!d) (!e) (!f)) := by decide +kernel
theorem lev0 : ∀ a b c a' b' c' : Bool, levD (nb a b c) (nb a' b' c') + 2 * ((0 : Nat) : Int) - 6 ≤ 0 ∧ (levD (nb a b c) (nb a' b' c') + 2 * ((0 : Nat) : Int) - 6 == 0) = (a' == !a) := by decide +kernel
theorem lev1 : ∀ a b c b' c' : Bool, levD (nb a b c) (nb a b' c') + 2 * ((1 : Nat) : Int) - 6 ≤ 0 ∧ (levD (nb a b c) (nb a b' c') + 2 * ((1 : Nat) : Int) - 6 == 0) = (b' == !b) := by decide +kernel
theorem lev2 : ∀ a b c c' : Bool, levD (nb a b c) (nb a b c') + 2 * ((2 : Nat) : Int) - 6 ≤ 0 ∧ (levD (nb a b c) (nb a b c') + 2 * ((2 : Nat) : Int) - 6 == 0) = (c' == !c) := by decide +kernel
theorem ov_list (f : Nat → Nat → Int) : allC f ovP 8 3 = [f 0 0, f 0 2, f 0 4, f 0 6, f 1 0, f 1 1, f 1 4, f 1 5, f 2 0, f 2 1, f 2 2, f 2 3] := by
  have h0 : (List.range 8).filter (ovP 0) = [0, 2, 4, 6] := by decide +kernel
  have h1 : (List.range 8).filter (ovP 1) = [0, 1, 4, 5] := by decide +kernel
  have h2 : (List.range 8).filter (ovP 2) = [0, 1, 2, 3] := by decide +kernel
  have h3 : List.range 3 = [0, 1, 2] := by decide
  simp only [allC, rowC, h3, List.flatMap_cons, List.flatMap_nil, h0, h1, h2, List.map_cons, List.map_nil, List.cons_append, List.nil_append]
theorem ov_len (f : Nat → Nat → Int) : 0 < (allC f ovP 8 3).length := by
  rw [ov_list]; exact Nat.succ_pos _
theorem min0 {l : List Int} {M : Int} (hm : M ∈ l) (hl : ∀ a ∈ l, M ≤ a) (hx : ∀ a ∈ l, a ≤ 0) : (M == 0) = l.all (· == 0) := by
  by_cases h : M = 0
  · subst h
    symm
    rw [beq_self_eq_true, List.all_eq_true]
    exact fun a ha => beq_iff_eq.mpr (Int.le_antisymm (hx a ha) (hl a ha))
  · rw [beq_eq_false_iff_ne.mpr h]
    symm
    rw [List.all_eq_false]
    exact ⟨M, hm, by rw [beq_iff_eq]; exact h⟩
section
variable {A B C : Nat → Bool}
noncomputable def turnB (A B C : Nat → Bool) : Bool := (A 1 == !A 0) && ((B 2 == !B 0) && (B 3 == !B 1)) && (C 4 == !C 0) && (C 5 == !C 1) && (C 6 == !C 2) && (C 7 == !C 3)
theorem all12 : ∀ t0 t1 t2 u0 u1 u2 u3 : Bool, (t0 && (t0 && (t0 && (t0 && (t1 && (t2 && (t1 && (t2 && (u0 && (u1 && (u2 && (u3 && true)))))))))))) = (t0 && (t1 && t2) && u0 && u1 && u2 && u3) := by decide +kernel
inductive OvL : List Int → Bool → Prop
  | nil : OvL [] true
  | cons {x : Int} {t u : Bool} {l : List Int} : x ≤ 0 ∧ (x == 0) = t → OvL l u → OvL (x :: l) (t && u)
theorem OvL.ok {l : List Int} {u : Bool} (h : OvL l u) : (∀ a ∈ l, a ≤ 0) ∧ l.all (· == 0) = u := by
  induction h with
  | nil => exact ⟨List.forall_mem_nil _, rfl⟩
  | cons h _ ih => exact ⟨List.forall_mem_cons.mpr ⟨h.1, ih.1⟩, by rw [List.all_cons, h.2, ih.2]⟩
theorem ov_mk : (∀ a ∈ allC (ovF (mkF A B C)) ovP 8 3, a ≤ 0) ∧ (allC (ovF (mkF A B C)) ovP 8 3).all (· == 0) = turnB A B C := by
  rw [ov_list, turnB, ← all12]
  exact (OvL.cons (lev0 (A 0) (B 0) (C 0) (A 1) (B 1) (C 1)) (.cons (lev0 (A 0) (B 2) (C 2) (A 1) (B 3) (C 3)) (.cons (lev0 (A 0) (B 0) (C 4) (A 1) (B 1) (C 5)) (.cons (lev0 (A 0) (B 2) (C 6) (A 1) (B 3) (C 7))
    (.cons (lev1 (A 0) (B 0) (C 0) (B 2) (C 2)) (.cons (lev1 (A 1) (B 1) (C 1) (B 3) (C 3)) (.cons (lev1 (A 0) (B 0) (C 4) (B 2) (C 6)) (.cons (lev1 (A 1) (B 1) (C 5) (B 3) (C 7))
    (.cons (lev2 (A 0) (B 0) (C 0) (C 4)) (.cons (lev2 (A 1) (B 1) (C 1) (C 5)) (.cons (lev2 (A 0) (B 2) (C 2) (C 6)) (.cons (lev2 (A 1) (B 3) (C 3) (C 7)) .nil)))))))))))).ok
theorem turn_iff : turnB A B C = true ↔ Turns A B C := by
  unfold turnB
  simp only [Bool.and_eq_true, beq_iff_eq]
  exact ⟨fun ⟨⟨⟨⟨⟨a, b, c⟩, d⟩, e⟩, f⟩, g⟩ => ⟨a, b, c, d, e, f, g⟩, fun ⟨a, b, c, d, e, f, g⟩ => ⟨⟨⟨⟨⟨a, b, c⟩, d⟩, e⟩, f⟩, g⟩⟩
theorem turn_mk (t : Turns A B C) : apartB (mkF A B C) = true ∧ roundB (mkF A B C) = oddB (mkF A B C) := by
  rw [mkF_eq, t.a, t.b2, t.b3, t.c4, t.c5, t.c6, t.c7]
  exact turn_all _ _ _ _ _ _ _
theorem turn_apart : turnB A B C = apartB (mkF A B C) := by
  cases h : turnB A B C with
  | true => exact (turn_mk (turn_iff.mp h)).1.symm
  | false =>
    cases g : apartB (mkF A B C) with
    | false => rfl
    | true => rw [turn_iff.mpr (surj_turns (apart_surj g))] at h; cases h
theorem round_mk (hs : Small (mkF A B C)) : roundB (mkF A B C) = (apartB (mkF A B C) && oddB (mkF A B C)) := by
  rw [← turn_apart]
  cases h : turnB A B C with
  | true => exact (turn_mk (turn_iff.mp h)).2
  | false =>
    cases g : roundB (mkF A B C) with
    | false => rfl
    | true => rw [turn_iff.mpr (surj_turns (round_surj hs g))] at h; cases h
end
theorem good_of {rs : List Int} (t : Tf rs) : Good rs := by
  have e8 := eight_ok t
  have hs := t.sm
  obtain ⟨A, B, C, rfl⟩ := bits_of t
  refine ⟨ov_mk.1, fun M hM hL => ?_, e8, round_mk hs⟩
  rw [min0 hM hL ov_mk.1, ov_mk.2, turn_apart]
theorem resGood {cs : List Nat} {c : Int} (hc0 : 0 ≤ c) (hc1 : c < 8) (hsg : Signs cs) : Good (resF cs c) := good_of (resT hc0 hc1 hsg)
end
section
open PySem PySem.W PyProof.Rows PySem.Spec PySem.Calls LCg
section
variable {prog : Program} {w : World} {A : Around} {s : Shared} {h₀ : Heap} {L : Addr} {m : Str → Option Value} {env : Env} {elt : PySem.Expr} {x : Str} {scope : Scope} {cl : List (Str × Addr)} {S : List (Addr × Obj) → Prop} {P : Nat → Value → Prop} {Fin : List Value → List (Addr × Obj) → Prop}
theorem CompRest.by (J : Nat → Nat → List Value → List (Addr × Obj) → Prop) (h0 : ∀ i ys news, J 0 i ys news → Fin ys news)
    (hs : ∀ k i ys news, J (k + 1) i ys news → ∀ v I oI C oC D m₂ h tk (E' : Value → Shared → Prop), P i v → NsObj oC m₂ → m₂ x = some v → Fr h₀ L h m → News h₀ L h ((I, oI) :: (C, oC) :: (D, lst ys) :: news) → Off3 I C D news → ((@Ne Nat I C) ∧ (@Ne Nat I D) ∧ (@Ne Nat C D)) →
      wpAny (model prog w) A (eval elt (compEnvC scope cl C env)) (CompEnd h₀ L m { s with heap := h, toks := tk } I oI C oC D (lst ys) S (fun y news' => J k (i + 1) (ys ++ [y]) news')) E' { s with heap := h, toks := tk }) :
    ∀ k i ys news, J k i ys news → CompRest prog w A h₀ L m env elt x scope cl s S P Fin k i ys news := by
  intro k
  induction k with
  | zero => exact fun i ys news j => h0 i ys news j
  | succ k ih =>
    intro i ys news j v I oI C oC D m₂ h tk E' hP hoC hx F N off ne
    refine wpAny_mono (hs k i ys news j v I oI C oC D m₂ h tk E' hP hoC hx F N off ne) (fun y s₂ h₂ => ?_) fun _ _ e => e
    obtain ⟨h', tk', news', e, F', N', off', hS, r⟩ := h₂
    exact ⟨h', tk', news', e, F', N', off', hS, ih _ _ _ r⟩
end
structure EndLaw (h₀ : Heap) (L : Addr) (gn : Array GenState) (dr : Drawn) (os : OsState) (fl : Flow) (s' : Shared) : Prop where
  ex : fl = .ret (.bool true) ∧ ∃ h' tk' m' ps qs, s' = ⟨h', gn, dr, tk', os⟩ ∧ Fr h₀ L h' m' ∧ News h₀ L h' [(37, tabObj qs), (30, tabObj ps)]
theorem use_body {w : World} {h₀ h₁ : Heap} {L l fa : Addr} {m : Str → Option Value} {gn : Array GenState} {dr : Drawn} {tk : Nat} {os : OsState} {xs : List Value} {ns : List Int} {cd : Value} {o1 o2 : Obj} {qual : Str} {scope : Scope} {body : List Stmt} {E : Value → Shared → Prop}
    (key : ∀ (w : World) (h₀ : Heap) (L : Addr) (h₁ : Heap) (m : Str → Option Value) (o1 o2 : Obj) (gn : Array GenState) (dr : Drawn) (tk : Nat) (os : OsState) (E : Value → Shared → Prop) (l fa : Addr) (cd : Value) (xs : List Value) (ns : List Int), IntsAre xs ns → ns.length ≤ 63 → Gr w h₀ [] → h₀.IsList l xs.toArray → m (Str.ofString "script") = some (.ref l) → Fr h₀ L h₁ m →
      News h₀ L h₁ [(L + 1 + 1, o1), (L + 1, o2), (37, tabObj #[]), (30, tabObj #[])] → o1.data = .cell none → o2.data = .cell none → @LT.lt Nat _ 37 L → @LT.lt Nat _ 30 L →
      wpAny (model PP w) (Ar 400 (envOfC qual scope L fa cd) []) (execs body (envOfC qual scope L fa cd)) (EndLaw h₀ L gn dr os) E ⟨h₁, gn, dr, tk, os⟩)
    (hI : IntsAre xs ns) (hlen : ns.length ≤ 63) (G : Gr w h₀ []) (hl : h₀.IsList l xs.toArray) (hm : m (Str.ofString "script") = some (.ref l)) (F : Fr h₀ L h₁ m) (N : News h₀ L h₁ [(L + 1 + 1, o1), (L + 1, o2), (37, tabObj #[]), (30, tabObj #[])]) (d1 : o1.data = .cell none) (d2 : o2.data = .cell none) (l1 : @LT.lt Nat _ 37 L) (l2 : @LT.lt Nat _ 30 L) :
    wpAny (model PP w) (Ar 400 (envOfC qual scope L fa cd) []) (execs body (envOfC qual scope L fa cd)) (EndLaw h₀ L gn dr os) E ⟨h₁, gn, dr, tk, os⟩ := key w h₀ L h₁ m o1 o2 gn dr tk os E l fa cd xs ns hI hlen G hl hm F N d1 d2 l1 l2
theorem genC {P : Int → Prop} (z : Int) (h : ∀ c, 0 ≤ c → c < 8 → P c) : P (z.fmod 8) := h _ (Int.fmod_nonneg_of_pos _ (by decide)) (Int.fmod_lt_of_pos _ (by decide))
theorem addI {prog : Program} {w : World} {A : Around} {E : Value → Shared → Prop} {s : Shared} {h₀ : Heap} {L a b : Addr} {m : Str → Option Value} {news : List (Addr × Obj)} {xs ys : List Value} {ns ms : List Int} {n k : Nat} {Q : Value → Shared → Prop}
    (F : Fr h₀ L s.heap m) (N : News h₀ L s.heap news) (ha : (a, PySem.W.listOf (List.toArray xs) n) ∈ news) (hb : (b, PySem.W.listOf (List.toArray ys) k) ∈ news) (hx : IntsAre xs ns) (hy : IntsAre ys ms) (hz : ns.length + ms.length ≤ 64)
    (h : ∀ D us h', Fr h₀ L h' m → News h₀ L h' ((D, PySem.W.listOf (List.toArray us) 0) :: news) → (∀ p ∈ news, p.1 < D) → IntsAre us (ns ++ ms) → Q (.ref D) { s with heap := h' }) :
    wpAny (model prog w) A (binaryOp .Add (.ref a) (.ref b)) Q E s :=
  PyProof.Rows.add_lists_ints F N (isl_at N ha) (isl_at N hb) hx hy (fun h' F' N' hi => h _ _ h' F' N' (fun p hp => Heap.lt_size (N p hp).1) hi) (by rw [PySem.sizeLine_eq]; omega)
theorem ints1 (z : Int) (t : Tok) : IntsAre [.int z t] [z] := .cons _ _ .nil
theorem ints2 (y z : Int) (t u : Tok) : IntsAre [.int y t, .int z u] [y, z] := .cons _ _ (.cons _ _ .nil)
theorem DJ8_next {vals : List Int} {i : Nat} {x : Int} {t : Tok} {ys : List Value} (h : IntsAre ys ((vals.take i).map fun x => x.fmod 8)) (hx : vals[i]? = some x) : IntsAre (ys ++ [.int (x.fmod 8) t]) ((vals.take (i + 1)).map fun x => x.fmod 8) := by
  rw [List.take_add_one, List.map_append, hx]
  exact IntsAre.append h (.cons _ _ .nil)
theorem ledIn {h₀ h : Heap} {L : Addr} {v q r : Addr × Obj} {rest : List (Addr × Obj)} {o1 o2 : Obj} (N : News h₀ L h (v :: q :: r :: rest)) (hs : ∀ p ∈ [(L + 1 + 1, o1), (L + 1, o2), (30, tabObj #[]), (37, tabObj #[])], p ∈ rest) :
    News h₀ L h [v, (L + 1 + 1, o1), (L + 1, o2), (30, tabObj #[]), (q.1, q.2), (37, tabObj #[]), (r.1, r.2)] := by
  have hr : ∀ p ∈ rest, p ∈ v :: q :: r :: rest := fun p hp => List.mem_cons_of_mem _ (List.mem_cons_of_mem _ (List.mem_cons_of_mem _ hp))
  refine cb_drop N (List.forall_mem_cons.mpr ⟨List.mem_cons_self, List.forall_mem_cons.mpr ⟨hr _ (hs _ (by simp)), List.forall_mem_cons.mpr ⟨hr _ (hs _ (by simp)), List.forall_mem_cons.mpr ⟨hr _ (hs _ (by simp)), List.forall_mem_cons.mpr ⟨List.mem_cons_of_mem _ List.mem_cons_self, List.forall_mem_cons.mpr ⟨hr _ (hs _ (by simp)), List.forall_mem_cons.mpr ⟨List.mem_cons_of_mem _ (List.mem_cons_of_mem _ List.mem_cons_self), List.forall_mem_nil _⟩⟩⟩⟩⟩⟩⟩)
end
section
open PySem PySem.W PyProof.Rows PySem.Spec PySem.Calls LCg
noncomputable def bodyO : Option Obj → Option (Str × List Stmt × Scope)
  | some ⟨_, _, .func fd, _⟩ => match fd.body with
    | .stmts b => some (fd.qualname, b, fd.scope)
    | _ => none
  | _ => none
noncomputable def SegK (w : World) (n : Nat) (K : Heap → Addr → (Str → Option Value) → List (Addr × Obj) → Prop) : Prop :=
  ∀ (qual : Str) (body : List Stmt) (scope : Scope), bodyO ((hd.heap_39 w.params).lookup 143) = some (qual, body, scope) →
  ∀ (h₀ : Heap) (L : Addr) (h : Heap) (m : Str → Option Value) (news : List (Addr × Obj)) (gn : Array GenState) (dr : Drawn) (tk : Nat) (os : OsState) (E : Value → Shared → Prop) (fa : Addr) (cd : Value), K h₀ L m news → Gr w h₀ [] → Fr h₀ L h m → News h₀ L h news →
      wpAny (model PP w) (Ar 400 (envOfC qual scope L fa cd) []) (execs (body.drop n) (envOfC qual scope L fa cd)) (EndLaw h₀ L gn dr os) E ⟨h, gn, dr, tk, os⟩
section
variable {w : World} {n : Nat} {K : Heap → Addr → (Str → Option Value) → List (Addr × Obj) → Prop} {qual : Str} {body rest : List Stmt} {scope : Scope}
theorem SegK.intro (ho : bodyO ((hd.heap_39 w.params).lookup 143) = some (qual, body, scope)) (hb : body.drop n = rest)
    (k : ∀ (h₀ : Heap) (L : Addr) (h : Heap) (m : Str → Option Value) (news : List (Addr × Obj)) (gn : Array GenState) (dr : Drawn) (tk : Nat) (os : OsState) (E : Value → Shared → Prop) (fa : Addr) (cd : Value), K h₀ L m news → Gr w h₀ [] → Fr h₀ L h m → News h₀ L h news →
      wpAny (model PP w) (Ar 400 (envOfC qual scope L fa cd) []) (execs rest (envOfC qual scope L fa cd)) (EndLaw h₀ L gn dr os) E ⟨h, gn, dr, tk, os⟩) : SegK w n K := by
  intro qual' body' scope' ho'
  rw [ho] at ho'
  cases ho'
  rw [hb]
  exact k
theorem SegK.use {h₀ h : Heap} {L fa : Addr} {m : Str → Option Value} {news : List (Addr × Obj)} {gn : Array GenState} {dr : Drawn} {tk : Nat} {os : OsState} {cd : Value} {E : Value → Shared → Prop} (S : SegK w n K)
    (ho : bodyO ((hd.heap_39 w.params).lookup 143) = some (qual, body, scope)) (hb : body.drop n = rest)
    (hK : K h₀ L m news) (G : Gr w h₀ []) (F : Fr h₀ L h m) (N : News h₀ L h news) :
    wpAny (model PP w) (Ar 400 (envOfC qual scope L fa cd) []) (execs rest (envOfC qual scope L fa cd)) (EndLaw h₀ L gn dr os) E ⟨h, gn, dr, tk, os⟩ := by
  rw [← hb]
  exact S _ _ _ ho h₀ L h m news gn dr tk os E fa cd hK G F N
end
theorem rem_app {led A : List (Addr × Obj)} (h : ∀ q ∈ led, LCg.Off1 q.1 A) : Rem led (A ++ led) A := by
  have go : ∀ B : List (Addr × Obj), (∀ p ∈ B, ∀ q ∈ led, q.1 ≠ p.1) → Rem led (B ++ led) B := by
    intro B
    induction B with
    | nil => exact fun _ => rem_none led led
    | cons p r ih => exact fun k => .keep (k p List.mem_cons_self) (ih fun p hp => k p (List.mem_cons_of_mem _ hp))
  exact go A fun p hp q hq e => off1_mem (h q hq) p hp e.symm
theorem off3_app {I C D : Addr} {A B : List (Addr × Obj)} (h : Off3 I C D (A ++ B)) : Off3 I C D A ∧ Off3 I C D B :=
  ⟨Off3.of fun p hp => h.mem p (List.mem_append_left _ hp), Off3.of fun p hp => h.mem p (List.mem_append_right _ hp)⟩
theorem off1_app {D : Addr} {A B : List (Addr × Obj)} (h : Off1 D (A ++ B)) : Off1 D A ∧ Off1 D B :=
  ⟨off1_of fun p hp => off1_mem h p (List.mem_append_left _ hp), off1_of fun p hp => off1_mem h p (List.mem_append_right _ hp)⟩
theorem rem_el {I C D : Addr} {oI oC oD : Obj} {A led : List (Addr × Obj)} (off : Off3 I C D (A ++ led)) (h : ∀ q ∈ led, Off1 q.1 A) : Rem led ((I, oI) :: (C, oC) :: (D, oD) :: (A ++ led)) ((I, oI) :: (C, oC) :: (D, oD) :: A) := by
  refine rem_app (A := (I, oI) :: (C, oC) :: (D, oD) :: A) fun q hq => ?_
  have := (off3_app off).2.mem q hq
  exact ⟨Ne.symm this.1, Ne.symm this.2.1, Ne.symm this.2.2, h q hq⟩
theorem call_end {h₀ h' : Heap} {L I C D : Addr} {m : Str → Option Value} {s₁ : Shared} {oI oC oD : Obj} {S : List (Addr × Obj) → Prop} {rest : Value → List (Addr × Obj) → Prop} {y : Value} {tk : Nat} {A led nl led' : List (Addr × Obj)}
    (F : Fr h₀ L h' m) (N : News h₀ L h' (nl ++ ((I, oI) :: (C, oC) :: (D, oD) :: A))) (hsub : ∀ p ∈ led', p ∈ nl) (off : Off3 I C D (A ++ led)) (off' : ∀ q ∈ nl, Off1 q.1 ((I, oI) :: (C, oC) :: (D, oD) :: A)) (hS : S (A ++ led'))
    (r : (∀ q ∈ led', Off1 q.1 A) → rest y (A ++ led')) : CompEnd h₀ L m s₁ I oI C oC D oD S rest y { s₁ with heap := h', toks := tk } := by
  refine ⟨h', tk, A ++ led', rfl, F, fun p hp => N p ?_, Off3.of fun p hp => ?_, hS, r fun q hq => (off' q (hsub q hq)).2.2.2⟩
  · rcases List.mem_cons.mp hp with rfl | hp
    · exact List.mem_append_right _ List.mem_cons_self
    · rcases List.mem_cons.mp hp with rfl | hp
      · exact List.mem_append_right _ (List.mem_cons_of_mem _ List.mem_cons_self)
      · rcases List.mem_cons.mp hp with rfl | hp
        · exact List.mem_append_right _ (List.mem_cons_of_mem _ (List.mem_cons_of_mem _ List.mem_cons_self))
        · rcases List.mem_append.mp hp with hp | hp
          · exact List.mem_append_right _ (List.mem_cons_of_mem _ (List.mem_cons_of_mem _ (List.mem_cons_of_mem _ hp)))
          · exact List.mem_append_left _ (hsub p hp)
  · rcases List.mem_append.mp hp with hp | hp
    · exact (off3_app off).1.mem p hp
    · have := off' p (hsub p hp)
      exact ⟨Ne.symm this.1, Ne.symm this.2.1, Ne.symm this.2.2.1⟩
inductive RJ8 (A : List (Addr × Obj)) (vals : List Int) (k i : Nat) (ys : List Value) (news : List (Addr × Obj)) : Prop
  | mk : ∀ ps qs ic io jc jo, i + k = vals.length → IntsAre ys ((vals.take i).map fun x => x.fmod 8) → Tabs ps qs ic io jc jo → (∀ q ∈ ledT ps qs ic io jc jo, Off1 q.1 A) → news = A ++ ledT ps qs ic io jc jo → RJ8 A vals k i ys news
inductive KA (z0 : Heap) (L : Addr) (m : Str → Option Value) (news : List (Addr × Obj)) : Prop
  | mk : ∀ (cs : List Nat) (c : Int) (vs : List Value) (Dv : Addr) (k : Nat) (ic jc : Addr) (io jo o1 o2 : Obj) (t1 t2 : Tok), Signs cs → (0 ≤ c ∧ c < 8) → IntsAre vs (valsF cs c) → (m (Str.ofString "values") = some (.ref Dv) ∧ m (Str.ofString "text") = some (.str (mkS cs) t1) ∧ m (Str.ofString "constant") = some (.int c t2)) → (o1.data = .cell none ∧ o2.data = .cell none) → Tabs #[] #[] ic io jc jo → (∀ q ∈ ledT #[] #[] ic io jc jo, Off1 q.1 [(Dv, PySem.W.listOf vs.toArray k), (L + 1 + 1, o1), (L + 1, o2)]) → (@LT.lt Nat _ 30 L ∧ @LT.lt Nat _ 37 L) → news = [(Dv, PySem.W.listOf vs.toArray k), (L + 1 + 1, o1), (L + 1, o2)] ++ ledT #[] #[] ic io jc jo → KA z0 L m news
inductive KB (z0 : Heap) (L : Addr) (m : Str → Option Value) (news : List (Addr × Obj)) : Prop
  | mk : ∀ (cs : List Nat) (c : Int) (us : List Value) (Dr : Addr) (k : Nat) (ps qs : Array Value) (ic jc : Addr) (io jo o1 o2 : Obj) (t1 t2 : Tok), Signs cs → (0 ≤ c ∧ c < 8) → IntsAre us (resF cs c) → (m (Str.ofString "results") = some (.ref Dr) ∧ m (Str.ofString "text") = some (.str (mkS cs) t1) ∧ m (Str.ofString "constant") = some (.int c t2)) → (o1.data = .cell none ∧ o2.data = .cell none) → Tabs ps qs ic io jc jo → (∀ q ∈ ledT ps qs ic io jc jo, Off1 q.1 [(Dr, PySem.W.listOf us.toArray k), (L + 1 + 1, o1), (L + 1, o2)]) → (@Ne Nat Dr (L + 1 + 1) ∧ @Ne Nat Dr (L + 1)) → (@LT.lt Nat _ 30 L ∧ @LT.lt Nat _ 37 L) → news = [(Dr, PySem.W.listOf us.toArray k), (L + 1 + 1, o1), (L + 1, o2)] ++ ledT ps qs ic io jc jo → KB z0 L m news
inductive KC (z0 : Heap) (L : Addr) (m : Str → Option Value) (news : List (Addr × Obj)) : Prop
  | mk : ∀ (cs : List Nat) (c : Int) (us ws : List Value) (Dr W : Addr) (k j : Nat) (ps qs : Array Value) (o1 o2 : Obj), Signs cs → (0 ≤ c ∧ c < 8) → IntsAre us (resF cs c) → TxtsAre ws ((resF cs c).map wd) → m (Str.ofString "results") = some (.ref Dr) → (o1.data = .cell none ∧ o2.data = .cell (some (.ref W))) → Off1 (L + 1 + 1) [(W, PySem.W.listOf ws.toArray j), (Dr, PySem.W.listOf us.toArray k), (L + 1, o2), (30, tabObj ps), (37, tabObj qs)] → (@LT.lt Nat _ 30 L ∧ @LT.lt Nat _ 37 L) → news = [(L + 1 + 1, o1), (W, PySem.W.listOf ws.toArray j), (Dr, PySem.W.listOf us.toArray k), (L + 1, o2), (30, tabObj ps), (37, tabObj qs)] → KC z0 L m news
section
variable {prog : Program} {w : World} {A : Around} {E : Value → Shared → Prop} {s : Shared} {h₀ : Heap} {L : Addr} {news : List (Addr × Obj)}
theorem neSame {a b : Addr} {vs us : List Value} {ns ms : List Int} {j k : Nat} {Q : Value → Shared → Prop} (N : News h₀ L s.heap news) (ha : (a, PySem.W.listOf (List.toArray vs) j) ∈ news) (hi : IntsAre vs ns) (hb : (b, PySem.W.listOf (List.toArray us) k) ∈ news) (hi' : IntsAre us ms) (he : ns = ms) (hu : A.units + 64 < cLine)
    (h : Q (.bool false) s) : wpAny (model prog w) A (compareOp .NotEq (.ref a) (.ref b)) Q E s :=
  ne_intsK (isl_at N ha) hi (isl_at N hb) hi' hu (by rw [decide_eq_true he]; exact h)
end
theorem ovB {k i : Nat} (hk : k < 3) (hi : i < 8) (h : ovP k i = true) : i + 2 ^ k < 8 := by
  have key : ∀ a : Fin 3, ∀ b : Fin 8, ovP a.val b.val = true → b.val + 2 ^ a.val < 8 := by decide +kernel
  exact key ⟨k, hk⟩ ⟨i, hi⟩ h
theorem TxtsAre.at {us : List Value} {ds : List Str} (h : TxtsAre us ds) : ∀ i, i < ds.length → ∃ t, us[i]? = some (.str (ds.getD i (Str.ofString "")) t) := by
  induction h with
  | nil => exact fun i hi => absurd hi (Nat.not_lt_zero _)
  | cons d t _ ih =>
    intro i hi
    cases i with
    | zero => exact ⟨t, rfl⟩
    | succ i => exact ih i (Nat.lt_of_succ_lt_succ hi)
section
variable {prog : Program} {w : World} {A : Around} {E : Value → Shared → Prop} {s : Shared} {h₀ : Heap} {L : Addr} {news : List (Addr × Obj)} {value slice : PySem.Expr}
theorem subW {D : Addr} {us : List Value} {rs : List Int} {z : Int} {u : Tok} {c : Nat} {Q : Value → Shared → Prop} (N : News h₀ L s.heap news) (hm : (D, PySem.W.listOf (List.toArray us) c) ∈ news) (hi : TxtsAre us (rs.map wd)) (h8 : rs.length = 8) (h0 : 0 ≤ z ∧ z < 8) (h : ∀ t, Q (.str (wd (rs.getD z.toNat 0)) t) s)
    (hs : subscripted slice false (.ref D) (.int z u) = operate [.ref D, .int z u] (getItem (.ref D) (.int z u))) :
    wpAny (model prog w) A (subscriptTail value slice (.ref D) (.int z u)) Q E s := by
  have hz : z.toNat < rs.length := by omega
  obtain ⟨t, ht⟩ := hi.at z.toNat (by rw [List.length_map]; exact hz)
  rw [List.getD_eq_getElem?_getD, List.getElem?_map, List.getElem?_eq_getElem hz] at ht
  have hl' := isl_at N hm
  refine tail_any hl'.typeIs slot_list_getitem.lookup (wpAny_getItem_list hl' h0.1 (by omega) (x := .str (wd (rs.getD z.toNat 0)) t) (by rw [List.getD_eq_getElem?_getD, List.getElem?_eq_getElem hz]; simpa using ht) (h t)) hs
end
theorem ovEq {rs : List Int} {k i n : Nat} (hn : PowIs k n) : levD (rs.getD (i : Int).toNat 0) (rs.getD ((i : Int) + (n : Int)).toNat 0) + 2 * (k : Int) - 6 = ovF rs k i := by
  unfold ovF
  rw [hn.eq, show ((i : Int) + (n : Int)).toNat = i + n from by omega, Int.toNat_natCast]
inductive KD (z0 : Heap) (L : Addr) (m : Str → Option Value) (news : List (Addr × Obj)) : Prop
  | mk : ∀ (cs : List Nat) (c : Int) (us os : List Value) (Dr D : Addr) (k j : Nat) (ps qs : Array Value) (o1 : Obj), Signs cs → (0 ≤ c ∧ c < 8) → IntsAre us (resF cs c) → IntsAre os (allC (ovF (resF cs c)) ovP 8 3) → (m (Str.ofString "results") = some (.ref Dr) ∧ m (Str.ofString "over") = some (.ref D)) → o1.data = .cell none → Off1 (L + 1 + 1) [(D, PySem.W.listOf os.toArray j), (Dr, PySem.W.listOf us.toArray k), (30, tabObj ps), (37, tabObj qs)] → (@LT.lt Nat _ 30 L ∧ @LT.lt Nat _ 37 L) → news = [(L + 1 + 1, o1), (D, PySem.W.listOf os.toArray j), (Dr, PySem.W.listOf us.toArray k), (30, tabObj ps), (37, tabObj qs)] → KD z0 L m news
section
variable {prog : Program} {w : World} {A : Around} {E : Value → Shared → Prop} {s : Shared} {h₀ : Heap} {L : Addr} {m : Str → Option Value} {news : List (Addr × Obj)}
theorem neB {a b : Bool} {Q : Value → Shared → Prop} (he : a = b) (h : Q (.bool false) s) : wpAny (model prog w) A (compareOp .NotEq (.bool a) (.bool b)) Q E s := ne_bool (by subst he; cases a <;> exact h)
theorem eqB {a b : Bool} {Q : Value → Shared → Prop} (he : a = b) (h : Q (.bool true) s) : wpAny (model prog w) A (compareOp .Eq (.bool a) (.bool b)) Q E s := eq_bool (by subst he; cases a <;> exact h)
theorem eqSame {a b : Addr} {vs us : List Value} {ns ms : List Int} {j k : Nat} {Q : Value → Shared → Prop} (N : News h₀ L s.heap news) (ha : (a, PySem.W.listOf (List.toArray vs) j) ∈ news) (hi : IntsAre vs ns) (hb : (b, PySem.W.listOf (List.toArray us) k) ∈ news) (hi' : IntsAre us ms) (he : ns = ms) (hu : A.units + 64 < cLine)
    (h : Q (.bool true) s) : wpAny (model prog w) A (compareOp .Eq (.ref a) (.ref b)) Q E s :=
  eq_intsK (isl_at N ha) hi (isl_at N hb) hi' hu (by rw [decide_eq_true he]; exact h)
theorem eqSort {a b : Addr} {vs us : List Value} {rs ns : List Int} {j k : Nat} {Q : Value → Shared → Prop} (N : News h₀ L s.heap news) (ha : (a, PySem.W.listOf (List.toArray vs) j) ∈ news) (hi : IntsAre vs ns) (hb : (b, PySem.W.listOf (List.toArray us) k) ∈ news) (hi' : IntsAre us [0, 1, 2, 3, 4, 5, 6, 7]) (so : SortOf rs ns) (hu : A.units + 64 < cLine)
    (h : Q (.bool (apartB rs)) s) : wpAny (model prog w) A (compareOp .Eq (.ref a) (.ref b)) Q E s :=
  eq_intsK (isl_at N ha) hi (isl_at N hb) hi' hu (by rw [so.eq]; exact h)
theorem maxOv {l : Addr} {vs : List Value} {rs : List Int} {j : Nat} {Q : Value → Shared → Prop} (hh : A.handled = none) (F : Fr h₀ L s.heap m) (N : News h₀ L s.heap news) (ha : (l, PySem.W.listOf (List.toArray vs) j) ∈ news) (hi : IntsAre vs (allC (ovF rs) ovP 8 3)) (g : Good rs)
    (h : ∀ h' M (t : Tok) tk, Fr h₀ L h' m → News h₀ L h' news → M ≤ 0 → Q (.int M t) { s with heap := h', toks := tk }) : wpAny (model prog w) A (call (.builtin "max") [.ref l]) Q E s :=
  max_list_N hh F N (isl_at N ha) hi (ov_len _) fun h' M t tk F' N' hM _ => h h' M t tk F' N' (g.mx M hM)
theorem minOv {l : Addr} {vs : List Value} {rs : List Int} {j : Nat} {Q : Value → Shared → Prop} (hh : A.handled = none) (F : Fr h₀ L s.heap m) (N : News h₀ L s.heap news) (ha : (l, PySem.W.listOf (List.toArray vs) j) ∈ news) (hi : IntsAre vs (allC (ovF rs) ovP 8 3)) (g : Good rs)
    (h : ∀ h' M (t : Tok) tk, Fr h₀ L h' m → News h₀ L h' news → (M == 0) = apartB rs → Q (.int M t) { s with heap := h', toks := tk }) : wpAny (model prog w) A (call (.builtin "min") [.ref l]) Q E s :=
  min_list_N hh F N (isl_at N ha) hi (ov_len _) fun h' M t tk F' N' hM hL => h h' M t tk F' N' (g.mn M hM hL)
end
inductive KZ (h₀ : Heap) (L : Addr) (m : Str → Option Value) (news : List (Addr × Obj)) : Prop
  | mk : ∀ (l : Addr) (xs : List Value) (ns : List Int) (o1 o2 : Obj), IntsAre xs ns → ns.length ≤ 63 → h₀.IsList l xs.toArray → m (Str.ofString "script") = some (.ref l) → (o1.data = .cell none ∧ o2.data = .cell none) → (@LT.lt Nat _ 37 L ∧ @LT.lt Nat _ 30 L) → news = [(L + 1 + 1, o1), (L + 1, o2), (37, tabObj #[]), (30, tabObj #[])] → KZ h₀ L m news
end
section
open PySem PySem.W PyProof.Rows
set_option compiler.extract_closed false in
set_option compiler.extract_closed false in
set_option compiler.extract_closed false in
set_option maxRecDepth 100000 in
set_option maxHeartbeats 1600000 in
theorem seg0 (w : World) (s3 : SegK w 3 KA) : SegK w 0 KZ := by
  have : Challenge.rw_re0146_01 = Challenge.rw_re0146_01 ∧ hd.heap_39 w.params = hd.heap_39 w.params := by k_fill; exact ⟨rfl, rfl⟩
  clear this
  w_top off
  k_with_none
  (k_with "k_lt" => intro kH; (try replace kH := allLt_of kH); (try replace kH := offs_of kH); (try dsimp only [AllLt, LCg.Off1, LCg.Off3, OffF, OffG, ledT] at kH); repeat (first | (have := And.left (And.left kH); have := And.left (And.right (And.left kH)); have := And.right (And.right (And.left kH)); replace kH := And.right kH) | (have := And.left kH; replace kH := And.right kH)))
  (k_with "lt:l1" => (try replace l1 := allLt_of l1); (try replace l1 := offs_of l1); (try dsimp only [AllLt, LCg.Off1, LCg.Off3, OffF, OffG, ledT] at l1); repeat (first | (have := And.left (And.left l1); have := And.left (And.right (And.left l1)); have := And.right (And.right (And.left l1)); replace l1 := And.right l1) | (have := And.left l1; replace l1 := And.right l1)))
  (k_with "lt:off'" => (try replace off' := allLt_of off'); (try replace off' := offs_of off'); (try dsimp only [AllLt, LCg.Off1, LCg.Off3, OffF, OffG, ledT] at off'); repeat (first | (have := And.left (And.left off'); have := And.left (And.right (And.left off')); have := And.right (And.right (And.left off')); replace off' := And.right off') | (have := And.left off'; replace off' := And.right off')))
  (k_with "lt:kc9" => (try replace kc9 := allLt_of kc9); (try replace kc9 := offs_of kc9); (try dsimp only [AllLt, LCg.Off1, LCg.Off3, OffF, OffG, ledT] at kc9); repeat (first | (have := And.left (And.left kc9); have := And.left (And.right (And.left kc9)); have := And.right (And.right (And.left kc9)); replace kc9 := And.right kc9) | (have := And.left kc9; replace kc9 := And.right kc9)))
  (k_with "k_ne" => refine neN ?_; first | (with_reducible first | assumption | exact Ne.symm (by assumption) | exact Nat.ne_of_lt (by assumption) | exact Ne.symm (Nat.ne_of_lt (by assumption))) | ((try dsimp only); first | ((iterate 2 (first | done | with_reducible (first | exact cN1 _ | exact cN2 _ | exact cN3 _ | exact cL1 (by assumption) | exact cL2 (by assumption) | exact cL3 (by assumption) | exact cL4 (by assumption)) | exact Nat.ne_of_beq_eq_false rfl | refine Ne.symm ?_)); done) | ((iterate 4 (first | done | (with_reducible rename (@Ne Nat _ _) ∧ _ => kc9; (k_extra "lt:kc9"); with_reducible first | assumption | exact Ne.symm (by assumption)) | (with_reducible rename (@Ne Nat _ _) ∧ _ => kc9; clear kc9))); done) | omega))
  refine SegK.intro (by with_unfolding_all rfl) (by rfl) ?_
  rintro h₀ L h₁ m news gn dr tk os E fa cd ⟨l, xs, ns, o1, o2, hI, hlen, hl, hm, ⟨d1, d2⟩, ⟨hl1, hl2⟩, rfl⟩ G F N
  rw [hold hm] at F
  obtain ⟨A₀, base, B, X, p, loose, mean, mg, mb, T, H⟩ := id G
  (k_with "execs cons" => k_here; (with_reducible rename Fr _ _ _ _ => lF); (let lm := mOf lF); (have F' : Fr _ _ _ lm := lF); (with_reducible refine wpAny_execs_cons ?_); (try dsimp only); (try k_fold))
  (k_with "call ref" => k_here; k_dflt (refine Con.use (text_c _ _ _ _ hI hlen) G (by k_asm) (by k_asm) (by kcj_all) (rem_all _) (lift_list hl (Fr.keep (by k_asm))) rfl rfl rfl rfl (Nat.le_of_ble_eq_true rfl) (Nat.le_of_ble_eq_true rfl) ?_); (intro v' nl' h' tk' hr' F' N' off'); k_dflt (obtain ⟨cs, t1', hv', hsg, hnl'⟩ := hr'); (subst hv' hnl'); (dsimp only [List.nil_append] at N'); clear off')
  (k_with "storeName" => k_here; (with_reducible show wpAny _ _ (storeName _ (Str.ofString "constant") (Value.int (Int.fmod _ 8) _)) _ _ _); k_dflt (refine genC (P := fun c => wpAny _ _ (storeName _ _ (Value.int c _)) _ _ _) _ ?_); intro c hc0 hc1)
  (k_with "call ref" => k_here; k_dflt (refine Con.useN (cut_c _ _ _ (Nat.le_trans (by decide) hsg.1) hsg.2.1 hsg.2.2) G (by k_asm) (by k_asm) trivial rfl rfl rfl rfl (Nat.le_of_ble_eq_true rfl) (Nat.le_of_ble_eq_true rfl) ?_); intro D' us' k' h' tk' hcut F' N' off'; k_extra "lt:off'")
  (k_with "binaryOp Add ref ref" => k_here; (with_reducible rename News _ _ _ _ => lN'); (have hcl := cutF_len 8 cs); k_dflt (refine addI (by k_asm) lN' (by k_mem) (by k_mem) (by first | assumption | exact ints1 _ _) (by first | assumption | exact ints2 _ _ _ _) (by simp only [List.length_cons, List.length_nil, List.length_append]; omega) ?_); clear lN' hcl; intro D' us' h' F' N' l1 hI'; k_extra "lt:l1")
  (k_with "call ref" => k_here; (with_reducible rename News _ _ _ _ => lN'); (have hIL := isl_at lN' List.mem_cons_self); k_dflt (refine Con.useN (run_c _ _ _ _ (by assumption) (okS_all hc0 hc1 hsg.2.2)) G (by k_asm) (by k_asm) hIL rfl rfl rfl rfl (Nat.le_of_ble_eq_true rfl) (Nat.le_of_ble_eq_true rfl) ?_); clear hIL lN'; intro D' us' k' h' tk' hvals F' N' off'; k_extra "lt:off'")
  (k_with "execs cons" => (with_reducible show wpAny _ _ (execs (Stmt.Assign [PySem.Expr.Name (Str.ofString "results") _] _ _ :: _) _) _ _ _); (with_reducible refine Stop.mk ?_))
  k_steps
  rename Fr _ _ _ _ => F1
  rename News _ _ _ _ => N1
  have N2 := ledIn (o1 := o1) (o2 := o2) N1 (by kcj_all)
  dsimp only at N2
  refine Stop.un (s3.use (by with_unfolding_all rfl) (by rfl) ⟨cs, c, _, _, _, _, _, _, _, _, _, _, _, hsg, ⟨hc0, hc1⟩, hvals, ⟨by rfl, by rfl, by rfl⟩, ⟨d1, d2⟩, ⟨.empty (by k_ne), .empty (by k_ne), by k_ne, by k_ne, by k_ne, by k_ne, by k_ne⟩, List.forall_mem_cons.mpr ⟨⟨by k_ne, by k_ne, by k_ne, trivial⟩, List.forall_mem_cons.mpr ⟨⟨by k_ne, by k_ne, by k_ne, trivial⟩, List.forall_mem_cons.mpr ⟨⟨by k_ne, by k_ne, by k_ne, trivial⟩, List.forall_mem_cons.mpr ⟨⟨by k_ne, by k_ne, by k_ne, trivial⟩, List.forall_mem_nil _⟩⟩⟩⟩, ⟨hl2, hl1⟩, rfl⟩ G F1 N2)
end
section
open PySem PySem.W PyProof.Rows
set_option compiler.extract_closed false in
set_option compiler.extract_closed false in
set_option compiler.extract_closed false in
set_option maxRecDepth 100000 in
set_option maxHeartbeats 1200000 in
theorem seg3 (w : World) (s4 : SegK w 4 KB) : SegK w 3 KA := by
  have : Challenge.rw_re0146_01 = Challenge.rw_re0146_01 ∧ hd.heap_39 w.params = hd.heap_39 w.params := by k_fill; exact ⟨rfl, rfl⟩
  clear this
  w_top off
  k_with_none
  (k_with "k_lt" => intro kH; (try replace kH := allLt_of kH); (try replace kH := offs_of kH); (try dsimp only [AllLt, LCg.Off1, LCg.Off3, OffF, OffG, ledT] at kH); repeat (first | (have := And.left (And.left kH); have := And.left (And.right (And.left kH)); have := And.right (And.right (And.left kH)); replace kH := And.right kH) | (have := And.left kH; replace kH := And.right kH)))
  (k_with "lt:kc9" => (try replace kc9 := allLt_of kc9); (try replace kc9 := offs_of kc9); (try dsimp only [AllLt, LCg.Off1, LCg.Off3, OffF, OffG, ledT] at kc9); repeat (first | (have := And.left (And.left kc9); have := And.left (And.right (And.left kc9)); have := And.right (And.right (And.left kc9)); replace kc9 := And.right kc9) | (have := And.left kc9; replace kc9 := And.right kc9)))
  (k_with "k_ne" => refine neN ?_; first | (with_reducible first | assumption | exact Ne.symm (by assumption) | exact Nat.ne_of_lt (by assumption) | exact Ne.symm (Nat.ne_of_lt (by assumption))) | ((try dsimp only); first | ((iterate 2 (first | done | with_reducible (first | exact cN1 _ | exact cN2 _ | exact cN3 _ | exact cL1 (by assumption) | exact cL2 (by assumption) | exact cL3 (by assumption) | exact cL4 (by assumption)) | exact Nat.ne_of_beq_eq_false rfl | refine Ne.symm ?_)); done) | ((iterate 4 (first | done | (with_reducible rename (@Ne Nat _ _) ∧ _ => kc9; (k_extra "lt:kc9"); with_reducible first | assumption | exact Ne.symm (by assumption)) | (with_reducible rename (@Ne Nat _ _) ∧ _ => kc9; clear kc9))); done) | omega))
  refine SegK.intro (by with_unfolding_all rfl) (by rfl) ?_
  rintro h₀ L h m news gn dr tk os E fa cd ⟨cs, c, vs, Dv, k, ic, jc, io, jo, o1, o2, t1, t2, hsg, ⟨hc0, hc1⟩, hvs, ⟨mv, mt, mc⟩, ⟨d1, d2⟩, hT, hap, ⟨hl2, hl1⟩, rfl⟩ G F N
  obtain ⟨hv8, hvb⟩ := valsB (cs := cs) (c := c) hc0 hsg.2.2
  rw [hold mv, hold mt, hold mc] at F
  obtain ⟨A₀, base, B, X, p, loose, mean, mg, mb, T, H⟩ := id G
  (k_with "execs cons" => k_here; (with_reducible rename Fr _ _ _ _ => lF); (let lm := mOf lF); (have F' : Fr _ _ _ lm := lF); (with_reducible refine wpAny_execs_cons ?_); (try dsimp only); (try k_fold))
  (k_with "execs cons" => k_here; (with_reducible show wpAny _ _ (execs (Stmt.If _ _ _ _ :: _) _) _ _ _); (with_reducible refine Stop.mk ?_))
  (k_with "CompSrc" => (with_reducible refine Stop.mk ?_))
  (k_with "call ref" => (with_reducible refine Stop.mk ?_))
  (k_with "CompEnd" => (with_reducible refine Stop.mk ?_))
  k_steps
  rename Fr _ _ _ _ => F1
  rename News _ _ _ _ => N1
  refine Stop.un ?_
  refine LCg.CompSrc.ledger (its := vs.toArray) (k := k) (news := [(Dv, PySem.W.listOf vs.toArray k), (L + 1 + 1, o1), (L + 1, o2)] ++ ledT #[] #[] ic io jc jo) rfl F1 N1 List.mem_cons_self ?size fun g => ?cr
  case size => rw [PySem.sizeLine_eq, List.size_toArray, hvs.length, hv8]; decide
  case cr =>
    refine CompRest.by (RJ8 [(Dv, PySem.W.listOf vs.toArray k), (L + 1 + 1, o1), (L + 1, o2)] (valsF cs c)) ?h0 ?hs _ 0 [] _ ⟨#[], #[], ic, io, jc, jo, by rw [List.size_toArray, hvs.length, Nat.zero_add], .nil, hT, hap, rfl⟩
    all_goals clear F1 N1 hT hap
    case h0 =>
      rintro i ys news ⟨ps, qs, ic, io, jc, jo, hi, hys, hT, hap, rfl⟩
      intro D h tk F N off
      rw [List.take_of_length_le (i := i) (Nat.le_of_eq hi.symm)] at hys
      k_steps
      have ha := off1_app off
      refine Stop.un ((s4).use (by with_unfolding_all rfl) (by rfl) ⟨cs, c, ys, D, ys.length, ps, qs, ic, jc, io, jo, o1, o2, t1, t2, hsg, ⟨hc0, hc1⟩, hys, ⟨rfl, by rfl, by rfl⟩, ⟨d1, d2⟩, hT, fun q hq => ⟨Ne.symm (off1_mem ha.2 q hq), (hap q hq).2⟩, ⟨Ne.symm ha.1.2.1, Ne.symm ha.1.2.2.1⟩, ⟨hl2, hl1⟩, rfl⟩ G F (cb_drop N fun q hq => ?_))
      rcases List.mem_cons.mp hq with rfl | hq
      · exact List.mem_cons_self
      · exact List.mem_cons_of_mem _ (List.mem_cons_of_mem _ hq)
    case hs =>
      rintro q i ys news ⟨ps, qs, ic, io, jc, jo, hi, hys, hT, hap, rfl⟩ v I oI C oC D m₂ h tk E' hP hoC hx F N off ne
      obtain ⟨x, t, rfl, hxi⟩ := IntsAre.at hvs i v (by simpa using hP)
      have hxb := hvb x (List.mem_of_getElem? hxi)
      k_steps
      refine Stop.un (Con.use (idm_c w x _ _ hxb.1 hxb.2 ps qs ic jc io jo hT) G F N (fun p hp => List.mem_cons_of_mem _ (List.mem_cons_of_mem _ (List.mem_cons_of_mem _ (List.mem_append_right _ hp)))) (rem_el off hap) trivial rfl rfl rfl rfl (Nat.le_of_ble_eq_true rfl) (Nat.le_of_ble_eq_true rfl) ?_)
      rintro _ _ h' tk' ⟨D', z, y, t1', t2', k', ps', qs', ic', io', jc', jo', rfl, rfl, rfl, hT', ho'⟩ F' N' off'
      have N1 := N'
      dsimp only [ledT, List.cons_append, List.nil_append] at N1
      clear N F
      k_steps
      refine Stop.un (call_end (by k_asm) N' (led' := ledT ps' qs' ic' io' jc' jo') (fun p hp => List.mem_cons_of_mem _ hp) off off' (src_in (List.mem_append_left _ List.mem_cons_self)) fun hap' => ⟨ps', qs', ic', io', jc', jo', by rw [Nat.add_right_comm]; exact hi, DJ8_next hys hxi, hT', hap', rfl⟩)
end
section
open PySem PySem.W PyProof.Rows
set_option compiler.extract_closed false in
set_option compiler.extract_closed false in
set_option compiler.extract_closed false in
set_option maxRecDepth 100000 in
set_option maxHeartbeats 1200000 in
theorem seg4 (w : World) (s6 : SegK w 6 KC) : SegK w 4 KB := by
  have : Challenge.rw_re0146_01 = Challenge.rw_re0146_01 ∧ hd.heap_39 w.params = hd.heap_39 w.params := by k_fill; exact ⟨rfl, rfl⟩
  clear this
  w_top off
  k_with_none
  (k_with "k_lt" => intro kH; (try replace kH := allLt_of kH); (try replace kH := offs_of kH); (try dsimp only [AllLt, LCg.Off1, LCg.Off3, OffF, OffG, ledT] at kH); repeat (first | (have := And.left (And.left kH); have := And.left (And.right (And.left kH)); have := And.right (And.right (And.left kH)); replace kH := And.right kH) | (have := And.left kH; replace kH := And.right kH)))
  (k_with "lt:off'" => (try replace off' := allLt_of off'); (try replace off' := offs_of off'); (try dsimp only [AllLt, LCg.Off1, LCg.Off3, OffF, OffG, ledT] at off'); repeat (first | (have := And.left (And.left off'); have := And.left (And.right (And.left off')); have := And.right (And.right (And.left off')); replace off' := And.right off') | (have := And.left off'; replace off' := And.right off')))
  (k_with "lt:kc9" => (try replace kc9 := allLt_of kc9); (try replace kc9 := offs_of kc9); (try dsimp only [AllLt, LCg.Off1, LCg.Off3, OffF, OffG, ledT] at kc9); repeat (first | (have := And.left (And.left kc9); have := And.left (And.right (And.left kc9)); have := And.right (And.right (And.left kc9)); replace kc9 := And.right kc9) | (have := And.left kc9; replace kc9 := And.right kc9)))
  (k_with "k_ne" => refine neN ?_; first | (with_reducible first | assumption | exact Ne.symm (by assumption) | exact Nat.ne_of_lt (by assumption) | exact Ne.symm (Nat.ne_of_lt (by assumption))) | ((try dsimp only); first | ((iterate 2 (first | done | with_reducible (first | exact cN1 _ | exact cN2 _ | exact cN3 _ | exact cL1 (by assumption) | exact cL2 (by assumption) | exact cL3 (by assumption) | exact cL4 (by assumption)) | exact Nat.ne_of_beq_eq_false rfl | refine Ne.symm ?_)); done) | ((iterate 4 (first | done | (with_reducible rename (@Ne Nat _ _) ∧ _ => kc9; (k_extra "lt:kc9"); with_reducible first | assumption | exact Ne.symm (by assumption)) | (with_reducible rename (@Ne Nat _ _) ∧ _ => kc9; clear kc9))); done) | omega))
  refine SegK.intro (by with_unfolding_all rfl) (by rfl) ?_
  rintro h₀ L h m news gn dr tk os E fa cd ⟨cs, c, us, Dr, k, ps, qs, ic, jc, io, jo, o1, o2, t1, t2, hsg, ⟨hc0, hc1⟩, hus, ⟨mr, mt, mc⟩, ⟨d1, d2⟩, hT, hap, ⟨hn1, hn2⟩, ⟨hl2, hl1⟩, rfl⟩ G F N
  have hsm := resSmall hc0 hsg
  rw [hold mr, hold mt, hold mc] at F
  dsimp only [ledT, List.cons_append, List.nil_append] at N
  obtain ⟨A₀, base, B, X, p, loose, mean, mg, mb, T, H⟩ := id G
  (k_with "execs cons" => k_here; (with_reducible rename Fr _ _ _ _ => lF); (let lm := mOf lF); (have F' : Fr _ _ _ lm := lF); (with_reducible refine wpAny_execs_cons ?_); (try dsimp only); (try k_fold))
  (k_with "call ref" => (with_reducible refine Stop.mk ?_))
  (k_with "call ref" => k_here; k_dflt (refine Con.useN (plain_c w cs c _ _ (Nat.le_trans (by decide) hsg.1) hsg.2.1 hsg.2.2 hc0 hc1) G (by k_asm) (by k_asm) trivial rfl rfl rfl rfl (Nat.le_of_ble_eq_true rfl) (Nat.le_of_ble_eq_true rfl) ?_); intro D' us' k' h' tk' hpl F' N' off'; k_extra "lt:off'")
  (k_with "compareOp NotEq ref ref" => k_here; k_dflt (refine neSame (by k_asm) (by k_mem) hus (by k_mem) hpl (plain_eq hc0 hc1 hsg) (by exact Nat.le_of_ble_eq_true rfl) ?_))
  (k_with "execs cons" => k_here; (with_reducible show wpAny _ _ (execs (Stmt.Assign [PySem.Expr.Name (Str.ofString "over") _] _ _ :: _) _) _ _ _); (with_reducible refine Stop.mk ?_))
  k_steps
  have p30 := hap _ List.mem_cons_self
  have pic := hap _ (List.mem_cons_of_mem _ List.mem_cons_self)
  have p37 := hap _ (List.mem_cons_of_mem _ (List.mem_cons_of_mem _ List.mem_cons_self))
  have N1 : News h₀ L h' ([(L + 1 + 1, o1), (L + 1, o2), (37, tabObj qs)] ++ [(Dr, PySem.W.listOf us.toArray k), (30, tabObj ps), (ic, io)]) := cb_drop N' (by kcj_all)
  refine Stop.un (Con.use (words_c w Dr p30.1 _ k us (resF cs c) rfl rfl hus hsm ps ic io pic.1 hT.i) G (by k_asm) N1 (fun p hp => List.mem_append_right _ hp) (rem_app (List.forall_mem_cons.mpr ⟨⟨Ne.symm hn1, Ne.symm hn2, Ne.symm p37.1, trivial⟩, List.forall_mem_cons.mpr ⟨⟨p30.2.1, p30.2.2.1, Nat.ne_of_beq_eq_false rfl, trivial⟩, List.forall_mem_cons.mpr ⟨⟨pic.2.1, pic.2.2.1, Ne.symm hT.a, trivial⟩, List.forall_mem_nil _⟩⟩⟩)) trivial rfl rfl rfl rfl (Nat.le_of_ble_eq_true rfl) (Nat.le_of_ble_eq_true rfl) ?_)
  clear N1 N' N F
  rintro _ _ h' tk' ⟨D, ws, n, ps', ic', io', rfl, rfl, hws, hst, hoD, hne⟩ F1 N1 off'
  have hD := off' _ List.mem_cons_self
  have hD1 : @Ne Nat (L + 1 + 1) D := hD.1
  have hD2 : @Ne Nat (L + 1) D := hD.2.1
  have N2 : News h₀ L h' [(L + 1, o2), (L + 1 + 1, o1), (D, PySem.W.listOf (List.toArray ws) n), (Dr, PySem.W.listOf us.toArray k), (30, tabObj ps'), (37, tabObj qs)] := cb_drop N1 (by kcj_all)
  clear N1
  clear off' p30 pic p37 hD hap
  k_steps
  refine Stop.un (s6.use (by with_unfolding_all rfl) (by rfl) ⟨cs, c, us, ws, Dr, D, k, n, ps', qs, o1, _, hsg, ⟨hc0, hc1⟩, hus, hws, rfl, ⟨d1, by assumption⟩, ⟨Ne.symm hD1, hn1, by k_ne, by k_ne, by k_ne, trivial⟩, ⟨hl2, hl1⟩, rfl⟩ G (by k_asm) (cb_drop (by k_asm) (by kcj_all)))
end
section
open PySem PySem.W PyProof.Rows
set_option compiler.extract_closed false in
set_option compiler.extract_closed false in
set_option compiler.extract_closed false in
set_option maxRecDepth 100000 in
set_option maxHeartbeats 1200000 in
theorem seg6 (w : World) (s7 : SegK w 7 KD) : SegK w 6 KC := by
  have : Challenge.rw_re0146_01 = Challenge.rw_re0146_01 ∧ hd.heap_39 w.params = hd.heap_39 w.params := by k_fill; exact ⟨rfl, rfl⟩
  clear this
  w_top off
  k_with_none
  (k_with "k_lt" => intro kH; (try replace kH := allLt_of kH); (try replace kH := offs_of kH); (try dsimp only [AllLt, LCg.Off1, LCg.Off3, OffF, OffG, ledT] at kH); repeat (first | (have := And.left (And.left kH); have := And.left (And.right (And.left kH)); have := And.right (And.right (And.left kH)); replace kH := And.right kH) | (have := And.left kH; replace kH := And.right kH)))
  (k_with "lt:dn" => (try replace dn := allLt_of dn); (try replace dn := offs_of dn); (try dsimp only [AllLt, LCg.Off1, LCg.Off3, OffF, OffG, ledT] at dn); repeat (first | (have := And.left (And.left dn); have := And.left (And.right (And.left dn)); have := And.right (And.right (And.left dn)); replace dn := And.right dn) | (have := And.left dn; replace dn := And.right dn)))
  (k_with "lt:kc9" => (try replace kc9 := allLt_of kc9); (try replace kc9 := offs_of kc9); (try dsimp only [AllLt, LCg.Off1, LCg.Off3, OffF, OffG, ledT] at kc9); repeat (first | (have := And.left (And.left kc9); have := And.left (And.right (And.left kc9)); have := And.right (And.right (And.left kc9)); replace kc9 := And.right kc9) | (have := And.left kc9; replace kc9 := And.right kc9)))
  (k_with "k_ne" => refine neN ?_; first | (with_reducible first | assumption | exact Ne.symm (by assumption) | exact Nat.ne_of_lt (by assumption) | exact Ne.symm (Nat.ne_of_lt (by assumption))) | ((try dsimp only); first | ((iterate 2 (first | done | with_reducible (first | exact cN1 _ | exact cN2 _ | exact cN3 _ | exact cL1 (by assumption) | exact cL2 (by assumption) | exact cL3 (by assumption) | exact cL4 (by assumption)) | exact Nat.ne_of_beq_eq_false rfl | refine Ne.symm ?_)); done) | ((iterate 4 (first | done | (with_reducible rename (@Ne Nat _ _) ∧ _ => kc9; (k_extra "lt:kc9"); with_reducible first | assumption | exact Ne.symm (by assumption)) | (with_reducible rename (@Ne Nat _ _) ∧ _ => kc9; clear kc9))); done) | omega))
  refine SegK.intro (by with_unfolding_all rfl) (by rfl) ?_
  rintro h₀ L h m news gn dr tk os E fa cd ⟨cs, c, us, ws, Dr, W, k, j, ps, qs, o1, o2, hsg, ⟨hc0, hc1⟩, hus, hws, mr, ⟨d1, d2⟩, hof, ⟨hl2, hl1⟩, rfl⟩ G F N
  have hsm := resSmall hc0 hsg
  have h8 := hsm.1
  rw [hold mr] at F
  obtain ⟨A₀, base, B, X, p, loose, mean, mg, mb, T, H⟩ := id G
  (k_with "execs cons" => k_here; (with_reducible rename Fr _ _ _ _ => lF); (let lm := mOf lF); (have F' : Fr _ _ _ lm := lF); (with_reducible refine wpAny_execs_cons ?_); (try dsimp only); (try k_fold))
  (k_with "execs cons" => k_here; (with_reducible show wpAny _ _ (execs (Stmt.Assign [PySem.Expr.Name (Str.ofString "apart") _] _ _ :: _) _) _ _ _); (with_reducible refine Stop.mk ?_))
  (k_with "exec Assign cons ListComp" => k_here; k_dflt (refine ListComp_2 (by k_asm) (by rfl) (by with_unfolding_all rfl) (by with_unfolding_all rfl) (by decide) (by rfl) (by decide) (by rfl) (by rfl) (by decide) (by rfl) (by rfl) ?_ (by intro _; with_unfolding_all rfl) (by intro _ _; with_unfolding_all rfl)))
  (k_with "SrcQ" => (with_reducible refine Stop.mk ?_))
  k_steps
  rename Fr _ _ _ _ => F1
  rename News _ _ _ _ => N1
  refine Stop.un ⟨_, _, 3, 8, _, _, _, _, ovF (resF cs c), ovP, rfl, F1, N1, by assumption, ⟨by decide +kernel, by decide +kernel⟩, ⟨by decide +kernel, by decide +kernel⟩, by rw [PySem.sizeLine_eq]; decide, fun I D C dn e1 e2 => ⟨?_, ?_, ?_, ?_⟩⟩
  all_goals clear F1 N1
  all_goals k_extra "lt:dn"
  rotate_left 3
  · intro vus h' tk' hov F' N'
    k_steps
    exact Stop.un (s7.use (by with_unfolding_all rfl) (by rfl) ⟨cs, c, us, vus, Dr, D, k, _, ps, qs, o1, hsg, ⟨hc0, hc1⟩, hus, hov, ⟨rfl, rfl⟩, d1, ⟨by k_ne, hof.2.1, hof.2.2.2.1, hof.2.2.2.2.1, trivial⟩, ⟨hl2, hl1⟩, rfl⟩ G (by k_asm) (cb_drop (by k_asm) (by kcj_all)))
  · intro oI oC vus h' tk' E' F' N'
    (k_with "EndIter" => (with_reducible refine Stop.mk ?_))
    k_steps
    exact Stop.un ⟨⟨_, _, rfl, by k_asm, cb_drop (by k_asm) (by kcj_all)⟩, _, _, _, _, rfl, by assumption⟩
  · intro q i I2 o2 oI oC m₂ vus tq ti h' tk' E' hq hi l2 hoC hk hx F' N'
    obtain ⟨n, hn, z1, z2, hp3, hp4⟩ := pw2 q hq; clear z1 z2
    (k_with "EndTest" => (with_reducible refine Stop.mk ?_))
    (k_with "binaryOp Pow int int" => k_here; k_dflt (refine powR hq hn ?_); intro _ _)
    (k_with "binaryOp FloorDiv int int" => k_here; k_dflt (refine fdvR hp4 hp3 (Int.natCast_nonneg _) (i8 (by assumption)).2 ?_); intro _ _)
    k_steps
    exact Stop.un ⟨by rw [ovP, hn.eq]; rfl, _, _, rfl, by k_asm, cb_drop (by k_asm) (by kcj_all)⟩
  · intro q i I2 o2 oI oC m₂ vus tq ti h' tk' E' hq hi hp l2 hoC hk hx F' N'
    obtain ⟨n, hn, z1, z2, hp3, hp4⟩ := pw2 q hq; clear z1 z2
    have hin := ovB hq hi hp
    (k_with "binaryOp Mult int int" => refine PyProof.Rows.mul_int ?_ (by first | exact .of_left bl2 | mul_fits))
    rw [hn.eq] at hin
    (k_with "EndElt" => (with_reducible refine Stop.mk ?_))
    (k_with "binaryOp Pow int int" => k_here; k_dflt (refine powR hq hn ?_); intro _ _)
    (k_with "subscriptTail Name Name ref int" => k_here; k_dflt (refine subW (by k_asm) (by k_mem) hws h8 (by first | exact i8 (by assumption) | omega) ?_ (by with_unfolding_all rfl)); intro _)
    (k_with "subscriptTail Name BinOp ref int" => k_here; k_dflt (refine subW (by k_asm) (by k_mem) hws h8 (by first | exact i8 (by assumption) | omega) ?_ (by with_unfolding_all rfl)); intro _)
    (k_with "call ref" => k_here; k_dflt (refine Con.useZ (lev_wd w _ _ _ _ _ (small_at hsm _).1 (small_at hsm _).2 (small_at hsm _).1 (small_at hsm _).2) G (by k_asm) (by k_asm) trivial rfl rfl rfl rfl (Nat.le_of_ble_eq_true rfl) (Nat.le_of_ble_eq_true rfl) ?_); intro t1' h' tk' F' N')
    k_steps
    exact Stop.un ⟨⟨_, congrArg (fun z => Value.int z _) (ovEq hn)⟩, _, _, rfl, by k_asm, cb_drop (by k_asm) (by kcj_all)⟩
end
section
open PySem PySem.W PyProof.Rows
set_option compiler.extract_closed false in
set_option compiler.extract_closed false in
set_option compiler.extract_closed false in
set_option maxRecDepth 100000 in
set_option maxHeartbeats 1200000 in
theorem seg7 (w : World) : SegK w 7 KD := by
  have : Challenge.rw_re0146_01 = Challenge.rw_re0146_01 ∧ hd.heap_39 w.params = hd.heap_39 w.params := by k_fill; exact ⟨rfl, rfl⟩
  clear this
  w_top off
  k_with_none
  (k_with "k_lt" => intro kH; (try replace kH := allLt_of kH); (try replace kH := offs_of kH); (try dsimp only [AllLt, LCg.Off1, LCg.Off3, OffF, OffG, ledT] at kH); repeat (first | (have := And.left (And.left kH); have := And.left (And.right (And.left kH)); have := And.right (And.right (And.left kH)); replace kH := And.right kH) | (have := And.left kH; replace kH := And.right kH)))
  (k_with "lt:l1" => (try replace l1 := allLt_of l1); (try replace l1 := offs_of l1); (try dsimp only [AllLt, LCg.Off1, LCg.Off3, OffF, OffG, ledT] at l1); repeat (first | (have := And.left (And.left l1); have := And.left (And.right (And.left l1)); have := And.right (And.right (And.left l1)); replace l1 := And.right l1) | (have := And.left l1; replace l1 := And.right l1)))
  (k_with "lt:ne'" => (try replace ne' := allLt_of ne'); (try replace ne' := offs_of ne'); (try dsimp only [AllLt, LCg.Off1, LCg.Off3, OffF, OffG, ledT] at ne'); repeat (first | (have := And.left (And.left ne'); have := And.left (And.right (And.left ne')); have := And.right (And.right (And.left ne')); replace ne' := And.right ne') | (have := And.left ne'; replace ne' := And.right ne')))
  (k_with "lt:off'" => (try replace off' := allLt_of off'); (try replace off' := offs_of off'); (try dsimp only [AllLt, LCg.Off1, LCg.Off3, OffF, OffG, ledT] at off'); repeat (first | (have := And.left (And.left off'); have := And.left (And.right (And.left off')); have := And.right (And.right (And.left off')); replace off' := And.right off') | (have := And.left off'; replace off' := And.right off')))
  (k_with "lt:kc9" => (try replace kc9 := allLt_of kc9); (try replace kc9 := offs_of kc9); (try dsimp only [AllLt, LCg.Off1, LCg.Off3, OffF, OffG, ledT] at kc9); repeat (first | (have := And.left (And.left kc9); have := And.left (And.right (And.left kc9)); have := And.right (And.right (And.left kc9)); replace kc9 := And.right kc9) | (have := And.left kc9; replace kc9 := And.right kc9)))
  (k_with "k_ne" => refine neN ?_; first | (with_reducible first | assumption | exact Ne.symm (by assumption) | exact Nat.ne_of_lt (by assumption) | exact Ne.symm (Nat.ne_of_lt (by assumption))) | ((try dsimp only); first | ((iterate 2 (first | done | with_reducible (first | exact cN1 _ | exact cN2 _ | exact cN3 _ | exact cL1 (by assumption) | exact cL2 (by assumption) | exact cL3 (by assumption) | exact cL4 (by assumption)) | exact Nat.ne_of_beq_eq_false rfl | refine Ne.symm ?_)); done) | ((iterate 4 (first | done | (with_reducible rename (@Ne Nat _ _) ∧ _ => kc9; (k_extra "lt:kc9"); with_reducible first | assumption | exact Ne.symm (by assumption)) | (with_reducible rename (@Ne Nat _ _) ∧ _ => kc9; clear kc9))); done) | omega))
  refine SegK.intro (by with_unfolding_all rfl) (by rfl) ?_
  rintro h₀ L h m news gn dr tk os E fa cd ⟨cs, c, us, ws, Dr, W, k, j, ps, qs, o1, hsg, ⟨hc0, hc1⟩, hus, hws, ⟨mr, mo⟩, d1, hof, ⟨hl2, hl1⟩, rfl⟩ G F N
  have hsm := resSmall hc0 hsg
  have hgd := resGood hc0 hc1 hsg
  have h8 := hsm.1
  have hE : Small (again (again (again (resF cs c)))) := small_step (small_step (small_step hsm))
  rw [hold mr, hold mo] at F
  obtain ⟨A₀, base, B, X, p, loose, mean, mg, mb, T, H⟩ := id G
  have hof1 : @Ne Nat W (L + 1 + 1) := hof.1
  have hof2 : @Ne Nat Dr (L + 1 + 1) := hof.2.1
  (k_with "execs cons" => k_here; (with_reducible rename Fr _ _ _ _ => lF); (let lm := mOf lF); (have F' : Fr _ _ _ lm := lF); (with_reducible refine wpAny_execs_cons ?_); (try dsimp only); (try k_fold))
  (k_with "call builtin:sorted" => k_here; (with_reducible rename News _ _ _ _ => lN'); k_dflt (refine sortedI (by k_asm) lN' (isl_at lN' (by k_mem)) hus (by rw [h8]; decide) ?_); clear lN'; intro D' v' n' c' h' F' N' l1 i' so'; (try k_extra "lt:l1"))
  (k_with "call type:list" => k_here; (with_unfolding_all refine list8 (by rfl) (by k_asm) (by k_asm) (by assumption) ?_); intro D' vs' c' h' tk' F' N' l1 hI'; (try k_extra "lt:l1"))
  (k_with "compareOp Eq ref ref" => k_here; k_dflt (refine eqSort (by k_asm) (by k_mem) (by assumption) (by k_mem) (by assumption) (by assumption) (by exact Nat.le_of_ble_eq_true rfl) ?_))
  (k_with "call ref" => k_here; (with_reducible rename News _ _ _ _ => lN'); k_dflt (refine Con.useL (eight_c w Dr us _ hus hsm) G (by k_asm) lN' (isl_at lN' (by k_mem)) rfl rfl rfl rfl (Nat.le_of_ble_eq_true rfl) (Nat.le_of_ble_eq_true rfl) ?_); clear lN'; intro D' us' k' h' tk' hei F' N' off'; k_extra "lt:off'")
  (k_with "call builtin:max" => k_here; k_dflt (refine maxOv (by rfl) (by k_asm) (by k_asm) (by k_mem) hws hgd ?_); intro h' M' t' tk' F' N' hM')
  (k_with "call builtin:min" => k_here; k_dflt (refine minOv (by rfl) (by k_asm) (by k_asm) (by k_mem) hws hgd ?_); intro h' M' t' tk' F' N' hM')
  (k_with "compareOp NotEq bool bool" => k_here; k_dflt (refine neB (by assumption) ?_))
  (k_with "CompSrc" => k_here; k_dflt (refine LCg.CompSrc.ledger (by rfl) (by k_asm) (by k_asm) (by k_mem) (by rw [PySem.sizeLine_eq, List.size_toArray, hei.length, hE.1]; decide) ?_); intro g'; k_dflt (refine kcf_list (fun x => (again (again (again (resF cs c)))).getD x.toNat 0) hei (fun k' t' I' oI' C' oC' D' m' ys' h' tk' E' hk' hC' hx' F' N' off' ne' hMark' => ?_) ?_); (all_goals (try (k_extra "lt:off'"; k_extra "lt:ne'"))); kcf_last)
  (k_with "subscriptTail Name Name ref int" => k_here; k_dflt (refine sub8 (by k_asm) (by k_asm) (src_in (by k_mem)) hei hE (by exact small_mem (by assumption) hE) ?_ (by with_unfolding_all rfl)); intro _)
  (k_with "KCfEl" => exact ⟨rfl, _, rfl⟩)
  (k_with "compareOp Eq ref ref" => k_here; k_dflt (refine eqSame (by k_asm) (by k_mem) (by assumption) (by k_mem) hei hgd.eight (by exact Nat.le_of_ble_eq_true rfl) ?_))
  (k_with "call ref" => k_here; (with_reducible rename News _ _ _ _ => lN'); k_dflt (refine Con.useB (round_c w Dr us _ hus hsm) G (by k_asm) lN' (isl_at lN' (by k_mem)) rfl rfl rfl rfl (Nat.le_of_ble_eq_true rfl) (Nat.le_of_ble_eq_true rfl) ?_); clear lN'; intro h' tk' F' N')
  (k_with "call ref" => k_here; (with_reducible rename News _ _ _ _ => lN'); k_dflt (refine Con.useB (odd_c w Dr us _ hus hsm) G (by k_asm) lN' (isl_at lN' (by k_mem)) rfl rfl rfl rfl (Nat.le_of_ble_eq_true rfl) (Nat.le_of_ble_eq_true rfl) ?_); clear lN'; intro h' tk' F' N')
  (k_with "compareOp Eq bool bool" => (with_reducible refine Stop.mk ?_))
  k_steps
  · rename apartB _ = _ => ha
    exact Stop.un (eqB (hgd.round.trans (by rw [ha]; rfl)) ⟨rfl, _, _, _, ps, qs, rfl, by k_asm, cb_drop (by k_asm) (by kcj_all)⟩)
  · rename apartB _ = _ => ha
    exact Stop.un (eqB (hgd.round.trans (by rw [ha]; rfl)) ⟨rfl, _, _, _, ps, qs, rfl, by k_asm, cb_drop (by k_asm) (by kcj_all)⟩)
end
section
open PySem PySem.W PyProof.Rows
set_option compiler.extract_closed false in
set_option compiler.extract_closed false in
set_option compiler.extract_closed false in
set_option maxRecDepth 100000 in
set_option maxHeartbeats 1600000 in
theorem law_main : Challenge.rw_re0146_01.Holds := Mine.hd (by
  have : ∀ w : World, Challenge.rw_re0146_01 = Challenge.rw_re0146_01 ∧ hd.heap_39 w.params = hd.heap_39 w.params := by k_fill; exact fun _ => ⟨rfl, rfl⟩
  clear this
  refine backW (p := ?p) ?e (fun e => ?_)
  case e => (unfold PySem.Challenge.pw_re0146_01; conv => lhs; reduce)
  rw [← e]
  clear e
  w_top off
  k_with_none
  (k_with "k_lt" => intro kH; (try replace kH := allLt_of kH); (try replace kH := offs_of kH); (try dsimp only [AllLt, LCg.Off1, LCg.Off3, OffF, OffG, ledT] at kH); repeat (first | (have := And.left (And.left kH); have := And.left (And.right (And.left kH)); have := And.right (And.right (And.left kH)); replace kH := And.right kH) | (have := And.left kH; replace kH := And.right kH)))
  (k_with "lt:kc9" => (try replace kc9 := allLt_of kc9); (try replace kc9 := offs_of kc9); (try dsimp only [AllLt, LCg.Off1, LCg.Off3, OffF, OffG, ledT] at kc9); repeat (first | (have := And.left (And.left kc9); have := And.left (And.right (And.left kc9)); have := And.right (And.right (And.left kc9)); replace kc9 := And.right kc9) | (have := And.left kc9; replace kc9 := And.right kc9)))
  (k_with "k_ne" => refine neN ?_; first | (with_reducible first | assumption | exact Ne.symm (by assumption) | exact Nat.ne_of_lt (by assumption) | exact Ne.symm (Nat.ne_of_lt (by assumption))) | ((try dsimp only); first | ((iterate 2 (first | done | with_reducible (first | exact cN1 _ | exact cN2 _ | exact cN3 _ | exact cL1 (by assumption) | exact cL2 (by assumption) | exact cL3 (by assumption) | exact cL4 (by assumption)) | exact Nat.ne_of_beq_eq_false rfl | refine Ne.symm ?_)); done) | ((iterate 4 (first | done | (with_reducible rename (@Ne Nat _ _) ∧ _ => kc9; (k_extra "lt:kc9"); with_reducible first | assumption | exact Ne.symm (by assumption)) | (with_reducible rename (@Ne Nat _ _) ∧ _ => kc9; clear kc9))); done) | omega))
  k_go0
  (all_goals try k_fold)
  w_top off
  rename IntsAre _ _ => hI
  rename Below _ _ _ _ => hB
  rename Top _ _ _ _ _ (ghostOf _ _) => hT
  rename Frag.In _ (ghostOf _ _) => hX
  rename Heap.IsList (ghostOf _ _) _ _ => hl
  rename CodeHd _ (41, 37).fst _ => c1
  rename CodeHd _ (34, 30).fst _ => c2
  have G : Gr _ _ [] := ⟨_, _, hB, hX, _, _, _, _, _, hT, ⟨c2, c1⟩⟩
  clear c1 c2
  refine wp_lift (A := Ar 400 (envOfC _ _ _ _ _) []) ?_ rfl (Nat.le_of_ble_eq_true rfl) rfl rfl (Nat.le_of_ble_eq_true rfl)
  rename Fr _ _ _ _ => F1
  rename News _ _ _ _ => N1
  refine wpAny_mono (Q := EndLaw _ _ _ _ _) (SegK.use (seg0 _ (seg3 _ (seg4 _ (seg6 _ (seg7 _))))) (by with_unfolding_all rfl) (by rfl) ⟨_, _, _, _, _, hI, Int.ofNat_le.mp (Int.not_lt.mp (by assumption)), hl, by rfl, ⟨by k_asm, by k_asm⟩, ⟨ltN (by with_reducible assumption), ltN (by with_reducible assumption)⟩, rfl⟩ G F1 N1) ?fin (fun _ _ e => e)
  case fin =>
    rintro _ _ ⟨rfl, h', tk', m', ps, qs, rfl, F', N'⟩
    clear F1 N1
    k_steps)
end
end Mine
end
theorem PySem.Challenge.cw_re0146_01_holds : PySem.Challenge.rw_re0146_01.Holds :=
  Mine.law_main
