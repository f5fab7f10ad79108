import PyProof.Rows.All
import Wide.All
import OpenK.AllK
import Wide.FinOn
import PySem.Challenge.RW_wn0036_01
set_option Elab.async false
set_option linter.all false
set_option rowWalk.seconds 0
namespace Mine
section
section
open PySem PySem.W PyProof.Rows
set_option Elab.async false
noncomputable def q : Program := view PySem.Challenge.pw_wn0036_01 [1, 3, 4, 5, 6, 8, 9, 10, 11, 12, 14, 15, 16, 17, 18, 19, 20, 21]
theorem said0 : OpenLaw.wellSaid PySem.Challenge.rw_wn0036_01 = true := by
  rw [PySem.W.Fast.te9446332074065402090]
  kernel_rfl
/-- the top as the boot leaves it -/
noncomputable abbrev top0 (p : Program) (N : Nat) (w : World) (os : OsState) : Option Shared := topFrom treeTable p w N ⟨boot_heap w.params, Array.mk [], boot_drawn, boot_toks, os⟩
theorem left_boot {p q : Program} {loose : List Str} {Xt : Shared → Bool} {α : Type} {Yf : Shared → α} {Ya : World → α} {N : Nat} {g0 : Bool} (e : opening p = plainProg p.main.scope.names) (hN : Nat.ble 600 N = true) (f : ∀ s, fenceModules? p s = some s)
    (hA : ∀ (w : World) (os : OsState), (top0 p N w os).map (openSeen q loose (importedModules p.main.body) Xt g0) = some (openGood q loose))
    (hB : ∀ (w : World) (os : OsState), (top0 p N w os).map Yf = some (Ya w)) : LeftO p q loose Xt Yf Ya N g0 := by
  intro w
  obtain ⟨⟨a, b, c, d, os⟩, hs, hv⟩ := Option.map_eq_some_iff.mp (boot_open e hN f w)
  obtain ⟨rfl, rfl, rfl, rfl⟩ : a = boot_heap w.params ∧ b = Array.mk [] ∧ c = boot_drawn ∧ d = boot_toks := by simpa only [Prod.mk.injEq] using hv
  obtain ⟨s, h1, h2⟩ := Option.map_eq_some_iff.mp (hA w os)
  have h3 := hB w os
  have h1' : topFrom treeTable p w N ⟨boot_heap w.params, Array.mk [], boot_drawn, boot_toks, os⟩ = some s := h1
  rw [h1] at h3
  unfold openEnds
  rw [hs]
  show (topFrom treeTable p w N ⟨boot_heap w.params, Array.mk [], boot_drawn, boot_toks, os⟩).map _ = _
  rw [h1']
  exact congrArg some (Prod.ext h2 (Option.some.inj h3))
set_option maxRecDepth 100000 in
theorem seen0 : ∀ (w : World) (os : OsState), (top0 PySem.Challenge.rw_wn0036_01.row.prog 2936 w os).map (openSeen q [] (importedModules PySem.Challenge.rw_wn0036_01.row.prog.main.body) (fun s => xlAt q [] s && recOk (RowW.records (OpenRow.toRowW (PySem.Challenge.rw_wn0036_01).row)) s) true) = some (openGood q []) := by
  intro w os
  unfold top0 topFrom
  simp only [PySem.W.Fast.te14364793385576792824, PySem.W.Fast.te14082659384304107361, PySem.W.Fast.te4187177175401517315]
  kernel_rfl
local macro_rules | `(tactic| o_law) => `(tactic| refine holds_law Mine.said0 fun said => ?_)
local macro_rules | `(tactic| o_head $H) => `(tactic| (
  refine holds_open (q := Mine.q) (loose := []) (Xt := fun s => xlAt Mine.q [] s && recOk (RowW.records (OpenRow.toRowW (PySem.Challenge.rw_wn0036_01).row)) s) (XP := XL Mine.q []) (Yf := Hook.obs $H) (Ya := Hook.val $H) (YP := Hook.says $H) (N := 2936) ?hl (Hook.of $H) (Hook.keeps $H) (fun s e => xl_of s (Bool.and_eq_true_iff.mp e).1) XL.keeps (by rfl) (by rfl) (by rfl) (fun s e => recFacts_of (Bool.and_eq_true_iff.mp e).2) (by rfl) (by first | assumption | decide +kernel) (by decide +kernel) ⟨rfl, rfl, rfl, rfl, rfl, by decide +kernel⟩ ?hw ?hc
  (case hl => (refine left_boot rfl (by decide) (fun _ => rfl) Mine.seen0 ?_; intro w os; unfold top0 topFrom; simp only [PySem.W.Fast.te14364793385576792824, PySem.W.Fast.te14082659384304107361]; kernel_rfl))))
set_option maxRecDepth 100000 in
set_option maxHeartbeats 8000000 in
open_top hd for PySem.Challenge.rw_wn0036_01
end

theorem top_off : True := by
  w_top off
  trivial
open PySem PySem.W PySem.Calls PyProof.Rows

section
open PySem PySem.W PySem.Calls PyProof.Rows
set_option Elab.async false
set_option maxRecDepth 100000

noncomputable abbrev Led := List (Addr × Obj)
/-- the frames around a contract's call: concrete numbers, so that room and units close by computation -/
noncomputable abbrev ar (d : Nat) (outer : List Env) : Around := { handled := none, depth := d, frames := some outer, guards := none, units := d }

theorem ar_le {M : Model} {A : Around} {c : Code} {R : Result → Shared → Prop} {s : Shared} {d : Nat} {outer : List Env} (h : codeAny M (ar d outer) c R s)
    (hh : A.handled = none) (hf : A.frames = some outer) (hd : A.depth ≤ d) (hu : A.units ≤ d) : codeAny M A c R s := fun Γ p hc hB =>
  h Γ p hc ⟨by rw [hB.1, hh], Nat.le_trans hB.2.1 hd, fun l hl => hB.2.2.1 l (by rw [hf]; exact hl), fun g hg => (nomatch hg), Nat.le_trans hB.2.2.2.2 hu⟩

/-- all but the addresses of sub is kept -/
noncomputable def Kept (sub : Led) (h h' : Heap) : Prop := ∀ b o, h.get? b = some o → (∀ q ∈ sub, q.1 ≠ b) → h'.get? b = some o

noncomputable def Spec (prog : Program) (w : World) (K : Frag) (p : Program) (loose : List Str) (mean : ExcName → Option Value) (mg mb : Str → Option Value) (d : Nat) (f : Addr) (vs : List Value) (sub : Led)
    (post : Heap → Value → Heap → Prop) : Prop :=
  ∀ (base b : Heap) (outer : List Env) (s : Shared) (R : Result → Shared → Prop),
    b.StaysIn s.heap → Below (ar d outer) base outer b → K.In b → Top p loose mean mg mb b → (∀ q ∈ sub, s.heap.get? q.1 = some q.2 ∧ b.get? q.1 = none) →
    (∀ v h' tk', Kept sub s.heap h' → post s.heap v h' → R (.ok (.ret v)) { s with heap := h', toks := tk' }) →
    codeAny (model prog w) (ar d outer) (.call (.ref f) ⟨vs, []⟩) R s

section
variable {prog : Program} {w : World} {A₀ A : Around} {s : Shared} {base b h₀ : Heap} {outer : List Env} {L : Addr} {m : Str → Option Value} {env : Env} {news sub : Led} {K : Frag}
  {p : Program} {loose : List Str} {mean : ExcName → Option Value} {mg mb : Str → Option Value} {d : Nat} {f : Addr} {vs : List Value} {post : Heap → Value → Heap → Prop}
  {Q : Value → Shared → Prop} {E : Value → Shared → Prop}

theorem use_spec (S : Spec prog w K p loose mean mg mb d f vs sub post) (B : Below A₀ base outer h₀) (F : Fr h₀ L s.heap m) (X : K.In h₀) (N : News h₀ L s.heap news) (T : Top p loose mean mg mb h₀)
    (hA : A.frames = some (env :: outer)) (hh : A.handled = none) (hf : env.frame = some L) (hke : env.scope.kind = .function) (hd : A.depth ≤ d) (hu : A.units ≤ d)
    (hsub : ∀ q ∈ sub, q ∈ news)
    (h : ∀ v h' tk', Fr h₀ L h' m → Kept sub s.heap h' → post s.heap v h' → Q v { s with heap := h', toks := tk' }) :
    wpAny (model prog w) A (call (.ref f) vs) Q E s := by
  obtain ⟨FG, BG, st, _⟩ := groundX (R := fun _ _ => True) B F N hA hf hke
  refine wpAny_call (ar_le (S base _ (env :: outer) s _ (fun b o e => of_hideAll _ e) ⟨rfl, BG.stays, BG.frames⟩ (X.keeps st) (T.keeps st) (fun q hq => ⟨(N q (hsub q hq)).1, hideAll_none _ (List.mem_map_of_mem (hsub q hq))⟩) fun v h' tk' hk hp => ?_) hh hA hd hu)
  refine h v h' tk' ?_ hk hp
  obtain ⟨oL, es, ep, hL, hLd, hLk, hLf⟩ := F.ns
  have hL' : h'.get? L = some oL := hk L oL hL fun q hq => (N q (hsub q hq)).2.1
  exact ⟨⟨oL, es, ep, hL', hLd, hLk, hLf⟩, fun x o e => hk x o (F.keep x o e) (fun q hq z => by
    have := (N q (hsub q hq)).2.2; rw [z, e] at this; cases this), F.above⟩

/-- what a ledger is behind a call that keeps all but sub: every entry is new knowledge, or an entry of the old one off sub -/
theorem news_after {h h' : Heap} {news' : Led} (F : Fr h₀ L h m) (N : News h₀ L h news) (hk : Kept sub h h')
    (hn : ∀ q ∈ news', (q ∈ news ∧ ∀ r ∈ sub, r.1 ≠ q.1) ∨ (h'.get? q.1 = some q.2 ∧ ((∃ o, (q.1, o) ∈ news) ∨ h.get? q.1 = none))) : News h₀ L h' news' := fun q hq => by
  rcases hn q hq with ⟨a, c⟩ | ⟨a, c⟩
  · exact ⟨hk _ _ (N q a).1 c, (N q a).2.1, (N q a).2.2⟩
  · rcases c with ⟨o, c⟩ | c
    · exact ⟨a, (N _ c).2.1, (N _ c).2.2⟩
    · refine ⟨a, fun z => ?_, ?_⟩
      · obtain ⟨oL, _, _, hL, _⟩ := F.ns
        rw [z, hL] at c; cases c
      · cases e : h₀.get? q.1 with
        | none => rfl
        | some o => rw [F.keep _ _ e] at c; cases c

variable {R : Result → Shared → Prop} {name qual : Str} {params : Arguments} {body : List Stmt} {scope : Scope} {cl : List (Str × Addr)} {dV kV doc pm cdv ct oc : Value} {an od : Option Addr} {osl : Array (Option Value)} {fo : Obj} {args : Args} {binds : List (Str × Value)}

/-- what the callee's ground is -/
structure Gr (sub : Led) (h g : Heap) : Prop where
  keep : ∀ b o, h.get? b = some o → (∀ q ∈ sub, q.1 ≠ b) → g.get? b = some o
  back : ∀ b o, g.get? b = some o → h.get? b = some o
  hid : ∀ q ∈ sub, g.get? q.1 = none
theorem gr_hide (sub : Led) (h : Heap) : Gr sub h (hideAll h (sub.map (·.1))) :=
  ⟨fun b o e n => hideAll_get _ e fun q => by obtain ⟨x, hx, rfl⟩ := List.mem_map.mp q; exact n x hx rfl, fun b o e => of_hideAll _ e, fun q hq => hideAll_none _ (List.mem_map_of_mem hq)⟩
theorem Gr.kept {h g h' : Heap} {L' : Addr} {m' : Str → Option Value} (G : Gr sub h g) (F : Fr g L' h' m') : Kept sub h h' := fun b o e n => F.keep b o (G.keep b o e n)
theorem Gr.fresh {h g h' : Heap} {L' a : Addr} {o : Obj} {news' : Led} (G : Gr sub h g) (N : News g L' h' news') (hm : (a, o) ∈ news') (hne : ∀ q ∈ sub, q.1 ≠ a) : h.get? a = none := by
  cases e : h.get? a with
  | none => rfl
  | some o' => have := (N _ hm).2.2; rw [G.keep a o' e hne] at this; cases this

theorem ground (st : b.StaysIn s.heap) (B : Below (ar d outer) base outer b) (X : K.In b) (T : Top p loose mean mg mb b) (N : ∀ q ∈ sub, s.heap.get? q.1 = some q.2 ∧ b.get? q.1 = none) :
    ∃ g, g = hideAll s.heap (sub.map (·.1)) ∧ Gr sub s.heap g ∧ Below (ar d outer) base outer g ∧ K.In g ∧ Top p loose mean mg mb g := by
  have nm : ∀ x o, b.get? x = some o → x ∉ sub.map (·.1) := fun x o e q => by
    obtain ⟨z, hz, rfl⟩ := List.mem_map.mp q
    rw [(N z hz).2] at e; cases e
  have st' : b.StaysIn (hideAll s.heap (sub.map (·.1))) := fun x o e => hideAll_get _ (st x o e) (nm x o e)
  exact ⟨_, rfl, gr_hide _ _, ⟨B.stack, fun x o e => st' x o (B.stays x o e), B.frames.of_keeps fun x o e _ => ⟨o, st' x o e, rfl⟩⟩, X.keeps st', T.keeps st'⟩

theorem enter_plain (st : b.StaysIn s.heap) (B : Below (ar d outer) base outer b) (X : K.In b) (T : Top p loose mean mg mb b) (N : ∀ q ∈ sub, s.heap.get? q.1 = some q.2 ∧ b.get? q.1 = none)
    (ho : K.lookup f = some ⟨oc, od, .func (fnOf name qual params body scope dV kV doc pm an cdv ct), osl⟩) (hcd : codeIn K cdv qual = true) (hroom : d < recursionLimit)
    (hbind : BindsTo s (fnOf name qual params body scope dV kV doc pm an cdv ct) args binds) (hloc : ∀ y ∈ binds, scope.names.lookup y.1 = some .local)
    (h : ∀ g L' h₁, Gr sub s.heap g → Fr g L' h₁ (fun y => binds.reverse.lookup y) → News g L' h₁ sub → Below (ar d outer) base outer g → K.In g → Top p loose mean mg mb g → (∀ q ∈ sub, q.1 < L') →
      wpAny (model prog w) ((ar d outer).deeper (envOf qual scope L' f cdv)) (execs body (envOf qual scope L' f cdv))
        (fun fl s' => R (.ok (.ret (match fl with | .ret v => v | _ => .none))) s')
        (fun e s' => wpAny (model prog w) ((ar d outer).deeper (envOf qual scope L' f cdv)) (leaving (envOf qual scope L' f cdv) e) (fun _ s'' => R (.error e) s'') (fun e' s'' => R (.error e') s'') s')
        { s with heap := h₁, toks := s.toks + binds.length })
    (hco : scope.isCoroutine = false := by rfl) (hgen : scope.isGenerator = false := by rfl) (hk : scope.kind = .function := by rfl)
    (hcell : ∀ x ∈ scope.names, x.2 ≠ .cell := by decide) : codeAny (model prog w) (ar d outer) (.call (.ref f) args) R s := by
  obtain ⟨g, rfl, G, BG, XG, TG⟩ := ground st B X T N
  refine codeAny_call_def (fd := fnOf name qual params body scope dV kV doc pm an cdv ct) (body := body) (binds := binds) hroom (st _ _ (X _ _ ho)) rfl (T.nolimit.keeps st) (codeRec_of (X.keeps st) hcd) rfl hbind hcell hloc (fun h₁ hns hk₁ => ?_) hco hgen hk
  exact h _ s.heap.objs.size h₁ G ⟨hns, fun b o e => hk₁ b o (G.back b o e), Nat.le_of_eq (hideAll_size _ _)⟩
    (fun q hq => ⟨hk₁ _ _ (N q hq).1, Nat.ne_of_lt (Heap.lt_size (N q hq).1), G.hid q hq⟩) BG XG TG (fun q hq => Heap.lt_size (N q hq).1)

theorem enter_cells (st : b.StaysIn s.heap) (B : Below (ar d outer) base outer b) (X : K.In b) (T : Top p loose mean mg mb b) (N : ∀ q ∈ sub, s.heap.get? q.1 = some q.2 ∧ b.get? q.1 = none)
    (ho : K.lookup f = some ⟨oc, od, .func (fnOf name qual params body scope dV kV doc pm an cdv ct), osl⟩) (hcd : codeIn K cdv qual = true) (hroom : d < recursionLimit)
    (hbind : BindsTo s (fnOf name qual params body scope dV kV doc pm an cdv ct) args binds) (hkind : (binds.all fun y => scope.names.lookup y.1 == some .local || scope.names.lookup y.1 == some .cell) = true)
    (hnd : ((cellsFrom 0 scope.names []).map (·.1)).Nodup)
    (h : ∀ g L' h₁ tk cells, Gr sub s.heap g → Fr g L' h₁ (bindL (envOfC qual scope L' f cdv).kindOf binds fun _ => none) → News g L' h₁ (cells ++ sub) →
      CellsAre (bindC (envOfC qual scope L' f cdv).kindOf binds fun _ => none) (cellsFrom (L' + 1) scope.names []) cells → Below (ar d outer) base outer g → K.In g → Top p loose mean mg mb g → (∀ q ∈ sub, q.1 < L') →
      wpAny (model prog w) ((ar d outer).deeper (envOfC qual scope L' f cdv)) (execs body (envOfC qual scope L' f cdv))
        (fun fl s' => R (.ok (.ret (match fl with | .ret v => v | _ => .none))) s')
        (fun e s' => wpAny (model prog w) ((ar d outer).deeper (envOfC qual scope L' f cdv)) (leaving (envOfC qual scope L' f cdv) e) (fun _ s'' => R (.error e) s'') (fun e' s'' => R (.error e') s'') s')
        { s with heap := h₁, toks := tk })
    (hco : scope.isCoroutine = false := by rfl) (hgen : scope.isGenerator = false := by rfl) (hk : scope.kind = .function := by rfl) : codeAny (model prog w) (ar d outer) (.call (.ref f) args) R s := by
  obtain ⟨g, rfl, G, BG, XG, TG⟩ := ground st B X T N
  refine codeAny_call_function hroom (st _ _ (X _ _ ho)) rfl hco hgen rfl (codeRec_of (X.keeps st) hcd) (hbind _ _ _ _ ?_)
  refine wpAny_newFunctionEnv_cells hk (kindsX hkind _) fun env' he s' x => ?_
  subst he
  refine ⟨(T.nolimit.keeps st).keeps x.toInCall.keep, codeAny_func ?_⟩
  obtain ⟨h₁, tk, rfl, _⟩ := x.done
  have hk₁ := x.toInCall.keep
  obtain ⟨cells, NC, Y⟩ := Cl.news (h₀ := s.heap) (Nat.le_refl _) fun n c hm => ⟨x.cell n c (lookup_of_mem_nodup (cellsFrom_names scope.names 0 (s.heap.objs.size + 1) [] [] rfl ▸ hnd) hm), x.above n c hm⟩
  refine h _ s.heap.objs.size h₁ tk cells G ⟨x.toInCall.ns, fun b o e => hk₁ b o (G.back b o e), Nat.le_of_eq (hideAll_size _ _)⟩ (fun q hq => ?_) Y BG XG TG (fun q hq => Heap.lt_size (N q hq).1)
  rcases List.mem_append.mp hq with hq | hq
  · refine ⟨(NC q hq).1, (NC q hq).2.1, ?_⟩
    cases z : (hideAll s.heap (sub.map (·.1))).get? q.1 with
    | none => rfl
    | some o => have := G.back _ _ z; rw [(NC q hq).2.2] at this; cases this
  · exact ⟨hk₁ _ _ (N q hq).1, Nat.ne_of_lt (Heap.lt_size (N q hq).1), G.hid q hq⟩
end
end

section
open PySem PySem.W PySem.Calls PyProof.Rows
set_option Elab.async false
set_option maxRecDepth 100000
noncomputable abbrev Sp (w : World) (p : Program) (loose : List Str) (mean : ExcName → Option Value) (mg mb : Str → Option Value) (d : Nat) (f : Addr) (vs : List Value) (sub : Led) (post : Heap → Value → Heap → Prop) : Prop :=
  Spec PySem.Challenge.rw_wn0036_01.row.prog w (hd.heap_1 w.params) p loose mean mg mb d f vs sub post
end

section
open PySem PySem.W PySem.Calls PyProof.Rows
set_option Elab.async false
/-- the base port of the draws -/
noncomputable def baseF (ns : List Int) : Int := (if ns.sum < 0 then -ns.sum else ns.sum).fmod 65000
noncomputable def markF (c : Int) : Str := if c = 0 then Str.ofString "|" else if c = 1 then Str.ofString "\"" else if c = 2 then Str.ofString "\\" else Str.ofString "!"
noncomputable def replyOf (mk : Str) (k : Int) : Str := Str.ofString "229 (" ++ Txt.mul mk 3 ++ Str.ofString (toString k) ++ mk ++ Str.ofString ")"
noncomputable def replyF (ns : List Int) (i : Int) : Str := replyOf (markF (((ns.getD i.toNat 0).fdiv 8 + i).fmod 4)) (baseF ns + i)
noncomputable def shownF (r : Str) : Str := Txt.replace (Txt.replace r (Str.ofString "\\") (Str.ofString "\\\\")) (Str.ofString "\"") (Str.ofString "\\\"")
noncomputable def writtenF (r : Str) (b : Int) : Str := if b = 0 then Str.ofString "\"" ++ shownF r ++ Str.ofString "\"" else Txt.replace (shownF r) (Str.ofString " ") (Str.ofString "\\ ") ++ Str.ofString "\n"
/-- the order: place by place -/
noncomputable def insF (o : List Int) (p : Int) (i : Int) : List Int := o.take p.toNat ++ [i] ++ o.drop p.toNat
noncomputable def placeF (ns : List Int) (i : Nat) : Int := (ns.getD i 0 + 2 * (i : Int)).fmod ((i : Int) + 1)
noncomputable def orderF (ns : List Int) : List Int := (List.range ns.length).foldl (fun o i => insF o (placeF ns i) (i : Int)) []
end

section
open PySem PySem.W PySem.Calls PyProof.Rows
set_option Elab.async false
/-- apart from D, said so that omega does not look at it -/
noncomputable def Apart (D : Nat) (l : List Nat) : Prop := ∀ a ∈ l, a ≠ D
theorem Apart.l {a D : Nat} {l : List Nat} (h : Apart D l) (m : a ∈ l) : a ≠ D := h a m
theorem Apart.r {a D : Nat} {l : List Nat} (h : Apart D l) (m : a ∈ l) : D ≠ a := Ne.symm (h a m)
theorem off1_mem {D : Addr} : ∀ {l : Led}, LCg.Off1 D l → ∀ q ∈ l, q.1 ≠ D
  | [], _, _, h => nomatch h
  | _ :: _, x, q, h => by
    rcases List.mem_cons.mp h with rfl | h
    · exact x.1
    · exact off1_mem x.2 q h
theorem apart_all {D : Addr} {l : Led} (h : ∀ q ∈ l, q.1 ≠ D) : Apart D (l.map (·.1)) := fun a ha => by
  obtain ⟨q, hq, rfl⟩ := List.mem_map.mp ha
  exact h q hq
theorem apart_of {D : Addr} {l : Led} (h : LCg.Off1 D l) : Apart D (l.map (·.1)) := apart_all (off1_mem h)
theorem apart_3 {I C D : Addr} {l : Led} (h : LCg.Off3 I C D l) : Apart I (l.map (·.1)) ∧ Apart C (l.map (·.1)) ∧ Apart D (l.map (·.1)) :=
  ⟨apart_all fun q hq => (h.mem q hq).1, apart_all fun q hq => (h.mem q hq).2.1, apart_all fun q hq => (h.mem q hq).2.2⟩
/-- above all of these -/
noncomputable def Above (d : Nat) (l : List Nat) : Prop := ∀ a ∈ l, a < d
theorem above_of {d : Addr} {l : Led} (h : ∀ p ∈ l, p.1 < d) : Above d (l.map (·.1)) := fun a ha => by
  obtain ⟨q, hq, rfl⟩ := List.mem_map.mp ha
  exact h q hq
theorem Above.l {a d : Nat} {l : List Nat} (h : Above d l) (m : a ∈ l) : a ≠ d := Nat.ne_of_lt (h a m)
theorem Above.r {a d : Nat} {l : List Nat} (h : Above d l) (m : a ∈ l) : d ≠ a := Ne.symm (Nat.ne_of_lt (h a m))
end

section
open PySem PySem.W PySem.Calls PyProof.Rows
set_option Elab.async false
/-- no run takes a token back -/
theorem runs_toks {M : Model} {Γ : Ctx} {p : Pos} {t : Sem Fin} {fs : List Frame} {s : Shared} {e : End} {s' : Shared} (h : Runs M Γ p t fs s e s') : s.toks ≤ s'.toks := by
  induction h with
  | done | raise | yield => exact Nat.le_refl _
  | fresh _ ih => exact Nat.le_trans (Nat.le_succ _) ih
  | again _ _ ih | rule _ ih | «at» _ ih | load _ _ ih | update _ _ ih | loadIfAlive _ ih | point _ ih | alloc _ ih | ask _ ih | choose _ _ ih | os _ ih | handled _ ih | genState _ _ ih | stack _ ih | thread _ ih | newGen _ ih => exact ih
  | call _ _ i1 i2 => exact Nat.le_trans i1 i2
  | callSusp _ i1 => exact i1
  | resumeFresh _ _ _ _ i1 i2 => exact Nat.le_trans i1 i2
  | resumeSuspended _ _ _ _ i1 i2 => exact Nat.le_trans i1 i2
  | resumeJustStarted _ _ _ i1 => exact i1
  | resumeThrowFresh _ _ i1 => exact i1
  | resumeRunning _ _ i1 => exact i1
  | resumeFinished _ _ i1 => exact i1
  | segRet _ _ i1 i2 => exact Nat.le_trans i1 i2
  | segGen _ _ i1 i2 => exact Nat.le_trans i1 i2
  | segSuspOut _ _ i1 => exact i1
  | segSuspGen _ _ _ _ i1 i2 => exact Nat.le_trans i1 i2
theorem wakes_toks {M : Model} {Γ : Ctx} {p : Pos} {g : Nat} {r : Resume} {s : Shared} {res : GenResult} {s' : Shared} (h : Wakes M Γ p g r s res s') : s.toks ≤ s'.toks := by
  unfold Wakes at h
  split at h
  · cases h
  · split at h
    · obtain ⟨e₁, s₁, hr, _, _, rfl⟩ := h
      have := runs_toks hr
      exact this
    · rw [h.2]; exact Nat.le_refl _
    · rw [h.2]; exact Nat.le_refl _
  · obtain ⟨e₁, s₁, hr, _, _, rfl⟩ := h
    have := runs_toks hr
    exact this
  · rw [h.2]; exact Nat.le_refl _
  · rw [h.2]; exact Nat.le_refl _
theorem wp_toks {α : Type} (M : Model) (Γ : Ctx) (t : Sem α) (Q : α → Pos → Shared → Prop) (E : Value → Pos → Shared → Prop) (T : Nat) :
    ∀ (p : Pos) (s : Shared), T ≤ s.toks → Sem.wp M Γ t (fun a p s' => T ≤ s'.toks → Q a p s') (fun e p s' => T ≤ s'.toks → E e p s') p s → Sem.wp M Γ t Q E p s := by
  induction t with
  | pure a => intro p s hT h; exact h hT
  | raise e => intro p s hT h; exact h hT
  | unsupported | finish | register | yield | fork | await => intro p s hT h; simp only [Sem.wp] at h
  | rule _ k ih | «at» _ k ih | point _ k ih | ask k ih | handled _ k ih | stack k ih | thread k ih | loadIfAlive _ k ih | alloc _ k ih | newGen _ k ih | os _ _ k ih =>
    intro p s hT h
    simp only [Sem.wp] at h ⊢
    exact ih _ _ _ hT h
  | fresh k ih =>
    intro p s hT h
    simp only [Sem.wp] at h ⊢
    exact ih _ _ _ (Nat.le_succ_of_le hT) h
  | load _ _ k ih =>
    intro p s hT h
    simp only [Sem.wp] at h ⊢
    obtain ⟨o, ho, h⟩ := h
    exact ⟨o, ho, ih _ _ _ hT h⟩
  | update _ _ _ k ih =>
    intro p s hT h
    simp only [Sem.wp] at h ⊢
    exact ⟨h.1, ih _ _ _ hT h.2⟩
  | choose _ _ k ih =>
    intro p s hT h
    simp only [Sem.wp] at h ⊢
    exact ⟨h.1, ih _ _ _ hT h.2⟩
  | genState _ k ih =>
    intro p s hT h
    simp only [Sem.wp] at h ⊢
    obtain ⟨o, ho, h⟩ := h
    exact ⟨o, ho, ih _ _ _ hT h⟩
  | call _ _ _ _ k ih =>
    intro p s hT h
    simp only [Sem.wp] at h ⊢
    obtain ⟨r, s', hr, h⟩ := h
    exact ⟨r, s', hr, ih _ _ _ (Nat.le_trans hT (runs_toks hr)) h⟩
  | resume _ _ _ k ih =>
    intro p s hT h
    simp only [Sem.wp] at h ⊢
    obtain ⟨r, s', hr, h⟩ := h
    exact ⟨r, s', hr, ih _ _ _ (Nat.le_trans hT (wakes_toks hr)) h⟩
theorem any_toks {α : Type} {M : Model} {A : Around} {t : Sem α} {Q : α → Shared → Prop} {E : Value → Shared → Prop} {s : Shared}
    (h : wpAny M A t (fun a s' => s.toks ≤ s'.toks → Q a s') (fun e s' => s.toks ≤ s'.toks → E e s') s) : wpAny M A t Q E s := fun Γ p hΓ =>
  wp_toks M Γ t _ _ s.toks p s (Nat.le_refl _) (h Γ p hΓ)
theorem code_toks {M : Model} {A : Around} {c : Code} {R : Result → Shared → Prop} {s : Shared} (h : codeAny M A c (fun r s' => s.toks ≤ s'.toks → R r s') s) : codeAny M A c R s := fun Γ p hc hΓ => by
  obtain ⟨r, s', hr, h⟩ := h Γ p hc hΓ
  exact ⟨r, s', hr, h (runs_toks hr)⟩
theorem gen_add {α : Type} {M : Model} {A : Around} {t : Sem α} {Q : α → Shared → Prop} {E : Value → Shared → Prop} {hp : Heap} {g : Array GenState} {d : Drawn} {a b : Nat} {o : OsState} (hpos : @LT.lt Nat _ 0 (a + b))
    (h : ∀ tk : Nat, @LT.lt Nat _ 0 tk → wpAny M A t Q E { heap := hp, gens := g, drawn := d, toks := tk, os := o }) : wpAny M A t Q E { heap := hp, gens := g, drawn := d, toks := a + b, os := o } := h _ hpos
end

section
open PySem PySem.W PySem.Calls PyProof.Rows
set_option Elab.async false
/-- each c written as z -/
noncomputable def esc (c : Nat) (z : List Nat) (l : List Nat) : List Nat := l.flatMap fun k => if k = c then z else [k]
theorem esc_append (c : Nat) (z a b : List Nat) : esc c z (a ++ b) = esc c z a ++ esc c z b := List.flatMap_append
theorem esc_cons (c : Nat) (z : List Nat) (k : Nat) (r : List Nat) : esc c z (k :: r) = (if k = c then z else [k]) ++ esc c z r := rfl
theorem esc_nil (c : Nat) (z : List Nat) : esc c z [] = [] := rfl
theorem esc_free (c : Nat) (z : List Nat) : ∀ l : List Nat, c ∉ l → esc c z l = l
  | [], _ => rfl
  | k :: r, h => by
    rw [esc_cons, if_neg (fun e : k = c => h (by rw [e]; exact List.mem_cons_self ..)), esc_free c z r fun m => h (List.mem_cons_of_mem _ m)]; rfl
theorem esc_join (c : Nat) (z : Str) : ∀ parts : List Str, (∀ p ∈ parts, c ∉ p.cps.toList) → esc c z.cps.toList (Str.join ⟨#[c]⟩ parts).cps.toList = (Str.join z parts).cps.toList
  | [], _ => rfl
  | [p], h => esc_free c _ _ (h p (List.mem_singleton.mpr rfl))
  | p :: q :: r, h => by
    have ih := esc_join c z (q :: r) fun a ha => h a (List.mem_cons_of_mem _ ha)
    show esc c z.cps.toList (p ++ ⟨#[c]⟩ ++ Str.join ⟨#[c]⟩ (q :: r)).cps.toList = (p ++ z ++ Str.join z (q :: r)).cps.toList
    simp only [Str.cps_append, Array.toList_append]
    rw [esc_append, esc_append, ih, esc_free c _ _ (h p (List.mem_cons_self ..)), esc_cons, if_pos rfl, esc_nil, List.append_nil]
theorem replace_esc (x z : Str) (c : Nat) : (Txt.replace x ⟨#[c]⟩ z).cps.toList = esc c z.cps.toList x.cps.toList := by
  rw [StrLaws.replace_one, ← esc_join c z _ (StrLaws.split_free x c), StrLaws.join_split]
theorem esc_length (c : Nat) (z : List Nat) (hz : z.length ≤ 2) : ∀ l : List Nat, (esc c z l).length ≤ 2 * l.length
  | [] => Nat.le_refl _
  | k :: r => by
    have ih := esc_length c z hz r
    rw [esc_cons, List.length_append, List.length_cons]
    split
    · omega
    · simp only [List.length_singleton]; omega
theorem replace_length {x z : Str} {c : Nat} (hz : z.length ≤ 2) : (Txt.replace x ⟨#[c]⟩ z).length ≤ 2 * x.length := by
  have h := esc_length c z.cps.toList (by rw [Array.length_toList]; exact hz) x.cps.toList
  rw [← replace_esc] at h
  simpa [Str.length] using h
theorem str_ext {a b : Str} (h : a.cps.toList = b.cps.toList) : a = b := Str.ext' (Array.ext' h)

/-- how a quoted text is written; how a bare one -/
noncomputable def encQ (k : Nat) : List Nat := if k = 92 ∨ k = 34 then [92, k] else [k]
noncomputable def encB (k : Nat) : List Nat := if k = 92 ∨ k = 34 ∨ k = 32 then [92, k] else [k]
theorem esc_two (l : List Nat) : esc 34 [92, 34] (esc 92 [92, 92] l) = l.flatMap encQ := by
  induction l with
  | nil => rfl
  | cons k r ih =>
    rw [esc_cons, esc_append, ih, List.flatMap_cons]
    congr 1
    unfold encQ
    by_cases h1 : k = 92
    · subst h1; rfl
    · by_cases h2 : k = 34
      · subst h2; rfl
      · simp [h1, h2, esc]
theorem esc_three (l : List Nat) : esc 32 [92, 32] (l.flatMap encQ) = l.flatMap encB := by
  induction l with
  | nil => rfl
  | cons k r ih =>
    rw [List.flatMap_cons, esc_append, ih, List.flatMap_cons]
    congr 1
    unfold encQ encB
    by_cases h1 : k = 92
    · subst h1; rfl
    · by_cases h2 : k = 34
      · subst h2; rfl
      · by_cases h3 : k = 32
        · subst h3; rfl
        · simp [h1, h2, h3, esc]
theorem of92 : Str.ofString "\\" = ⟨#[92]⟩ := by decide +kernel
theorem of9292 : Str.ofString "\\\\" = ⟨#[92, 92]⟩ := by decide +kernel
theorem of34 : Str.ofString "\"" = ⟨#[34]⟩ := by decide +kernel
theorem of9234 : Str.ofString "\\\"" = ⟨#[92, 34]⟩ := by decide +kernel
theorem of32 : Str.ofString " " = ⟨#[32]⟩ := by decide +kernel
theorem of9232 : Str.ofString "\\ " = ⟨#[92, 32]⟩ := by decide +kernel
theorem of10 : Str.ofString "\n" = ⟨#[10]⟩ := by decide +kernel
theorem shown_enc (r : Str) : (shownF r).cps.toList = r.cps.toList.flatMap encQ := by
  unfold shownF
  rw [of92, of9292, of34, of9234, replace_esc, replace_esc]
  exact esc_two _
theorem written0 (r : Str) : (writtenF r 0).cps.toList = 34 :: (r.cps.toList.flatMap encQ ++ [34]) := by
  unfold writtenF
  rw [if_pos rfl, of34]
  simp only [Str.cps_append, Array.toList_append, shown_enc]
  rfl
theorem written1 (r : Str) : (writtenF r 1).cps.toList = r.cps.toList.flatMap encB ++ [10] := by
  unfold writtenF
  rw [if_neg (by decide), of32, of9232, of10]
  simp only [Str.cps_append, Array.toList_append, replace_esc, shown_enc]
  rw [esc_three]
theorem shown_len1 (r : Str) (h : r.length ≤ 40) : (Txt.replace r (Str.ofString "\\") (Str.ofString "\\\\")).length ≤ 80 := by
  rw [of92, of9292]
  have := replace_length (x := r) (z := ⟨#[92, 92]⟩) (c := 92) (by decide)
  omega
theorem shown_len2 (r : Str) (h : r.length ≤ 40) : (shownF r).length ≤ 160 := by
  have h1 := shown_len1 r h
  unfold shownF
  rw [of34, of9234]
  have := replace_length (x := Txt.replace r (Str.ofString "\\") (Str.ofString "\\\\")) (z := ⟨#[92, 34]⟩) (c := 34) (by decide)
  omega
theorem shown_len3 (r : Str) (h : r.length ≤ 40) : (Txt.replace (shownF r) (Str.ofString " ") (Str.ofString "\\ ")).length ≤ 320 := by
  have h1 := shown_len2 r h
  rw [of32, of9232]
  have := replace_length (x := shownF r) (z := ⟨#[92, 32]⟩) (c := 32) (by decide)
  omega

/-- one way alone to cut a text at a sign -/
noncomputable def joinL (c : Nat) : List (List Nat) → List Nat
  | [] => []
  | [p] => p
  | p :: q :: r => p ++ c :: joinL c (q :: r)
theorem joinL_str (c : Nat) : ∀ ps : List Str, (Str.join ⟨#[c]⟩ ps).cps.toList = joinL c (ps.map fun p => p.cps.toList)
  | [] => rfl
  | [p] => rfl
  | p :: q :: r => by
    have ih := joinL_str c (q :: r)
    show (p ++ ⟨#[c]⟩ ++ Str.join ⟨#[c]⟩ (q :: r)).cps.toList = _
    simp only [Str.cps_append, Array.toList_append, ih, List.map_cons, joinL, List.append_assoc]
    rfl
theorem free_split {c : Nat} : ∀ {a b u v : List Nat}, c ∉ a → c ∉ b → a ++ c :: u = b ++ c :: v → a = b ∧ u = v
  | [], [], _, _, _, _, h => ⟨rfl, by simpa using h⟩
  | [], y :: b, _, _, _, hb, h => by
    rw [List.nil_append, List.cons_append, List.cons.injEq] at h
    exact absurd (h.1 ▸ List.mem_cons_self ..) hb
  | x :: a, [], _, _, ha, _, h => by
    rw [List.nil_append, List.cons_append, List.cons.injEq] at h
    exact absurd (h.1 ▸ List.mem_cons_self ..) ha
  | x :: a, y :: b, _, _, ha, hb, h => by
    rw [List.cons_append, List.cons_append, List.cons.injEq] at h
    obtain ⟨e1, e2⟩ := free_split (fun m => ha (List.mem_cons_of_mem _ m)) (fun m => hb (List.mem_cons_of_mem _ m)) h.2
    exact ⟨by rw [h.1, e1], e2⟩
theorem free_end {c : Nat} {a b v : List Nat} (ha : c ∉ a) (h : a = b ++ c :: v) : False := by
  subst h
  exact ha (List.mem_append_right _ (List.mem_cons_self ..))
theorem joinL_inj {c : Nat} : ∀ {ps qs : List (List Nat)}, ps ≠ [] → qs ≠ [] → (∀ p ∈ ps, c ∉ p) → (∀ q ∈ qs, c ∉ q) → joinL c ps = joinL c qs → ps = qs
  | [], _, h, _, _, _, _ => absurd rfl h
  | _, [], _, h, _, _, _ => absurd rfl h
  | [p], [q], _, _, _, _, h => by rw [show p = q from h]
  | [p], q :: q' :: r, _, _, hp, _, h => (free_end (hp p (List.mem_singleton.mpr rfl)) h).elim
  | p :: p' :: r, [q], _, _, _, hq, h => (free_end (hq q (List.mem_singleton.mpr rfl)) h.symm).elim
  | p :: p' :: r, q :: q' :: t, _, _, hp, hq, h => by
    obtain ⟨e1, e2⟩ := free_split (hp p (List.mem_cons_self ..)) (hq q (List.mem_cons_self ..)) h
    rw [e1, joinL_inj (List.cons_ne_nil _ _) (List.cons_ne_nil _ _) (fun x hx => hp x (List.mem_cons_of_mem _ hx)) (fun x hx => hq x (List.mem_cons_of_mem _ hx)) e2]
theorem split_is {x : Str} {c : Nat} {parts : List (List Nat)} (hne : parts ≠ []) (hf : ∀ p ∈ parts, c ∉ p) (h : x.cps.toList = joinL c parts) (hx : x.cps.toList ≠ []) :
    Txt.split x ⟨#[c]⟩ = parts.map fun p => ⟨p.toArray⟩ := by
  have hj := StrLaws.join_split x ⟨#[c]⟩
  have hs : Txt.split x ⟨#[c]⟩ ≠ [] := fun e => by
    rw [e] at hj
    rw [← hj] at hx
    exact hx rfl
  have e : (Txt.split x ⟨#[c]⟩).map (fun p => p.cps.toList) = parts := by
    refine joinL_inj (c := c) (fun e => hs (List.map_eq_nil_iff.mp e)) hne (fun p hp => ?_) hf ?_
    · obtain ⟨q, hq, rfl⟩ := List.mem_map.mp hp
      exact StrLaws.split_free x c q hq
    · rw [← joinL_str, hj, h]
  rw [← e, List.map_map]
  conv => lhs; rw [← List.map_id (Txt.split x ⟨#[c]⟩)]
  exact List.map_congr_left fun p _ => str_ext rfl
end

section
open PySem PySem.W PySem.Calls PyProof.Rows
set_option Elab.async false
set_option linter.unusedSectionVars false
theorem getD_list (x : Str) (v : Nat) : x.cps.getD v 0 = x.cps.toList.getD v 0 := by
  simp [Array.getD_eq_getD_getElem?, List.getD_eq_getElem?_getD]
theorem len_list (x : Str) : x.length = x.cps.toList.length := by simp [Str.length]
theorem getD_append_mid {P R : List Nat} {c : Nat} : (P ++ c :: R).getD P.length 0 = c := by simp
theorem getD_append_left {P R : List Nat} {v : Nat} (h : v < P.length) : (P ++ R).getD v 0 ∈ P := by
  rw [List.getD_eq_getElem?_getD, List.getElem?_append_left h, List.getElem?_eq_getElem h]
  exact List.getElem_mem h
theorem getD_append_right {P R : List Nat} {v : Nat} (h : P.length ≤ v) : (P ++ R).getD v 0 = R.getD (v - P.length) 0 := by
  rw [List.getD_eq_getElem?_getD, List.getElem?_append_right h, List.getD_eq_getElem?_getD]
theorem find3_at {x : Str} {A P R : List Nat} {c : Nat} (hx : x.cps.toList = A ++ (P ++ c :: R)) (hc : c ∉ P) : Txt.find3 x ⟨#[c]⟩ (A.length : Int) = ((A.length + P.length : Nat) : Int) := by
  have hl : x.length = A.length + (P.length + (R.length + 1)) := by rw [len_list, hx]; simp
  have hf : fromIndex x.length (A.length : Int) = A.length := by unfold fromIndex; split <;> omega
  have hmid : x.cps.getD (A.length + P.length) 0 = c := by
    rw [getD_list, hx, getD_append_right (Nat.le_add_right _ _), Nat.add_sub_cancel_left, getD_append_mid]
  have hno : ∀ v, A.length ≤ v → v < A.length + P.length → x.cps.getD v 0 ≠ c := fun v h1 h2 e => by
    rw [getD_list, hx, getD_append_right h1] at e
    exact hc (e ▸ getD_append_left (by omega))
  rcases StrLaws.find3_spec x c (A.length : Int) with ⟨_, h⟩ | ⟨k, hk, h1, h2, h3, h4⟩
  · rw [hf] at h
    exact absurd hmid (h _ (by omega) (by omega))
  · rw [hf] at h1 h4
    rw [hk]
    congr 1
    rcases Nat.lt_trichotomy k (A.length + P.length) with h | h | h
    · exact absurd h3 (hno k h1 h)
    · exact h
    · exact absurd hmid (h4 _ (by omega) h)
theorem find_at0 {x : Str} {P R : List Nat} {c : Nat} (hx : x.cps.toList = P ++ c :: R) (hc : c ∉ P) : Txt.find x ⟨#[c]⟩ = (P.length : Int) := by
  have h := find3_at (A := []) (by simpa using hx) hc
  simp only [List.length_nil, Nat.zero_add] at h
  rw [← h]
  unfold Txt.find Txt.find3
  rfl
theorem slice_at {x : Str} {a b : Nat} (hab : a ≤ b) (hb : b ≤ x.length) : (Txt.slice x (some (a : Int)) (some (b : Int))).cps.toList = (x.cps.toList.drop a).take (b - a) := by
  have h := StrLaws.sliceText_nat x hab hb
  have e : Txt.slice x (some (a : Int)) (some (b : Int)) = StrLaws.sliceText x (some (a : Int)) (some (b : Int)) := rfl
  rw [e, h]
theorem slice_to {x : Str} {b : Nat} (hb : b ≤ x.length) : (Txt.slice x none (some (b : Int))).cps.toList = x.cps.toList.take b := by
  have h := StrLaws.sliceText_to (x := x) (j := (b : Int)) (by rw [← len_list]; omega)
  have e : Txt.slice x none (some (b : Int)) = StrLaws.sliceText x none (some (b : Int)) := rfl
  rw [e, h]; simp
/-- the signs of a reply -/
noncomputable def digitsOf (k : Int) : List Nat := (Str.ofString (toString k)).cps.toList
theorem digits_range {k : Int} (h0 : 0 ≤ k) : ∀ c ∈ digitsOf k, 48 ≤ c ∧ c ≤ 57 := by
  obtain ⟨m, rfl⟩ := Int.eq_ofNat_of_zero_le h0
  intro c hc
  unfold digitsOf at hc
  rw [KIN.signs_num] at hc
  obtain ⟨ch, hch, e⟩ := List.mem_map.mp hc
  rw [← e]
  exact digit_range (Nat.isDigit_of_mem_toDigits (by decide) (by decide) hch)
theorem digits_len {k : Int} (h0 : 0 ≤ k) (h1 : k < 10 ^ 10) : (digitsOf k).length ≤ 11 := by
  have h := KT.len_num h0 h1
  unfold digitsOf
  rw [← len_list]
  omega
noncomputable def bodyOf (m : Nat) (k : Int) : List Nat := [m, m, m] ++ (digitsOf k ++ [m])
theorem of_reply : Str.ofString "229 (" = ⟨#[50, 50, 57, 32, 40]⟩ := by decide +kernel
theorem of_close : Str.ofString ")" = ⟨#[41]⟩ := by decide +kernel
theorem of_open : Str.ofString "(" = ⟨#[40]⟩ := by decide +kernel
theorem of_229 : Str.ofString "229" = ⟨#[50, 50, 57]⟩ := by decide +kernel
theorem reply_codes (m : Nat) (k : Int) : (replyOf ⟨#[m]⟩ k).cps.toList = [50, 50, 57, 32, 40] ++ (bodyOf m k ++ 41 :: []) := by
  unfold replyOf bodyOf digitsOf
  rw [of_reply, of_close]
  simp only [Str.cps_append, Array.toList_append, mul_one_list, List.append_assoc]
  rfl
noncomputable def marks : List Nat := [124, 34, 92, 33]
theorem markF_is (c : Int) : ∃ m, m ∈ marks ∧ markF c = ⟨#[m]⟩ := by
  unfold markF
  split
  · exact ⟨124, by decide, by decide +kernel⟩
  · split
    · exact ⟨34, by decide, by decide +kernel⟩
    · split
      · exact ⟨92, by decide, by decide +kernel⟩
      · exact ⟨33, by decide, by decide +kernel⟩
theorem body_free {m : Nat} {k : Int} {c : Nat} (hm : c ≠ m) (hd : c < 48 ∨ 57 < c) (h0 : 0 ≤ k) : c ∉ bodyOf m k := by
  intro h
  unfold bodyOf at h
  simp only [List.mem_append, List.mem_cons, List.not_mem_nil, or_false] at h
  rcases h with h | h | h
  · omega
  · have := digits_range h0 c h; omega
  · omega
theorem mark_cases {m : Nat} (h : m ∈ marks) : m = 124 ∨ m = 34 ∨ m = 92 ∨ m = 33 := by
  simpa [marks] using h
section
variable {m : Nat} {k : Int} {r : Str} (hr : r.cps.toList = [50, 50, 57, 32, 40] ++ (bodyOf m k ++ 41 :: [])) (hm : m ∈ marks) (h0 : 0 ≤ k)
include hr
theorem reply_len : r.length = 10 + (digitsOf k).length := by
  rw [len_list, hr]; unfold bodyOf; simp; omega
theorem reply_head : Txt.slice r none (some 3) = Str.ofString "229" := by
  refine str_ext ?_
  have := slice_to (x := r) (b := 3) (by rw [reply_len hr]; omega)
  rw [show ((3 : Nat) : Int) = 3 from rfl] at this
  rw [this, hr, of_229]; rfl
include hm h0
theorem reply_open : Txt.find r (Str.ofString "(") = 4 := by
  rw [of_open]
  exact find_at0 (P := [50, 50, 57, 32]) (by rw [hr]; rfl) (by decide)
theorem reply_close : Txt.find3 r (Str.ofString ")") (4 + 1) = ((9 + (digitsOf k).length : Nat) : Int) := by
  rw [of_close]
  have h := find3_at (x := r) (A := [50, 50, 57, 32, 40]) (P := bodyOf m k) (R := []) (c := 41) hr (body_free (by rcases mark_cases hm with h | h | h | h <;> omega) (by omega) h0)
  rw [show ((([50, 50, 57, 32, 40] : List Nat).length : Nat) : Int) = 4 + 1 from rfl] at h
  rw [h]
  congr 1
  unfold bodyOf; simp; omega
theorem reply_first : r.cps[5]? = some m := by
  rw [← Array.getElem?_toList, hr]; rfl
theorem reply_last : r.cps[8 + (digitsOf k).length]? = some m := by
  rw [← Array.getElem?_toList, hr]
  unfold bodyOf
  rw [List.getElem?_append_right (by simp; omega)]
  rw [List.getElem?_append_left (by simp; omega)]
  rw [List.getElem?_append_right (by simp; omega)]
  rw [List.getElem?_append_right (by simp; omega)]
  simp only [List.length_cons, List.length_nil]
  rw [show 8 + (digitsOf k).length - (0 + 1 + 1 + 1 + 1 + 1) - (0 + 1 + 1 + 1) - (digitsOf k).length = 0 by omega]
  rfl
theorem reply_cut : (Txt.slice r (some (4 + 1)) (some ((9 + (digitsOf k).length : Nat) : Int))).cps.toList = bodyOf m k := by
  have := slice_at (x := r) (a := 5) (b := 9 + (digitsOf k).length) (by omega) (by rw [reply_len hr]; omega)
  rw [show ((5 : Nat) : Int) = 4 + 1 from rfl] at this
  rw [this, hr]
  rw [show List.drop 5 ([50, 50, 57, 32, 40] ++ (bodyOf m k ++ 41 :: [])) = bodyOf m k ++ 41 :: [] from rfl]
  rw [List.take_append_of_le_length (by unfold bodyOf; simp; omega), List.take_of_length_le (by unfold bodyOf; simp; omega)]
theorem reply_split {x : Str} (hx : x.cps.toList = bodyOf m k) : Txt.split x ⟨#[m]⟩ = [Str.empty, Str.empty, Str.empty, Str.ofString (toString k), Str.empty] := by
  have hd : m ∉ digitsOf k := fun h => by
    have := digits_range h0 m h
    rcases mark_cases hm with h | h | h | h <;> omega
  rw [split_is (c := m) (parts := [[], [], [], digitsOf k, []]) (by simp) (by
    intro p hp
    simp only [List.mem_cons, List.not_mem_nil, or_false] at hp
    rcases hp with h | h | h | h | h <;> subst h <;> first | exact List.not_mem_nil | exact hd) (by rw [hx]; unfold bodyOf joinL joinL joinL joinL joinL; simp) (by rw [hx]; unfold bodyOf; simp)]
  simp only [List.map_cons, List.map_nil]
  rw [show (Str.mk (digitsOf k).toArray) = Str.ofString (toString k) from str_ext (by simp [digitsOf])]
  rfl
end
end

section
open PySem PySem.W PySem.Calls PyProof.Rows
set_option Elab.async false
set_option linter.unusedSectionVars false
section
variable {prog : Program} {w : World} {A : Around} {E : Value → Shared → Prop} {s : Shared} {h₀ h : Heap} {L D : Addr} {m : Str → Option Value} {news news' : Led} {vs : List Value} {v : Value} {n : Nat} {u : Tok}
theorem is_list (N : News h₀ L h news) (hm : (D, W.listOf vs.toArray n) ∈ news) : h.IsList D vs.toArray := ⟨_, N.get hm, rfl, n, rfl⟩
theorem truthy_cons {Q : Bool → Shared → Prop} (N : News h₀ L s.heap news) (hm : (D, W.listOf (v :: vs).toArray n) ∈ news) (hz : vs.length < 100000) (h : Q true { s with toks := s.toks + 1 + 1 }) :
    wpAny (model prog w) A (truthy (.ref D)) Q E s := wpAny_truthy_list (is_list N hm) (by simp only [List.size_toArray, List.length_cons]; omega) (by
      rw [show (!(v :: vs).toArray.isEmpty) = true by simp]; exact h)
theorem truthy_nil {Q : Bool → Shared → Prop} (N : News h₀ L s.heap news) (hm : (D, W.listOf ([] : List Value).toArray n) ∈ news) (h : Q false { s with toks := s.toks + 1 + 1 }) :
    wpAny (model prog w) A (truthy (.ref D)) Q E s := wpAny_truthy_list (is_list N hm) (by simp only [List.size_toArray, List.length_nil]; omega) (by
      rw [show (!([] : List Value).toArray.isEmpty) = false by simp]; exact h)
theorem pop0_t {Q : Value → Shared → Prop} (F : Fr h₀ L s.heap m) (N : News h₀ L s.heap news) (U : Upd D (W.listOf (v :: vs).toArray n) (W.listOf vs.toArray (n + 1)) news news') (hz : vs.length < 100000)
    (h : ∀ h', Fr h₀ L h' m → News h₀ L h' news' → Q v { s with heap := h' }) : wpAny (model prog w) A (call (.builtin "list.pop") [.ref D, .int 0 u]) Q E s :=
  kl_popAt (k := 0) (p := []) (q := vs) (y := v) F N rfl (StrLaws.seqIndex_nonneg (Int.le_refl 0) (by simp only [List.size_toArray, List.length_cons]; omega)) rfl U (by
    show (v :: vs).length ≤ sizeLine
    rw [sizeLine_eq, List.length_cons]; omega) h
theorem add_t {a b : Addr} {xs ys : List Value} {k k2 : Nat} {Q : Value → Shared → Prop} (F : Fr h₀ L s.heap m) (N : News h₀ L s.heap news) (ha : (a, W.listOf xs.toArray k) ∈ news) (hb : (b, W.listOf ys.toArray k2) ∈ news) (hz : (xs ++ ys).length ≤ 1000)
    (h : ∀ q h' tk', Fr h₀ L h' m → News h₀ L h' ((q, W.listOf (xs ++ ys).toArray 0) :: news) → (∀ p ∈ news, p.1 < q) → Q (.ref q) { s with heap := h', toks := tk' }) : wpAny (model prog w) A (binaryOp .Add (.ref a) (.ref b)) Q E s :=
  add_lists F N (is_list N ha) (is_list N hb) (fun h' F' N' => h _ h' _ F' N' fun p hp => Heap.lt_size (N p hp).1) (by rw [sizeLine_eq]; rw [List.length_append] at hz; omega)
end
end

local macro_rules | `(tactic| ktr_unf) => `(tactic| (k_dflt (refine' enter_plain (by assumption) (by assumption) (by assumption) (by assumption) (by assumption) ?k6 ?k7 ?k8 ?k9 ?kB ?_ ?c2 ?c3 ?c4 ?c5; (case k6 => k_is); (case k7 => k_is); (case k8 => decide); (case k9 => exact BindsTo.of_eq rfl); (case c5 => decide); (case kB => exact locs rfl); (case c2 => exact rfl); (case c3 => exact rfl); (case c4 => exact rfl); k_whole; intro g' L' h' G' F' N' B' X' T' l1; (try k_lt l1); (try dsimp only); (try k_fold))))
local macro_rules | `(tactic| ktr_rel) => `(tactic| (k_dflt (refine' enter_cells (by assumption) (by assumption) (by assumption) (by assumption) (by assumption) ?k6 ?k7 ?k8 ?k9 ?kB ?kD ?_ ?c2 ?c3 ?c4; (case k6 => k_is); (case k7 => k_is); (case k8 => decide); (case k9 => exact BindsTo.of_eq rfl); (case kB => exact rfl); (case kD => decide +kernel); (case c2 => exact rfl); (case c3 => exact rfl); (case c4 => exact rfl); k_whole; intro g' L' h' tk' cells' G' F' N' Y' B' X' T' l1; (try k_lt l1); k_cells Y'; (try simp only [List.cons_append, List.nil_append] at N'); (try dsimp only); (try k_fold))))
local macro_rules | `(tactic| walk_at "truthy ref") => `(tactic| (k_here; first | (refine truthy_cons (by k_asm) (by k_mem) (by omega) ?_) | (refine truthy_nil (by k_asm) (by k_mem) ?_)))
local macro_rules | `(tactic| walk_at "call builtin:list.pop") => `(tactic| (k_here; (with_reducible show wpAny _ _ (call (Value.builtin _) [Value.ref _, Value.int _ _]) _ _ _); refine' pop0_t ?F ?N ?U ?z ?_; (case F => k_asm); (case N => k_asm); (case U => k_upd); (case z => omega); intro h' F' N'; (try k_sweep)))
section
open PySem PySem.W PySem.Calls PyProof.Rows
set_option Elab.async false
set_option maxRecDepth 100000
set_option maxHeartbeats 8000000
/-- the four entries of a lexer's dict -/
noncomputable abbrev lexD (h1 h2 h3 h4 : Int) (t1 t2 t3 t4 : Tok) (v1 v2 v3 v4 : Value) : List DictEntry :=
  [⟨h1, Value.str (Str.ofString "lineno") t1, v1⟩, ⟨h2, Value.str (Str.ofString "instream") t2, v2⟩, ⟨h3, Value.str (Str.ofString "whitespace") t3, v3⟩, ⟨h4, Value.str (Str.ofString "pushback") t4, v4⟩]
theorem push_spec (w p loose mean mg mb) (x dx pb : Addr) (h1 h2 h3 h4 : Int) (t1 t2 t3 t4 : Tok) (v1 v2 v3 : Value) (ne n : Nat) (items : List Value) (v : Value)
   (n1 : @Ne Nat x dx) (n2 : @Ne Nat x pb) (n3 : @Ne Nat dx pb) (hlen : items.length < 1000) :
    Sp w p loose mean mg mb 450 49 [Value.ref x, v]
      [(x, instObj 52 dx), (dx, dictOf (lexD h1 h2 h3 h4 t1 t2 t3 t4 v1 v2 v3 (Value.ref pb)) ne), (pb, W.listOf items.toArray n)]
      (fun _ r h' => r = Value.none ∧ h'.get? x = some (instObj 52 dx) ∧ h'.get? dx = some (dictOf (lexD h1 h2 h3 h4 t1 t2 t3 t4 v1 v2 v3 (Value.ref pb)) ne) ∧ h'.get? pb = some (W.listOf (items ++ [v]).toArray (n + 1))) := by
  unfold Sp
  k_fill
  intro base b outer s R st B X T N hret
  ktr_unf
  clear st B X T N
  k_steps
  refine hret _ _ _ (Gr.kept (by assumption) (by assumption)) ⟨rfl, News.get (by assumption) (by k_mem), News.get (by assumption) (by k_mem), ?_⟩
  have e : (items ++ [v]).toArray = items.toArray.push v := by simp
  rw [e]
  exact News.get (by assumption) (by k_mem)
theorem get_spec (w p loose mean mg mb) (x dx pb : Addr) (h1 h2 h3 h4 : Int) (t1 t2 t3 t4 : Tok) (v1 v2 v3 : Value) (ne n : Nat) (items : List Value) (v : Str) (tv : Tok)
   (n1 : @Ne Nat x dx) (n2 : @Ne Nat x pb) (n3 : @Ne Nat dx pb) (hlen : items.length < 1000) :
    Sp w p loose mean mg mb 450 42 [Value.ref x]
      [(x, instObj 52 dx), (dx, dictOf (lexD h1 h2 h3 h4 t1 t2 t3 t4 v1 v2 v3 (Value.ref pb)) ne), (pb, W.listOf (Value.str v tv :: items).toArray n)]
      (fun _ r h' => r = Value.str v tv ∧ h'.get? x = some (instObj 52 dx) ∧ h'.get? dx = some (dictOf (lexD h1 h2 h3 h4 t1 t2 t3 t4 v1 v2 v3 (Value.ref pb)) ne) ∧ h'.get? pb = some (W.listOf items.toArray (n + 1))) := by
  unfold Sp
  k_fill
  intro base b outer s R st B X T N hret
  ktr_unf
  clear st B X T N
  k_steps
  exact hret _ _ _ (Gr.kept (by assumption) (by assumption)) ⟨rfl, News.get (by assumption) (by k_mem), News.get (by assumption) (by k_mem), News.get (by assumption) (by k_mem)⟩
end

section
open PySem PySem.W PySem.Calls PyProof.Rows
set_option Elab.async false
set_option maxRecDepth 100000
set_option maxHeartbeats 8000000
theorem reply_at {ns : List Int} {i c : Int} {mk : Str} (h : ((ns.getD i.toNat 0).fdiv 8 + i).fmod 4 = c) (hm : markF c = mk) :
    Str.ofString "229 (" ++ Txt.mul mk 3 ++ Str.ofString (toString ((if ns.sum < 0 then -ns.sum else ns.sum).fmod 65000 + i)) ++ mk ++ Str.ofString ")" = replyF ns i := by
  subst hm; subst h; rfl
theorem reply_spec (w p loose mean mg mb) (l : Addr) (vs : List Value) (ns : List Int) (n : Nat) (i : Int) (t : Tok) (hI : IntsAre vs ns) (hlen : ns.length ≤ 6) (hi0 : 0 ≤ i) (hi : i < ns.length) :
    Sp w p loose mean mg mb 400 154 [Value.ref l, Value.int i t] [(l, W.listOf vs.toArray n)]
      (fun _ v h' => (∃ tk, v = Value.str (replyF ns i) tk) ∧ h'.get? l = some (W.listOf vs.toArray n)) := by
  unfold Sp
  k_fill
  intro base b' outer s R st B X T N hret
  ktr_unf
  clear st B X T N
  k_steps
  all_goals exact hret _ _ _ (Gr.kept (by assumption) (by assumption)) ⟨⟨_, congrArg (fun x => Value.str x _) (reply_at (by assumption) rfl)⟩, News.get (by assumption) (by k_mem)⟩
end

local macro_rules | `(tactic| walk_at "execs cons") => `(tactic| (k_here; dsimp only))
section
open PySem PySem.W PySem.Calls PyProof.Rows
set_option Elab.async false
set_option maxRecDepth 100000
set_option maxHeartbeats 8000000

section
variable {prog : Program} {w : World} {A : Around} {E : Value → Shared → Prop} {s : Shared} {x y z : Str} {t u v : Tok} {Q : Value → Shared → Prop}
theorem replace_t (hu : @Ne Nat u 0) (hv : @Ne Nat v 0) (huv : @Ne Nat u v) (hyz : (y == z) = false) (hx : x.length ≤ 1048576) (hz : z.length ≤ 14)
    (hq : ∀ t' k, s.toks ≤ k → Q (.str (Txt.replace x y z) t') { s with toks := k }) : wpAny (model prog w) A (call (.builtin "str.replace") [.str x t, .str y u, .str z v]) Q E s :=
  any_toks (SC.replaceW hu hv huv hyz hx hz fun t' k hk => hq t' k hk)
end
local macro_rules | `(tactic| walk_at "call builtin:str.replace") => `(tactic| (refine replace_t (by first | omega | (simp; first | done | fail "a goal is left") | (simp; omega)) (by first | omega | (simp; first | done | fail "a goal is left") | (simp; omega)) (by first | omega | (simp; first | done | fail "a goal is left") | (simp; omega)) (by first | decide | assumption) (by first | omega | assumption) (by first | decide | omega) ?_; intro _ _ _; (try dsimp only at *)))
local macro_rules | `(tactic| walk_at "execs cons") => `(tactic| (k_here; (with_reducible refine gen_add ?hp9 ?_); (case hp9 => first | omega | exact Nat.lt_of_lt_of_le (Nat.succ_pos _) (Nat.le_add_left _ _)); intro tk9 htk9))
local macro_rules | `(tactic| walk_at "execs nil") => `(tactic| (k_here; (with_reducible refine gen_add ?hp9 ?_); (case hp9 => first | omega | exact Nat.lt_of_lt_of_le (Nat.succ_pos _) (Nat.le_add_left _ _)); intro tk9 htk9))
local macro_rules | `(tactic| walk_at "execs nil") => `(tactic| (k_here; dsimp only))
theorem written_spec (w p loose mean mg mb) (r : Str) (t t2 : Tok) (b : Int) (hr : r.length ≤ 40) :
    Sp w p loose mean mg mb 400 161 [Value.str r t, Value.int b t2] []
      (fun _ v _ => ∃ tk, v = Value.str (writtenF r b) tk) := by
  unfold Sp
  k_fill
  intro base b' outer s R st B X T N hret
  have hl1 := shown_len1 r hr
  have hl2 := shown_len2 r hr
  have hl3 := shown_len3 r hr
  unfold shownF at hl2 hl3
  ktr_unf
  clear st B X T N
  k_steps
  · subst_vars
    exact hret _ _ _ (Gr.kept (by assumption) (by assumption)) ⟨_, rfl⟩
  · exact hret _ _ _ (Gr.kept (by assumption) (by assumption)) ⟨_, by rw [writtenF, if_neg (by assumption), shownF]⟩
end

section
open PySem PySem.W PySem.Calls PyProof.Rows
set_option Elab.async false
set_option maxRecDepth 100000
set_option maxHeartbeats 8000000
section
variable {prog : Program} {w : World} {A : Around} {E : Value → Shared → Prop} {s : Shared} {x y z : Str} {t u v : Tok} {Q : Value → Shared → Prop} {h₀ : Heap} {L : Addr} {m : Str → Option Value} {news : Led}
theorem find_t {k : Int} (h : Txt.find x y = k) (hq : Q (.int k s.toks) { s with toks := s.toks + 1 }) : wpAny (model prog w) A (call (.builtin "str.find") [.str x t, .str y u]) Q E s := SC.find (by rw [h]; exact hq)
theorem find3_t {k i : Int} (h : Txt.find3 x y i = k) (hq : Q (.int k s.toks) { s with toks := s.toks + 1 }) : wpAny (model prog w) A (call (.builtin "str.find") [.str x t, .str y u, .int i v]) Q E s := SC.find3 (by rw [h]; exact hq)
theorem item_t {value slice : PySem.Expr} {i : Int} {c n : Nat} (hi : i = (n : Int)) (hn : n < 1000) (hc : x.cps[n]? = some c) (h : Q (.str ⟨#[c]⟩ s.toks) { s with toks := s.toks + 1 })
    (hs : subscripted slice false (.str x t) (.int i u) = operate [] (getItem (.str x t) (.int i u)) := by with_unfolding_all rfl) : wpAny (model prog w) A (subscriptTail value slice (.str x t) (.int i u)) Q E s :=
  tail_any (typeIs_str _ _ _) F.slot_str_getitem.lookup (P.getItem_str (by rw [hi, Bool.or_eq_false_iff]; constructor <;> rw [decide_eq_false_iff_not] <;> omega) (StrLaws.at_nonneg (by omega) (by rw [hi]; exact hc)) h) hs
theorem split5_t {a0 a1 a2 a3 a4 : Str} (hsp : Txt.split x y = [a0, a1, a2, a3, a4]) (hF : Fr h₀ L s.heap m) (hN : News h₀ L s.heap news) (hy : (y.length == 0) = false) (hsz : x.length + 2 ≤ sizeLine)
    (h : ∀ q t0 t1 t2 t3 t4 h' k, Fr h₀ L h' m → News h₀ L h' ((q, W.listOf #[.str a0 t0, .str a1 t1, .str a2 t2, .str a3 t3, .str a4 t4] 0) :: news) → (∀ p ∈ news, p.1 < q) → Q (.ref q) { s with heap := h', toks := k }) :
    wpAny (model prog w) A (call (.builtin "str.split") [.str x t, .str y u]) Q E s := by
  refine splitN1 hF hN hy (fun l h' k hl F' N' => ?_) hsz
  rw [hsp] at hl
  match l, hl with
  | [(_, t0), (_, t1), (_, t2), (_, t3), (_, t4)], hl =>
    simp only [List.map_cons, List.map_nil, List.cons.injEq, and_true] at hl
    obtain ⟨rfl, rfl, rfl, rfl, rfl⟩ := hl
    exact h _ t0 t1 t2 t3 t4 h' k F' N' fun p hp => Heap.lt_size (hN p hp).1
end
local macro_rules | `(tactic| walk_at "call builtin:str.find") => `(tactic| first | (refine find_t (by assumption) ?_) | (refine find3_t (by assumption) ?_))
local macro_rules | `(tactic| walk_at "call builtin:str.split") => `(tactic| ((refine split5_t (by assumption) (by k_asm) (by k_asm) (by first | rfl | assumption) ?k4 ?_); (case k4 => first | size_fits | (simp only [sizeLine_eq]; omega)); intro q' t0' t1' t2' t3' t4' h' k' F' N' l1; (try k_lt l1)))
theorem item_is {r : Str} {i : Int} {c n : Nat} (hi : i = (n : Int)) (h : r.cps[n]? = some c) : Txt.item r i = ⟨#[c]⟩ := by
  unfold Txt.item Txt.charAt
  rw [StrLaws.at_nonneg (n := c) (by omega) (by rw [hi]; exact h)]
  rfl
theorem parse_spec (w p loose mean mg mb) (r : Str) (t : Tok) (pr : Addr) (n : Nat) (t1 t2 : Tok) (m : Nat) (k : Int) (hr : r.cps.toList = [50, 50, 57, 32, 40] ++ (bodyOf m k ++ 41 :: [])) (hm : m ∈ marks) (h0 : 0 ≤ k) (hk : k < 10 ^ 10) :
    Sp w p loose mean mg mb 400 100 [Value.str r t, Value.ref pr] [(pr, { cls := .type "tuple", data := .seq #[.str (Str.ofString "host") t1, .int 21 t2] n })]
      (fun h v h' => h'.get? pr = some { cls := .type "tuple", data := .seq #[.str (Str.ofString "host") t1, .int 21 t2] n } ∧
        ∃ q t3 t4 n', v = .ref q ∧ h.get? q = none ∧ h'.get? q = some { cls := .type "tuple", data := .seq #[.str (Str.ofString "host") t3, .int k t4] n' }) := by
  unfold Sp
  k_fill
  intro base b' outer s R st B X T N hret
  have hl := reply_len hr
  have hd := digits_len h0 hk
  have f1 := reply_head hr
  have f2 := reply_open hr hm h0
  have f3 := reply_close hr hm h0
  have f4 : Txt.item r (4 + 1) = ⟨#[m]⟩ := item_is (n := 5) (by decide) (reply_first hr hm h0)
  have f5 : Txt.item r (((9 + (digitsOf k).length : Nat) : Int) - 1) = ⟨#[m]⟩ := item_is (n := 8 + (digitsOf k).length) (by omega) (reply_last hr hm h0)
  have f6 := reply_split hr hm h0 (reply_cut hr hm h0)
  rw [← f4] at f6
  have f8 : ((Txt.item r (4 + 1)).length == 0) = false := by rw [f4]; rfl
  have f9 : (Txt.item r (4 + 1) != Txt.item r (((9 + (digitsOf k).length : Nat) : Int) - 1)) = false := by rw [f4, f5]; simp
  have f7 : ((Txt.slice r none (some 3)) != Str.ofString "229") = false := by rw [f1]; decide +kernel
  clear hr f1 f4 f5
  ktr_unf
  clear st B X T N
  k_steps
  exact hret _ _ _ (Gr.kept (by assumption) (by assumption)) ⟨News.get (by assumption) (by k_mem), _, _, _, _, rfl, Gr.fresh (by assumption) (by assumption) (by k_mem) (by k_all), News.get (by assumption) (by k_mem)⟩
end

section
open PySem PySem.W PySem.Calls PyProof.Rows
set_option Elab.async false
set_option maxRecDepth 100000
set_option linter.unusedSectionVars false
section
variable {w : World} {A₀ A : Around} {s : Shared} {base h₀ h h' : Heap} {outer : List Env} {L : Addr} {m : Str → Option Value} {env : Env} {news news' sub : Led} 
  {p : Program} {loose : List Str} {mean : ExcName → Option Value} {mg mb : Str → Option Value} {Q : Value → Shared → Prop} {E : Value → Shared → Prop}
theorem news_same (N : News h₀ L h news) (hk : Kept sub h h') (hsub : ∀ q ∈ sub, q ∈ news) (hs : ∀ q ∈ sub, h'.get? q.1 = some q.2) : News h₀ L h' news := fun q hq => by
  refine ⟨?_, (N q hq).2⟩
  by_cases e : ∃ r ∈ sub, r.1 = q.1
  · obtain ⟨r, hr, e⟩ := e
    have h1 := (N r (hsub r hr)).1
    have h2 := (N q hq).1
    rw [e, h2] at h1
    have h3 := hs r hr
    rw [e, ← Option.some.inj h1] at h3
    exact h3
  · exact hk _ _ (N q hq).1 fun r hr z => e ⟨r, hr, z⟩
theorem news_upd1 {d : Addr} {o o' : Obj} (N : News h₀ L h news) (hk : Kept sub h h') (hsub : ∀ q ∈ sub, q ∈ news) (hs : ∀ q ∈ sub, q.1 ≠ d → h'.get? q.1 = some q.2) (hd : h'.get? d = some o') (U : Upd d o o' news news') : News h₀ L h' news' := by
  obtain ⟨pre, post, rfl, rfl, a, b⟩ := U.split
  have off : ∀ q, q ∈ pre ++ (d, o) :: post → q.1 ≠ d → h'.get? q.1 = some q.2 := fun q hq hne => by
    by_cases e : ∃ r ∈ sub, r.1 = q.1
    · obtain ⟨r, hr, e⟩ := e
      have h1 := (N r (hsub r hr)).1
      have h2 := (N q hq).1
      rw [e, h2] at h1
      have h3 := hs r hr (e ▸ hne)
      rw [e, ← Option.some.inj h1] at h3
      exact h3
    · exact hk _ _ (N q hq).1 fun r hr z => e ⟨r, hr, z⟩
  intro q hq
  rcases List.mem_append.mp hq with hq | hq
  · have hm : q ∈ pre ++ (d, o) :: post := List.mem_append_left _ hq
    exact ⟨off q hm (a q hq), (N q hm).2⟩
  · rcases List.mem_cons.mp hq with rfl | hq
    · exact ⟨hd, (N (d, o) (List.mem_append_right _ (.head _))).2⟩
    · have hm : q ∈ pre ++ (d, o) :: post := List.mem_append_right _ (.tail _ hq)
      exact ⟨off q hm (b q hq), (N q hm).2⟩
theorem upd_mem {d : Addr} {o o' : Obj} (U : Upd d o o' news news') : (d, o) ∈ news := by
  obtain ⟨pre, post, rfl, _, _, _⟩ := U.split
  exact List.mem_append_right _ (.head _)

variable {x dx pb : Addr} {h1 h2 h3 h4 : Int} {t1 t2 t3 t4 : Tok} {v1 v2 v3 : Value} {ne n : Nat} {items : List Value} {v : Value}
theorem push_use (B : Below A₀ base outer h₀) (F : Fr h₀ L s.heap m) (X : (hd.heap_1 w.params).In h₀) (N : News h₀ L s.heap news) (T : Top p loose mean mg mb h₀)
    (hA : A.frames = some (env :: outer)) (hh : A.handled = none) (hf : env.frame = some L) (hke : env.scope.kind = .function) (hd : A.depth ≤ 450) (hu : A.units ≤ 450)
    (hx : (x, instObj 52 dx) ∈ news) (hdx : (dx, dictOf (lexD h1 h2 h3 h4 t1 t2 t3 t4 v1 v2 v3 (Value.ref pb)) ne) ∈ news)
    (U : Upd pb (W.listOf items.toArray n) (W.listOf (items ++ [v]).toArray (n + 1)) news news') (n1 : @Ne Nat x dx) (n2 : @Ne Nat x pb) (n3 : @Ne Nat dx pb) (hlen : items.length < 1000)
    (k : ∀ h' tk', Fr h₀ L h' m → News h₀ L h' news' → Q .none { s with heap := h', toks := tk' }) :
    wpAny (model PySem.Challenge.rw_wn0036_01.row.prog w) A (call (.ref 49) [.ref x, v]) Q E s := by
  have hsub : ∀ q ∈ ([(x, instObj 52 dx), (dx, dictOf (lexD h1 h2 h3 h4 t1 t2 t3 t4 v1 v2 v3 (Value.ref pb)) ne), (pb, W.listOf items.toArray n)] : Led), q ∈ news := by
    intro q hq
    simp only [List.mem_cons, List.not_mem_nil, or_false] at hq
    rcases hq with rfl | rfl | rfl
    · exact hx
    · exact hdx
    · exact upd_mem U
  refine use_spec (push_spec w p loose mean mg mb x dx pb h1 h2 h3 h4 t1 t2 t3 t4 v1 v2 v3 ne n items v n1 n2 n3 hlen) B F X N T hA hh hf hke hd hu hsub fun r h' tk' F' hk hp => ?_
  obtain ⟨rfl, p1, p2, p3⟩ := hp
  refine k h' tk' F' (news_upd1 N hk hsub (fun q hq hne => ?_) p3 U)
  simp only [List.mem_cons, List.not_mem_nil, or_false] at hq
  rcases hq with rfl | rfl | rfl
  · exact p1
  · exact p2
  · exact absurd rfl hne
theorem get_use {tok : Str} {tv : Tok} (B : Below A₀ base outer h₀) (F : Fr h₀ L s.heap m) (X : (hd.heap_1 w.params).In h₀) (N : News h₀ L s.heap news) (T : Top p loose mean mg mb h₀)
    (hA : A.frames = some (env :: outer)) (hh : A.handled = none) (hf : env.frame = some L) (hke : env.scope.kind = .function) (hd : A.depth ≤ 450) (hu : A.units ≤ 450)
    (hx : (x, instObj 52 dx) ∈ news) (hdx : (dx, dictOf (lexD h1 h2 h3 h4 t1 t2 t3 t4 v1 v2 v3 (Value.ref pb)) ne) ∈ news)
    (U : Upd pb (W.listOf (Value.str tok tv :: items).toArray n) (W.listOf items.toArray (n + 1)) news news') (n1 : @Ne Nat x dx) (n2 : @Ne Nat x pb) (n3 : @Ne Nat dx pb) (hlen : items.length < 1000)
    (k : ∀ h' tk', Fr h₀ L h' m → News h₀ L h' news' → Q (.str tok tv) { s with heap := h', toks := tk' }) :
    wpAny (model PySem.Challenge.rw_wn0036_01.row.prog w) A (call (.ref 42) [.ref x]) Q E s := by
  have hsub : ∀ q ∈ ([(x, instObj 52 dx), (dx, dictOf (lexD h1 h2 h3 h4 t1 t2 t3 t4 v1 v2 v3 (Value.ref pb)) ne), (pb, W.listOf (Value.str tok tv :: items).toArray n)] : Led), q ∈ news := by
    intro q hq
    simp only [List.mem_cons, List.not_mem_nil, or_false] at hq
    rcases hq with rfl | rfl | rfl
    · exact hx
    · exact hdx
    · exact upd_mem U
  refine use_spec (get_spec w p loose mean mg mb x dx pb h1 h2 h3 h4 t1 t2 t3 t4 v1 v2 v3 ne n items tok tv n1 n2 n3 hlen) B F X N T hA hh hf hke hd hu hsub fun r h' tk' F' hk hp => ?_
  obtain ⟨rfl, p1, p2, p3⟩ := hp
  refine k h' tk' F' (news_upd1 N hk hsub (fun q hq hne => ?_) p3 U)
  simp only [List.mem_cons, List.not_mem_nil, or_false] at hq
  rcases hq with rfl | rfl | rfl
  · exact p1
  · exact p2
  · exact absurd rfl hne
end

section
variable {prog : Program} {w : World} {A : Around} {E : Value → Shared → Prop} {s : Shared} {env : Env} {h₀ : Heap} {x : Str} {body : List Stmt} {Q : Flow → Shared → Prop}
/-- what holds of the turns over a list's items -/
noncomputable def TurnEnd (h₀ : Heap) (L : Addr) (s : Shared) (I : Addr) (it : Obj) (lp : Addr × Obj) (Q : Flow → Shared → Prop) (J : (Str → Option Value) → Led → Prop) (f : Flow) (s₂ : Shared) : Prop := match f with
  | .ret v => Q (.ret v) s₂
  | .brk => Q .next s₂
  | _ => ∃ h' tk m' news', s₂ = { s with heap := h', toks := tk } ∧ Fr h₀ L h' m' ∧ News h₀ L h' ((I, it) :: news') ∧ (∀ q ∈ news', q.1 ≠ I) ∧ lp ∈ news' ∧ J m' news'
theorem TurnEnd.intro {L I : Addr} {it : Obj} {lp : Addr × Obj} {J : (Str → Option Value) → Led → Prop} {h' : Heap} {tk : Nat} {m' : Str → Option Value} {all : Led} (news' : Led) (F : Fr h₀ L h' m') (N : News h₀ L h' all)
    (sub : ∀ q ∈ (I, it) :: news', q ∈ all) (off : ∀ q ∈ news', q.1 ≠ I) (hl : lp ∈ news') (j : J m' news') : TurnEnd h₀ L s I it lp Q J .next { s with heap := h', toks := tk } :=
  ⟨h', tk, m', news', rfl, F, fun q hq => N q (sub q hq), off, hl, j⟩
theorem list_inv {I : Addr} {lp : Addr × Obj} (J : List Value → (Str → Option Value) → Led → Prop)
    (turn : ∀ v r m news it h tk, J (v :: r) m news → it.cls = .type "list_iterator" → Fr h₀ env.locals h (fun y => if y = x then some v else m y) → News h₀ env.locals h ((I, it) :: news) →
      wpAny (model prog w) A (execs body env) (TurnEnd h₀ env.locals { s with heap := h, toks := tk } I it lp Q (J r)) E { s with heap := h, toks := tk })
    (done : ∀ m news h tk, J [] m news → Fr h₀ env.locals h m → News h₀ env.locals h news → Q .next { s with heap := h, toks := tk }) :
    ∀ vs m news, J vs m news → ListRest prog w A E h₀ env x body Q s I lp vs m news
  | [], m, news, j => ListRest.zero fun h tk F N => done m news h tk j F N
  | v :: r, m, news, j => ListRest.succ fun it h tk hc F N => wpAny_mono (turn v r m news it h tk j hc F N) (fun f s₂ hf => by
      cases f with
      | ret v => exact hf
      | brk => exact hf
      | next =>
        obtain ⟨h', tk', m', news', e, F', N', off, hl, j'⟩ := hf
        exact ⟨h', tk', m', news', e, F', N', off, hl, list_inv J turn done r m' news' j'⟩
      | cont =>
        obtain ⟨h', tk', m', news', e, F', N', off, hl, j'⟩ := hf
        exact ⟨h', tk', m', news', e, F', N', off, hl, list_inv J turn done r m' news' j'⟩) fun _ _ e => e
noncomputable def RTurnEnd (h₀ : Heap) (L : Addr) (s : Shared) (I : Addr) (it : Obj) (Q : Flow → Shared → Prop) (J : (Str → Option Value) → Led → Prop) (f : Flow) (s₂ : Shared) : Prop := match f with
  | .ret v => Q (.ret v) s₂
  | .brk => Q .next s₂
  | _ => ∃ h' tk m' news', s₂ = { s with heap := h', toks := tk } ∧ Fr h₀ L h' m' ∧ News h₀ L h' ((I, it) :: news') ∧ (∀ q ∈ news', q.1 ≠ I) ∧ J m' news'
theorem RTurnEnd.intro {L I : Addr} {it : Obj} {J : (Str → Option Value) → Led → Prop} {h' : Heap} {tk : Nat} {m' : Str → Option Value} {all : Led} (news' : Led) (F : Fr h₀ L h' m') (N : News h₀ L h' all)
    (sub : ∀ q ∈ (I, it) :: news', q ∈ all) (off : ∀ q ∈ news', q.1 ≠ I) (j : J m' news') : RTurnEnd h₀ L s I it Q J .next { s with heap := h', toks := tk } :=
  ⟨h', tk, m', news', rfl, F, fun q hq => N q (sub q hq), off, j⟩
theorem range_inv {I : Addr} {a : Int} {n : Nat} (J : Nat → (Str → Option Value) → Led → Prop)
    (turn : ∀ i m news it t h tk, i < n → J i m news → Fr h₀ env.locals h (fun y => if y = x then some (.int (a + (i : Int)) t) else m y) → News h₀ env.locals h ((I, it) :: news) →
      wpAny (model prog w) A (execs body env) (RTurnEnd h₀ env.locals { s with heap := h, toks := tk } I it Q (J (i + 1))) E { s with heap := h, toks := tk })
    (done : ∀ m news h tk, J n m news → Fr h₀ env.locals h m → News h₀ env.locals h news → Q .next { s with heap := h, toks := tk }) :
    ∀ k i m news, i + k = n → J i m news → RangeRest prog w A E h₀ env x body Q s I a n k i m news
  | 0, i, m, news, e, j => RangeRest.zero fun h tk F N => done m news h tk (by rw [Nat.add_zero] at e; exact e ▸ j) F N
  | k + 1, i, m, news, e, j => RangeRest.succ fun t h tk F N => wpAny_mono (turn i m news _ t h tk (by omega) j F N) (fun f s₂ hf => by
      cases f with
      | ret v => exact hf
      | brk => exact hf
      | next =>
        obtain ⟨h', tk', m', news', e', F', N', off, j'⟩ := hf
        exact ⟨h', tk', m', news', e', F', N', off, range_inv J turn done k (i + 1) m' news' (by omega) j'⟩
      | cont =>
        obtain ⟨h', tk', m', news', e', F', N', off, j'⟩ := hf
        exact ⟨h', tk', m', news', e', F', N', off, range_inv J turn done k (i + 1) m' news' (by omega) j'⟩) fun _ _ e => e
end
end

section
open PySem PySem.W PySem.Calls PyProof.Rows
set_option Elab.async false
set_option linter.unusedSectionVars false
theorem range_facts {n : Nat} (h : n ≤ 7) : Builtin.Range.small 0 (n : Int) 1 = true ∧ Builtin.Range.rangeSize 0 (n : Int) 1 = (n : Int) := by
  have : n = 0 ∨ n = 1 ∨ n = 2 ∨ n = 3 ∨ n = 4 ∨ n = 5 ∨ n = 6 ∨ n = 7 := by omega
  rcases this with rfl | rfl | rfl | rfl | rfl | rfl | rfl | rfl <;> decide +kernel
section
variable {prog : Program} {w : World} {A : Around} {E : Value → Shared → Prop} {s : Shared} {env : Env} {h₀ : Heap} {x : Str} {body : List Stmt} {Q : Flow → Shared → Prop} {m₀ : Str → Option Value} {news : Led}
noncomputable def StEnd {σ : Type} (h₀ : Heap) (L : Addr) (s : Shared) (x : Str) (v : Option Value) (I : Addr) (it : Obj) (M : σ → Str → Option Value) (G : σ → Led) (P : σ → Prop) (Q : Flow → Shared → Prop) (f : Flow) (s₂ : Shared) : Prop := match f with
  | .ret v' => Q (.ret v') s₂
  | .brk => Q .next s₂
  | _ => ∃ h' tk' σ', s₂ = { s with heap := h', toks := tk' } ∧ Fr h₀ L h' (fun y => if y = x then v else M σ' y) ∧ News h₀ L h' ((I, it) :: G σ') ∧ (∀ q ∈ G σ', q.1 ≠ I) ∧ P σ'
theorem StEnd.intro {σ : Type} {L : Addr} {v : Option Value} {I : Addr} {it : Obj} {M : σ → Str → Option Value} {G : σ → Led} {P : σ → Prop} {h' : Heap} {tk' : Nat} {m' : Str → Option Value} {all : Led} (σ' : σ) (F : Fr h₀ L h' m') (hm : m' = fun y => if y = x then v else M σ' y)
    (N : News h₀ L h' all) (sub : ∀ q ∈ (I, it) :: G σ', q ∈ all) (off : ∀ q ∈ G σ', q.1 ≠ I) (hP : P σ') : StEnd h₀ L s x v I it M G P Q .next { s with heap := h', toks := tk' } :=
  ⟨h', tk', σ', rfl, hm ▸ F, fun q hq => N q (sub q hq), off, hP⟩
theorem twice (x : Str) (v u : Option Value) (m : Str → Option Value) : (fun y => if y = x then v else if y = x then u else m y) = fun y => if y = x then v else m y := by
  funext y; by_cases h : y = x <;> simp [h]
theorem once (x : Str) (m : Str → Option Value) : m = fun y => if y = x then m x else m y := by
  funext y; by_cases h : y = x <;> simp [h]
theorem for_state {σ : Type} (M : σ → Str → Option Value) (G : σ → Led) (P : List Value → σ → Prop) {ax : Addr} {vs : List Value} {n : Nat}
    (hh : A.handled = none) (F : Fr h₀ env.locals s.heap m₀) (N : News h₀ env.locals s.heap news) (hm : (ax, W.listOf vs.toArray n) ∈ news)
    (σ₀ : σ) (hM : M σ₀ = m₀) (hG : G σ₀ = news) (hP : P vs σ₀) (hlp : ∀ st, (ax, W.listOf vs.toArray n) ∈ G st)
    (turn : ∀ v r st u I it h tk, P (v :: r) st → it.cls = .type "list_iterator" → (∀ q ∈ news, q.1 < I) → (∀ q ∈ G st, q.1 ≠ I) → Fr h₀ env.locals h (fun y => if y = x then some v else if y = x then u else M st y) → News h₀ env.locals h ((I, it) :: G st) →
      wpAny (model prog w) A (execs body env) (StEnd h₀ env.locals { s with heap := h, toks := tk } x (some v) I it M G (P r) Q) E { s with heap := h, toks := tk })
    (done : ∀ st u h tk, P [] st → Fr h₀ env.locals h (fun y => if y = x then u else M st y) → News h₀ env.locals h (G st) → Q .next { s with heap := h, toks := tk }) :
    wpAny (model prog w) A (pyIter (.ref ax)) (fun it s₂ => LoopAtV prog w A h₀ env x body Q E it s₂) E s := by
  refine iter_listUnr hh F N hm rfl rfl fun I hI => ?_
  refine list_inv (J := fun r m nw => ∃ st u, P r st ∧ m = (fun y => if y = x then u else M st y) ∧ nw = G st ∧ ∀ q ∈ G st, q.1 ≠ I) (fun v r m nw it h tk j hc F' N' => ?_) (fun m nw h tk j F' N' => ?_) vs m₀ news ⟨σ₀, m₀ x, hP, by rw [hM]; exact once x m₀, hG.symm, by rw [hG]; exact fun q hq => Nat.ne_of_lt (hI q hq)⟩
  · obtain ⟨st, u, hp, rfl, rfl, off⟩ := j
    refine wpAny_mono (turn v r st u I it h tk hp hc hI off F' N') (fun f s₂ hf => ?_) fun _ _ e => e
    cases f with
    | ret v' => exact hf
    | brk => exact hf
    | next =>
      obtain ⟨h', tk', σ', e, F'', N'', off', hp'⟩ := hf
      exact ⟨h', tk', _, _, e, F'', N'', off', hlp σ', σ', some v, hp', rfl, rfl, off'⟩
    | cont =>
      obtain ⟨h', tk', σ', e, F'', N'', off', hp'⟩ := hf
      exact ⟨h', tk', _, _, e, F'', N'', off', hlp σ', σ', some v, hp', rfl, rfl, off'⟩
  · obtain ⟨st, u, hp, rfl, rfl, off⟩ := j
    exact done st u h tk hp F' N'
theorem for_range {σ : Type} (M : σ → Str → Option Value) (G : σ → Led) (P : Nat → σ → Prop) {r : Addr} {a b : Int} {t₀ u₀ v₀ : Tok} {n : Nat}
    (hh : A.handled = none) (hr : IsRange s.heap r a b 1 t₀ u₀ v₀) (hsmall : Builtin.Range.small a b 1 = true) (hn : Builtin.Range.rangeSize a b 1 = (n : Int)) (F : Fr h₀ env.locals s.heap m₀) (N : News h₀ env.locals s.heap news)
    (σ₀ : σ) (hM : M σ₀ = m₀) (hG : G σ₀ = news) (hP : P 0 σ₀)
    (turn : ∀ i st u I it t h tk, i < n → P i st → (∀ q ∈ news, q.1 < I) → (∀ q ∈ G st, q.1 ≠ I) → Fr h₀ env.locals h (fun y => if y = x then some (.int (a + (i : Int)) t) else if y = x then u else M st y) → News h₀ env.locals h ((I, it) :: G st) →
      wpAny (model prog w) A (execs body env) (StEnd h₀ env.locals { s with heap := h, toks := tk } x (some (.int (a + (i : Int)) t)) I it M G (P (i + 1)) Q) E { s with heap := h, toks := tk })
    (done : ∀ st u h tk, P n st → Fr h₀ env.locals h (fun y => if y = x then u else M st y) → News h₀ env.locals h (G st) → Q .next { s with heap := h, toks := tk }) :
    wpAny (model prog w) A (pyIter (.ref r)) (fun it s₂ => LoopAtV prog w A h₀ env x body Q E it s₂) E s := by
  refine iter_rangeUnr hh hr hsmall hn F N fun I hI => ?_
  refine range_inv (J := fun i m nw => ∃ st u, P i st ∧ m = (fun y => if y = x then u else M st y) ∧ nw = G st ∧ ∀ q ∈ G st, q.1 ≠ I) (fun i m nw it t h tk hi j F' N' => ?_) (fun m nw h tk j F' N' => ?_) n 0 m₀ news (Nat.zero_add n) ⟨σ₀, m₀ x, hP, by rw [hM]; exact once x m₀, hG.symm, by rw [hG]; exact fun q hq => Nat.ne_of_lt (hI q hq)⟩
  · obtain ⟨st, u, hp, rfl, rfl, off⟩ := j
    refine wpAny_mono (turn i st u I it t h tk hi hp hI off F' N') (fun f s₂ hf => ?_) fun _ _ e => e
    cases f with
    | ret v' => exact hf
    | brk => exact hf
    | next =>
      obtain ⟨h', tk', σ', e, F'', N'', off', hp'⟩ := hf
      exact ⟨h', tk', _, _, e, F'', N'', off', σ', _, hp', rfl, rfl, off'⟩
    | cont =>
      obtain ⟨h', tk', σ', e, F'', N'', off', hp'⟩ := hf
      exact ⟨h', tk', _, _, e, F'', N'', off', σ', _, hp', rfl, rfl, off'⟩
  · obtain ⟨st, u, hp, rfl, rfl, off⟩ := j
    exact done st u h tk hp F' N'
/-- a loop that turns one object of the ledger -/
noncomputable def OneEnd {σ : Type} (h₀ : Heap) (L : Addr) (s : Shared) (x : Str) (v : Option Value) (I : Addr) (it : Obj) (m₀ : Str → Option Value) (G : σ → Led) (P : σ → Prop) (Q : Flow → Shared → Prop) (f : Flow) (s₂ : Shared) : Prop := match f with
  | .ret v' => Q (.ret v') s₂
  | .brk => Q .next s₂
  | _ => ∃ h' tk' σ', s₂ = { s with heap := h', toks := tk' } ∧ Fr h₀ L h' (fun y => if y = x then v else m₀ y) ∧ News h₀ L h' ((I, it) :: G σ') ∧ P σ'
theorem OneEnd.intro {σ : Type} {L : Addr} {v u : Option Value} {I : Addr} {it : Obj} {G : σ → Led} {P : σ → Prop} {h' : Heap} {tk' : Nat} (σ' : σ) (F : Fr h₀ L h' (fun y => if y = x then v else if y = x then u else m₀ y))
    (N : News h₀ L h' ((I, it) :: G σ')) (hP : P σ') : OneEnd h₀ L s x v I it m₀ G P Q .next { s with heap := h', toks := tk' } :=
  ⟨h', tk', σ', rfl, twice x v u m₀ ▸ F, N, hP⟩
theorem updF_addr {pb : Addr} {o₀ : Obj} {g : Obj → Led} (U : UpdF pb o₀ news g) (o : Obj) : ∀ q ∈ g o, ∃ q' ∈ news, q'.1 = q.1 := by
  obtain ⟨pre, post, rfl, hg, _, _⟩ := U.split
  intro q hq
  rw [hg] at hq
  rcases List.mem_append.mp hq with hq | hq
  · exact ⟨q, List.mem_append_left _ hq, rfl⟩
  · rcases List.mem_cons.mp hq with rfl | hq
    · exact ⟨(pb, o₀), List.mem_append_right _ (.head _), rfl⟩
    · exact ⟨q, List.mem_append_right _ (.tail _ hq), rfl⟩
theorem updF_mem {pb : Addr} {o₀ : Obj} {g : Obj → Led} (U : UpdF pb o₀ news g) {q : Addr × Obj} (hq : q ∈ news) (hne : q.1 ≠ pb) (o : Obj) : q ∈ g o := by
  obtain ⟨pre, post, rfl, hg, _, _⟩ := U.split
  rw [hg]
  rcases List.mem_append.mp hq with hq | hq
  · exact List.mem_append_left _ hq
  · rcases List.mem_cons.mp hq with rfl | hq
    · exact absurd rfl hne
    · exact List.mem_append_right _ (.tail _ hq)
theorem updF_self {pb : Addr} {o₀ : Obj} {g : Obj → Led} (U : UpdF pb o₀ news g) : g o₀ = news := by
  obtain ⟨pre, post, rfl, hg, _, _⟩ := U.split
  rw [hg]
theorem for_one {σ : Type} {pb : Addr} {o₀ : Obj} {g : Obj → Led} (ob : σ → Obj) (P : List Value → σ → Prop) {ax : Addr} {vs : List Value} {n : Nat}
    (hh : A.handled = none) (F : Fr h₀ env.locals s.heap m₀) (N : News h₀ env.locals s.heap news) (hm : (ax, W.listOf vs.toArray n) ∈ news) (U : UpdF pb o₀ news g) (hax : @Ne Nat ax pb)
    (σ₀ : σ) (h0 : ob σ₀ = o₀) (hP : P vs σ₀)
    (turn : ∀ v r st u I it h tk, P (v :: r) st → it.cls = .type "list_iterator" → (∀ q ∈ news, q.1 < I) → Fr h₀ env.locals h (fun y => if y = x then some v else if y = x then u else m₀ y) → News h₀ env.locals h ((I, it) :: g (ob st)) →
      wpAny (model prog w) A (execs body env) (OneEnd h₀ env.locals { s with heap := h, toks := tk } x (some v) I it m₀ (fun st => g (ob st)) (P r) Q) E { s with heap := h, toks := tk })
    (done : ∀ st u h tk, P [] st → Fr h₀ env.locals h (fun y => if y = x then u else m₀ y) → News h₀ env.locals h (g (ob st)) → Q .next { s with heap := h, toks := tk }) :
    wpAny (model prog w) A (pyIter (.ref ax)) (fun it s₂ => LoopAtV prog w A h₀ env x body Q E it s₂) E s :=
  for_state (fun _ => m₀) (fun st => g (ob st)) P hh F N hm σ₀ rfl (by rw [h0]; exact updF_self U) hP (fun st => updF_mem U hm hax _)
    (fun v r st u I it h tk hp hc hI off F' N' => wpAny_mono (turn v r st u I it h tk hp hc hI F' N') (fun f s₂ hf => by
      have off' : ∀ st', ∀ q ∈ g (ob st'), q.1 ≠ I := fun st' q hq => by
        obtain ⟨q', h1, h2⟩ := updF_addr U _ q hq
        exact h2 ▸ Nat.ne_of_lt (hI q' h1)
      cases f with
      | ret v' => exact hf
      | brk => exact hf
      | next => obtain ⟨h', tk', σ', e, F'', N'', hp'⟩ := hf; exact ⟨h', tk', σ', e, F'', N'', off' σ', hp'⟩
      | cont => obtain ⟨h', tk', σ', e, F'', N'', hp'⟩ := hf; exact ⟨h', tk', σ', e, F'', N'', off' σ', hp'⟩) fun _ _ e => e) done
/-- a range's loop that makes one new object a turn, under a name, and turns another one of the ledger -/
noncomputable def TwoEnd {σ : Type} (h₀ : Heap) (L : Addr) (s : Shared) (x nm : Str) (v u d : Option Value) (I : Addr) (it : Obj) (m₁ : Str → Option Value) (news₁ : Led) (oA : σ → Obj) (G : σ → Led) (P : σ → Prop) (Q : Flow → Shared → Prop) (f : Flow) (s₂ : Shared) : Prop := match f with
  | .ret v' => Q (.ret v') s₂
  | .brk => Q .next s₂
  | _ => ∃ h' tk' a' σ', s₂ = { s with heap := h', toks := tk' } ∧ Fr h₀ L h' (fun y => if y = nm then some (.ref a') else if y = x then v else if y = x then u else if y = nm then d else m₁ y) ∧
      News h₀ L h' ((I, it) :: (a', oA σ') :: G σ') ∧ (∀ q ∈ news₁, q.1 ≠ a') ∧ a' ≠ I ∧ P σ'
theorem TwoEnd.intro {σ : Type} {L : Addr} {x nm : Str} {v u d : Option Value} {I : Addr} {it : Obj} {m₁ : Str → Option Value} {news₁ : Led} {oA : σ → Obj} {G : σ → Led} {P : σ → Prop} {h' : Heap} {tk' : Nat} {all : Led} (a' : Addr) (σ' : σ)
    (F : Fr h₀ L h' (fun y => if y = nm then some (.ref a') else if y = x then v else if y = x then u else if y = nm then d else m₁ y)) (N : News h₀ L h' all) (sub : ∀ q ∈ (I, it) :: (a', oA σ') :: G σ', q ∈ all) (off : ∀ q ∈ news₁, q.1 ≠ a') (hI : a' ≠ I) (hP : P σ') :
    TwoEnd h₀ L s x nm v u d I it m₁ news₁ oA G P Q .next { s with heap := h', toks := tk' } := ⟨h', tk', a', σ', rfl, F, fun q hq => N q (sub q hq), off, hI, hP⟩
theorem for_range2 {σ : Type} {nm : Str} {a₀ pb : Addr} {oA₀ oB₀ : Obj} {g : Obj → Led} {news₁ : Led} {m₁ : Str → Option Value} (oA oB : σ → Obj) (P : Nat → σ → Prop) {r : Addr} {a b : Int} {t₀ u₀ v₀ : Tok} {n : Nat}
    (hh : A.handled = none) (hr : IsRange s.heap r a b 1 t₀ u₀ v₀) (hsmall : Builtin.Range.small a b 1 = true) (hn : Builtin.Range.rangeSize a b 1 = (n : Int))
    (F : Fr h₀ env.locals s.heap (fun y => if y = nm then some (.ref a₀) else m₁ y)) (N : News h₀ env.locals s.heap ((a₀, oA₀) :: news₁)) (U : UpdF pb oB₀ news₁ g) (hoff : ∀ q ∈ news₁, q.1 ≠ a₀)
    (σ₀ : σ) (hA : oA σ₀ = oA₀) (hB : oB σ₀ = oB₀) (hP : P 0 σ₀) (hnx : nm ≠ x)
    (turn : ∀ i st aa u d I it t h tk, i < n → P i st → (∀ q ∈ news₁, q.1 ≠ aa) → (∀ q ∈ news₁, q.1 < I) → @Ne Nat aa I →
      Fr h₀ env.locals h (fun y => if y = x then some (.int (a + (i : Int)) t) else if y = x then u else if y = nm then some (.ref aa) else m₁ y) → News h₀ env.locals h ((I, it) :: (aa, oA st) :: g (oB st)) → d = some (.ref aa) →
      wpAny (model prog w) A (execs body env) (TwoEnd h₀ env.locals { s with heap := h, toks := tk } x nm (some (.int (a + (i : Int)) t)) u d I it m₁ news₁ oA (fun st => g (oB st)) (P (i + 1)) Q) E { s with heap := h, toks := tk })
    (done : ∀ st aa u h tk, P n st → (∀ q ∈ news₁, q.1 ≠ aa) → Fr h₀ env.locals h (fun y => if y = x then u else if y = nm then some (.ref aa) else m₁ y) → News h₀ env.locals h ((aa, oA st) :: g (oB st)) → Q .next { s with heap := h, toks := tk }) :
    wpAny (model prog w) A (pyIter (.ref r)) (fun it s₂ => LoopAtV prog w A h₀ env x body Q E it s₂) E s := by
  refine for_range (σ := Addr × σ) (fun p y => if y = nm then some (.ref p.1) else m₁ y) (fun p => (p.1, oA p.2) :: g (oB p.2)) (fun i p => P i p.2 ∧ ∀ q ∈ news₁, q.1 ≠ p.1) hh hr hsmall hn F N (a₀, σ₀) rfl (by rw [hA, hB, updF_self U]) ⟨hP, hoff⟩
    (fun i st u I it t h tk hi hp hI hne F' N' => ?_) (fun st u h tk hp F' N' => done st.2 st.1 u h tk hp.1 hp.2 F' N')
  refine wpAny_mono (turn i st.2 st.1 u _ I it t h tk hi hp.1 hp.2 (fun q hq => hI q (.tail _ hq)) (fun e => hne (st.1, oA st.2) (.head _) e) F' N' rfl) (fun f s₂ hf => ?_) fun _ _ e => e
  have key : (∃ h' tk' a' σ', s₂ = { s with heap := h', toks := tk' } ∧ Fr h₀ env.locals h' (fun y => if y = nm then some (.ref a') else if y = x then some (.int (a + (i : Int)) t) else if y = x then u else if y = nm then some (.ref st.1) else m₁ y) ∧
      News h₀ env.locals h' ((I, it) :: (a', oA σ') :: g (oB σ')) ∧ (∀ q ∈ news₁, q.1 ≠ a') ∧ a' ≠ I ∧ P (i + 1) σ') →
      ∃ h' tk' σ', s₂ = { s with heap := h', toks := tk' } ∧ Fr h₀ env.locals h' (fun y => if y = x then some (.int (a + (i : Int)) t) else if y = nm then some (.ref (σ' : Addr × σ).1) else m₁ y) ∧ News h₀ env.locals h' ((I, it) :: (σ'.1, oA σ'.2) :: g (oB σ'.2)) ∧
        (∀ q ∈ (σ'.1, oA σ'.2) :: g (oB σ'.2), q.1 ≠ I) ∧ P (i + 1) σ'.2 ∧ ∀ q ∈ news₁, q.1 ≠ σ'.1 := fun ⟨h', tk', a', σ', e, F'', N'', o1, o2, hp'⟩ => by
    refine ⟨h', tk', (a', σ'), e, ?_, N'', fun q hq => ?_, hp', o1⟩
    · have e2 : (fun y => if y = nm then some (Value.ref a') else if y = x then some (.int (a + (i : Int)) t) else if y = x then u else if y = nm then some (.ref st.1) else m₁ y) = fun y => if y = x then some (.int (a + (i : Int)) t) else if y = nm then some (.ref a') else m₁ y := by
        funext y
        by_cases h1 : y = nm
        · subst h1; rw [if_pos rfl, if_neg hnx, if_pos rfl]
        · by_cases h2 : y = x
          · subst h2; simp [h1]
          · simp [h1, h2]
      exact e2 ▸ F''
    · rcases List.mem_cons.mp hq with rfl | hq
      · exact o2
      · obtain ⟨q', h1, h2⟩ := updF_addr U _ q hq
        exact h2 ▸ Nat.ne_of_lt (hI q' (.tail _ h1))
  cases f with
  | ret v' => exact hf
  | brk => exact hf
  | next => exact key hf
  | cont => exact key hf
end
end

section
open PySem PySem.W PySem.Calls PyProof.Rows
set_option Elab.async false
set_option maxRecDepth 100000
set_option linter.unusedSectionVars false
noncomputable def Starts (L : List Value) : Prop := ∃ tok tv items, L = Value.str tok tv :: items
noncomputable def StartsIf (c : Bool) (L : List Value) : Prop := c = true → Starts L
theorem StartsIf.use {c : Bool} {L : List Value} (h : StartsIf c L) (hc : c = true) : Starts L := h hc
theorem starts_snoc {X : List Value} {xs : List Str} {y : Str} {t : Tok} (h : StrsAre X xs) : Starts (X ++ [Value.str y t]) := by
  cases h with
  | nil => exact ⟨y, t, [], rfl⟩
  | cons r t' _ => exact ⟨r, t', _, rfl⟩
theorem strs_append {a b : List Value} {x y : List Str} (h : StrsAre a x) (h' : StrsAre b y) : StrsAre (a ++ b) (x ++ y) := by
  induction h with
  | nil => exact h'
  | cons r t _ ih => exact .cons r t ih
theorem strs_reverse {a : List Value} {x : List Str} (h : StrsAre a x) : StrsAre a.reverse x.reverse := by
  induction h with
  | nil => exact .nil
  | cons r t _ ih => rw [List.reverse_cons, List.reverse_cons]; exact strs_append ih (.cons r t .nil)
theorem strs_take {a : List Value} {x : List Str} (h : StrsAre a x) (n : Nat) : StrsAre (a.take n) (x.take n) := by
  induction h generalizing n with
  | nil => simp; exact .nil
  | cons r t _ ih => cases n with
    | zero => exact .nil
    | succ n => exact .cons r t (ih n)
theorem strs_drop {a : List Value} {x : List Str} (h : StrsAre a x) (n : Nat) : StrsAre (a.drop n) (x.drop n) := by
  induction h generalizing n with
  | nil => simp; exact .nil
  | cons r t h' ih => cases n with
    | zero => exact .cons r t h'
    | succ n => exact ih n
section
variable {w : World} {A₀ A : Around} {s : Shared} {base h₀ h h' : Heap} {outer : List Env} {L : Addr} {m : Str → Option Value} {env : Env} {news news' sub : Led} 
  {p : Program} {loose : List Str} {mean : ExcName → Option Value} {mg mb : Str → Option Value} {Q : Value → Shared → Prop} {E : Value → Shared → Prop}
  {x dx pb : Addr} {h1 h2 h3 h4 : Int} {t1 t2 t3 t4 : Tok} {v1 v2 v3 : Value} {ne n : Nat} {V : List Value} {g : Obj → Led}
theorem upd_of_F {d : Addr} {o : Obj} (U : UpdF d o news g) (o' : Obj) : Upd d o o' news (g o') := by
  induction U with
  | head h => exact .head h
  | tail h _ ih => exact .tail h ih
theorem get_ex (B : Below A₀ base outer h₀) (F : Fr h₀ L s.heap m) (X : (hd.heap_1 w.params).In h₀) (N : News h₀ L s.heap news) (T : Top p loose mean mg mb h₀)
    (hA : A.frames = some (env :: outer)) (hh : A.handled = none) (hf : env.frame = some L) (hke : env.scope.kind = .function) (hd : A.depth ≤ 450) (hu : A.units ≤ 450)
    (hx : (x, instObj 52 dx) ∈ news) (hdx : (dx, dictOf (lexD h1 h2 h3 h4 t1 t2 t3 t4 v1 v2 v3 (Value.ref pb)) ne) ∈ news)
    (U : UpdF pb (W.listOf V.toArray n) news g) (hV : Starts V) (n1 : @Ne Nat x dx) (n2 : @Ne Nat x pb) (n3 : @Ne Nat dx pb) (hlen : V.length < 1000)
    (k : ∀ tok tv items h' tk', V = Value.str tok tv :: items → Fr h₀ L h' m → News h₀ L h' (g (W.listOf items.toArray (n + 1))) → Q (.str tok tv) { s with heap := h', toks := tk' }) :
    wpAny (model PySem.Challenge.rw_wn0036_01.row.prog w) A (call (.ref 42) [.ref x]) Q E s := by
  obtain ⟨tok, tv, items, rfl⟩ := hV
  exact get_use B F X N T hA hh hf hke hd hu hx hdx (upd_of_F U _) n1 n2 n3 (by rw [List.length_cons] at hlen; omega) fun h' tk' F' N' => k tok tv items h' tk' rfl F' N'
end
section
variable {prog : Program} {w : World} {A : Around} {E : Value → Shared → Prop} {s : Shared} {env : Env} {h₀ : Heap} {x nA nB : Str} {body : List Stmt} {Q : Flow → Shared → Prop} {m₁ : Str → Option Value} {news : Led}
theorem fr_A {v u a a' b : Option Value} (e1 : nA ≠ x) (e2 : nA ≠ nB) : (fun y => if y = nA then a' else if y = x then v else if y = x then u else if y = nB then b else if y = nA then a else m₁ y) = fun y => if y = x then v else if y = nB then b else if y = nA then a' else m₁ y := by
  funext y
  by_cases h1 : y = nA
  · subst h1; simp [e1, e2]
  · by_cases h2 : y = x
    · subst h2; simp [h1]
    · simp [h1, h2]
theorem fr_B {v u a b b' : Option Value} (e1 : nB ≠ x) : (fun y => if y = nB then b' else if y = x then v else if y = x then u else if y = nB then b else if y = nA then a else m₁ y) = fun y => if y = x then v else if y = nB then b' else if y = nA then a else m₁ y := by
  funext y
  by_cases h1 : y = nB
  · subst h1; simp [e1]
  · by_cases h2 : y = x
    · subst h2; simp [h1]
    · simp [h1, h2]
/-- a loop that keeps two names and two objects -/
noncomputable def DuoEnd {σ : Type} (h₀ : Heap) (L : Addr) (s : Shared) (x nA nB : Str) (v : Option Value) (I : Addr) (it : Obj) (m₁ : Str → Option Value) (vA vB : σ → Value) (G : σ → Led) (P : σ → Prop) (Q : Flow → Shared → Prop) (f : Flow) (s₂ : Shared) : Prop := match f with
  | .ret v' => Q (.ret v') s₂
  | .brk => Q .next s₂
  | _ => ∃ h' tk' σ', s₂ = { s with heap := h', toks := tk' } ∧ Fr h₀ L h' (fun y => if y = x then v else if y = nB then some (vB σ') else if y = nA then some (vA σ') else m₁ y) ∧ News h₀ L h' ((I, it) :: G σ') ∧ P σ'
theorem DuoEnd.intro {σ : Type} {L : Addr} {v : Option Value} {I : Addr} {it : Obj} {vA vB : σ → Value} {G : σ → Led} {P : σ → Prop} {h' : Heap} {tk' : Nat} {m' : Str → Option Value} {all : Led} (σ' : σ) (F : Fr h₀ L h' m')
    (e : m' = fun y => if y = x then v else if y = nB then some (vB σ') else if y = nA then some (vA σ') else m₁ y) (N : News h₀ L h' all) (sub : ∀ q ∈ (I, it) :: G σ', q ∈ all) (hP : P σ') :
    DuoEnd h₀ L s x nA nB v I it m₁ vA vB G P Q .next { s with heap := h', toks := tk' } := ⟨h', tk', σ', rfl, e ▸ F, fun q hq => N q (sub q hq), hP⟩
theorem for_two {σ : Type} {pA pB ax : Addr} {oA₀ oB₀ : Obj} {bA bB : Value} {g1 : Obj → Led} {g2 : Obj → Obj → Led} (oA oB : σ → Obj) (vA vB : σ → Value) (P : List Value → σ → Prop) {vs : List Value} {n : Nat}
    (hh : A.handled = none) (F : Fr h₀ env.locals s.heap (fun y => if y = nB then some bB else if y = nA then some bA else m₁ y)) (N : News h₀ env.locals s.heap news) (hm : (ax, W.listOf vs.toArray n) ∈ news)
    (UA : UpdF pA oA₀ news g1) (UB : ∀ o, UpdF pB oB₀ (g1 o) (g2 o)) (haA : @Ne Nat ax pA) (haB : @Ne Nat ax pB)
    (σ₀ : σ) (h1 : oA σ₀ = oA₀) (h2 : oB σ₀ = oB₀) (h3 : vA σ₀ = bA) (h4 : vB σ₀ = bB) (hP : P vs σ₀)
    (turn : ∀ v r st u I it h tk, P (v :: r) st → it.cls = .type "list_iterator" → (∀ q ∈ news, q.1 < I) → Fr h₀ env.locals h (fun y => if y = x then some v else if y = x then u else if y = nB then some (vB st) else if y = nA then some (vA st) else m₁ y) →
      News h₀ env.locals h ((I, it) :: g2 (oA st) (oB st)) →
      wpAny (model prog w) A (execs body env) (DuoEnd h₀ env.locals { s with heap := h, toks := tk } x nA nB (some v) I it m₁ vA vB (fun st => g2 (oA st) (oB st)) (P r) Q) E { s with heap := h, toks := tk })
    (done : ∀ st u h tk, P [] st → Fr h₀ env.locals h (fun y => if y = x then u else if y = nB then some (vB st) else if y = nA then some (vA st) else m₁ y) → News h₀ env.locals h (g2 (oA st) (oB st)) → Q .next { s with heap := h, toks := tk }) :
    wpAny (model prog w) A (pyIter (.ref ax)) (fun it s₂ => LoopAtV prog w A h₀ env x body Q E it s₂) E s := by
  refine for_state (fun st y => if y = nB then some (vB st) else if y = nA then some (vA st) else m₁ y) (fun st => g2 (oA st) (oB st)) P hh F N hm σ₀ (by funext y; rw [h3, h4]) (by rw [h1, h2, updF_self (UB _), updF_self UA]) hP
    (fun st => updF_mem (UB _) (updF_mem UA hm haA _) haB _) (fun v r st u I it h tk hp hc hI _ F' N' => ?_) done
  refine wpAny_mono (turn v r st u I it h tk hp hc hI F' N') (fun f s₂ hf => ?_) fun _ _ e => e
  have off : ∀ st', ∀ q ∈ g2 (oA st') (oB st'), q.1 ≠ I := fun st' q hq => by
    obtain ⟨q1, a1, b1⟩ := updF_addr (UB _) _ q hq
    obtain ⟨q2, a2, b2⟩ := updF_addr UA _ q1 a1
    exact b1 ▸ b2 ▸ Nat.ne_of_lt (hI q2 a2)
  cases f with
  | ret v' => exact hf
  | brk => exact hf
  | next => obtain ⟨h', tk', σ', e, F'', N'', hp'⟩ := hf; exact ⟨h', tk', σ', e, F'', N'', off σ', hp'⟩
  | cont => obtain ⟨h', tk', σ', e, F'', N'', hp'⟩ := hf; exact ⟨h', tk', σ', e, F'', N'', off σ', hp'⟩
/-- an item of a list of texts of the ledger -/
theorem item_words {L D : Addr} {value slice : PySem.Expr} {vs : List Value} {rs : List Str} {k : Nat} {i : Int} {u : Tok} {Q : Value → Shared → Prop} (N : News h₀ L s.heap news) (hm : (D, W.listOf vs.toArray k) ∈ news) (hs : StrsAre vs rs) (h0 : 0 ≤ i) (h1 : i < rs.length) (hz : rs.length < 1000)
    (h : ∀ t, Q (.str (rs.getD i.toNat Str.empty) t) s)
    (hq : subscripted slice false (.ref D) (.int i u) = operate [.ref D, .int i u] (getItem (.ref D) (.int i u)) := by with_unfolding_all rfl) : wpAny (model prog w) A (subscriptTail value slice (.ref D) (.int i u)) Q E s := by
  have hlen := StrsAre.length hs
  obtain ⟨r, t, e⟩ : ∃ r t, vs[i.toNat]? = some (Value.str r t) ∧ rs[i.toNat]? = some r := by
    have key : ∀ {vs : List Value} {rs : List Str}, StrsAre vs rs → ∀ n, n < rs.length → ∃ r t, vs[n]? = some (Value.str r t) ∧ rs[n]? = some r := by
      intro vs rs h
      induction h with
      | nil => intro n hn; exact absurd hn (Nat.not_lt_zero _)
      | cons r t _ ih =>
        intro n hn
        cases n with
        | zero => exact ⟨r, t, rfl, rfl⟩
        | succ n => simpa using ih n (by simpa using hn)
    exact key hs _ (by omega)
  have e2 : rs.getD i.toNat Str.empty = r := by rw [List.getD_eq_getElem?_getD, e.2]; rfl
  exact tail_any (is_list N hm).typeIs slot_list_getitem.lookup (wpAny_getItem_list (is_list N hm) h0 (by omega) (by simpa using e.1) (e2 ▸ h t)) hq
end
end

section
open PySem PySem.W PySem.Calls PyProof.Rows
set_option Elab.async false
set_option maxRecDepth 100000
set_option linter.unusedSectionVars false
section
variable {prog : Program} {w : World} {A : Around} {E : Value → Shared → Prop} {s : Shared} {env : Env} {h₀ : Heap} {x nm aux : Str} {body : List Stmt} {Q : Flow → Shared → Prop} {m₁ : Str → Option Value} {news₁ : Led}
/-- a range's loop that makes one new object a turn, under a name; another name is stored too -/
noncomputable def NewEnd {σ : Type} (h₀ : Heap) (L : Addr) (s : Shared) (x nm aux : Str) (v u e d : Option Value) (I : Addr) (it : Obj) (m₁ : Str → Option Value) (news₁ : Led) (oA : σ → Obj) (P : σ → Prop) (Q : Flow → Shared → Prop) (f : Flow) (s₂ : Shared) : Prop := match f with
  | .ret v' => Q (.ret v') s₂
  | .brk => Q .next s₂
  | _ => ∃ h' tk' a' σ' e', s₂ = { s with heap := h', toks := tk' } ∧ Fr h₀ L h' (fun y => if y = nm then some (.ref a') else if y = aux then e' else if y = x then v else if y = x then u else if y = aux then e else if y = nm then d else m₁ y) ∧
      News h₀ L h' ((I, it) :: (a', oA σ') :: news₁) ∧ (∀ q ∈ news₁, q.1 ≠ a') ∧ a' ≠ I ∧ P σ'
theorem NewEnd.intro {σ : Type} {L : Addr} {v u e e' d : Option Value} {I : Addr} {it : Obj} {oA : σ → Obj} {P : σ → Prop} {h' : Heap} {tk' : Nat} {all : Led} (a' : Addr) (σ' : σ)
    (F : Fr h₀ L h' (fun y => if y = nm then some (.ref a') else if y = aux then e' else if y = x then v else if y = x then u else if y = aux then e else if y = nm then d else m₁ y)) (N : News h₀ L h' all) (sub : ∀ q ∈ (I, it) :: (a', oA σ') :: news₁, q ∈ all)
    (off : ∀ q ∈ news₁, q.1 ≠ a') (hI : a' ≠ I) (hP : P σ') : NewEnd h₀ L s x nm aux v u e d I it m₁ news₁ oA P Q .next { s with heap := h', toks := tk' } := ⟨h', tk', a', σ', e', rfl, F, fun q hq => N q (sub q hq), off, hI, hP⟩
theorem for_new {σ : Type} {a₀ : Addr} {oA₀ : Obj} (oA : σ → Obj) (P : Nat → σ → Prop) {r : Addr} {a b : Int} {t₀ u₀ v₀ : Tok} {n : Nat}
    (hh : A.handled = none) (hr : IsRange s.heap r a b 1 t₀ u₀ v₀) (hsmall : Builtin.Range.small a b 1 = true) (hn : Builtin.Range.rangeSize a b 1 = (n : Int))
    (F : Fr h₀ env.locals s.heap (fun y => if y = nm then some (.ref a₀) else m₁ y)) (N : News h₀ env.locals s.heap ((a₀, oA₀) :: news₁)) (hoff : ∀ q ∈ news₁, q.1 ≠ a₀)
    (σ₀ : σ) (hA : oA σ₀ = oA₀) (hP : P 0 σ₀) (hnx : nm ≠ x) (hax : aux ≠ x) (hna : nm ≠ aux)
    (turn : ∀ i st aa u e d I it t h tk, i < n → P i st → (∀ q ∈ news₁, q.1 ≠ aa) → (∀ q ∈ news₁, q.1 < I) → @Ne Nat aa I →
      Fr h₀ env.locals h (fun y => if y = x then some (.int (a + (i : Int)) t) else if y = x then u else if y = aux then e else if y = nm then some (.ref aa) else m₁ y) → News h₀ env.locals h ((I, it) :: (aa, oA st) :: news₁) → d = some (.ref aa) →
      wpAny (model prog w) A (execs body env) (NewEnd h₀ env.locals { s with heap := h, toks := tk } x nm aux (some (.int (a + (i : Int)) t)) u e d I it m₁ news₁ oA (P (i + 1)) Q) E { s with heap := h, toks := tk })
    (done : ∀ st aa u e h tk, P n st → (∀ q ∈ news₁, q.1 ≠ aa) → Fr h₀ env.locals h (fun y => if y = x then u else if y = aux then e else if y = nm then some (.ref aa) else m₁ y) → News h₀ env.locals h ((aa, oA st) :: news₁) → Q .next { s with heap := h, toks := tk }) :
    wpAny (model prog w) A (pyIter (.ref r)) (fun it s₂ => LoopAtV prog w A h₀ env x body Q E it s₂) E s := by
  refine for_range (σ := Addr × σ × Option Value) (fun p y => if y = aux then p.2.2 else if y = nm then some (.ref p.1) else m₁ y) (fun p => (p.1, oA p.2.1) :: news₁) (fun i p => P i p.2.1 ∧ ∀ q ∈ news₁, q.1 ≠ p.1) hh hr hsmall hn F N (a₀, σ₀, (fun y => if y = nm then some (.ref a₀) else m₁ y) aux) ?_ (by rw [hA]) ⟨hP, hoff⟩
    (fun i st u I it t h tk hi hp hI hne F' N' => ?_) (fun st u h tk hp F' N' => done st.2.1 st.1 u st.2.2 h tk hp.1 hp.2 F' N')
  · funext y
    by_cases h1 : y = aux
    · subst h1; simp
    · simp [h1]
  refine wpAny_mono (turn i st.2.1 st.1 u _ _ I it t h tk hi hp.1 hp.2 (fun q hq => hI q (.tail _ hq)) (fun e => hne (st.1, oA st.2.1) (.head _) e) F' N' rfl) (fun f s₂ hf => ?_) fun _ _ e => e
  have key : (∃ h' tk' a' σ' e', s₂ = { s with heap := h', toks := tk' } ∧ Fr h₀ env.locals h' (fun y => if y = nm then some (.ref a') else if y = aux then e' else if y = x then some (.int (a + (i : Int)) t) else if y = x then u else if y = aux then st.2.2 else if y = nm then some (.ref st.1) else m₁ y) ∧
      News h₀ env.locals h' ((I, it) :: (a', oA σ') :: news₁) ∧ (∀ q ∈ news₁, q.1 ≠ a') ∧ a' ≠ I ∧ P (i + 1) σ') →
      ∃ h' tk' σ', s₂ = { s with heap := h', toks := tk' } ∧ Fr h₀ env.locals h' (fun y => if y = x then some (.int (a + (i : Int)) t) else if y = aux then (σ' : Addr × σ × Option Value).2.2 else if y = nm then some (.ref σ'.1) else m₁ y) ∧ News h₀ env.locals h' ((I, it) :: (σ'.1, oA σ'.2.1) :: news₁) ∧
        (∀ q ∈ (σ'.1, oA σ'.2.1) :: news₁, q.1 ≠ I) ∧ P (i + 1) σ'.2.1 ∧ ∀ q ∈ news₁, q.1 ≠ σ'.1 := fun ⟨h', tk', a', σ', e', e, F'', N'', o1, o2, hp'⟩ => by
    refine ⟨h', tk', (a', σ', e'), e, ?_, N'', fun q hq => ?_, hp', o1⟩
    · have e2 : (fun y => if y = nm then some (Value.ref a') else if y = aux then e' else if y = x then some (.int (a + (i : Int)) t) else if y = x then u else if y = aux then st.2.2 else if y = nm then some (.ref st.1) else m₁ y) = fun y => if y = x then some (.int (a + (i : Int)) t) else if y = aux then e' else if y = nm then some (.ref a') else m₁ y := by
        funext y
        by_cases h1 : y = nm
        · subst h1; rw [if_pos rfl, if_neg hnx, if_neg hna, if_pos rfl]
        · by_cases h2 : y = x
          · subst h2; simp [h1, Ne.symm hax]
          · by_cases h3 : y = aux
            · subst h3; simp [h1, h2]
            · simp [h1, h2, h3]
      exact e2 ▸ F''
    · rcases List.mem_cons.mp hq with rfl | hq
      · exact o2
      · exact Nat.ne_of_lt (hI q (.tail _ hq))
  cases f with
  | ret v' => exact hf
  | brk => exact hf
  | next => exact key hf
  | cont => exact key hf
end
noncomputable def AllNe (d : Nat) : Led → Prop
  | [] => True
  | p :: r => @Ne Nat p.1 d ∧ AllNe d r
theorem allNe_of {d : Addr} : ∀ {l : Led}, (∀ p ∈ l, p.1 ≠ d) → AllNe d l
  | [], _ => trivial
  | p :: _, h => ⟨h p (.head _), allNe_of fun q hq => h q (.tail _ hq)⟩
theorem ints_append {a b : List Value} {x y : List Int} (h : IntsAre a x) (h' : IntsAre b y) : IntsAre (a ++ b) (x ++ y) := IntsAre.append h h'
theorem ints_take {a : List Value} {x : List Int} (h : IntsAre a x) (n : Nat) : IntsAre (a.take n) (x.take n) := by
  induction h generalizing n with
  | nil => simp; exact .nil
  | cons r t _ ih => cases n with
    | zero => exact .nil
    | succ n => exact .cons r t (ih n)
theorem ints_drop {a : List Value} {x : List Int} (h : IntsAre a x) (n : Nat) : IntsAre (a.drop n) (x.drop n) := by
  induction h generalizing n with
  | nil => simp; exact .nil
  | cons r t h' ih => cases n with
    | zero => exact .cons r t h'
    | succ n => exact ih n
end

local macro_rules | `(tactic| k_lt $h:ident) => `(tactic| ((have ab9 := above_of $h); (try simp only [List.map_cons, List.map_nil] at ab9); (replace $h := allLt_of $h); simp only [AllLt, and_true] at $h:ident))
local macro_rules | `(tactic| k_ne) => `(tactic| (refine neN ?_; (try dsimp only); first | exact Apart.l (by assumption) (by k_mem) | exact Apart.r (by assumption) (by k_mem) | exact Above.l (by assumption) (by k_mem) | exact Above.r (by assumption) (by k_mem) | omega))
local macro_rules | `(tactic| walk_at "call ref") => `(tactic| (k_here; (with_reducible show wpAny _ _ (call (Value.ref 49) _) _ _ _); k_dflt (refine' push_use ?k1 ?k2 ?k3 ?k4 ?k5 ?kA ?kh ?kF ?kK ?kd ?ku ?kx ?ky ?kU ?kn ?km ?ko ?kz ?_; (case kA => exact rfl); (case kh => exact rfl); (case kF => exact rfl); (case kK => exact rfl); (case k1 => k_asm); (case k2 => k_asm); (case k3 => k_asm); (case k4 => k_asm); (case k5 => k_asm); (case kd => exact Nat.le_of_ble_eq_true rfl); (case ku => exact Nat.le_of_ble_eq_true rfl); (case kx => k_mem); (case ky => k_mem); (case kU => k_upd); (case kn => k_ne); (case km => k_ne); (case ko => k_ne); (case kz => first | omega | (simp only [List.length_append, List.length_cons, List.length_nil]; omega)); k_whole; intro h' tk' F' N'; (try k_sweep))))
local macro_rules | `(tactic| walk_at "call ref") => `(tactic| (k_here; (with_reducible show wpAny _ _ (call (Value.ref 42) _) _ _ _); k_dflt (refine' get_ex ?k1 ?k2 ?k3 ?k4 ?k5 ?kA ?kh ?kF ?kK ?kd ?ku ?kx ?ky ?kU ?kV ?kn ?km ?ko ?kz ?_; (case kA => exact rfl); (case kh => exact rfl); (case kF => exact rfl); (case kK => exact rfl); (case k1 => k_asm); (case k2 => k_asm); (case k3 => k_asm); (case k4 => k_asm); (case k5 => k_asm); (case kd => exact Nat.le_of_ble_eq_true rfl); (case ku => exact Nat.le_of_ble_eq_true rfl); (case kx => k_mem); (case ky => k_mem); (case kU => k_updF); (case kV => first | exact starts_snoc (by assumption) | exact StartsIf.use (by assumption) (by assumption)); (case kn => k_ne); (case km => k_ne); (case ko => k_ne); (case kz => first | omega | (simp only [List.length_append, List.length_cons, List.length_nil]; omega)); k_whole; intro tok' tv' items' h' tk' e' F' N'; (try dsimp only at N'); (try k_sweep))))
local macro_rules | `(tactic| walk_at "call ref") => `(tactic| (k_here; (with_reducible show wpAny _ _ (call (Value.ref 42) _) _ _ _); k_dflt (refine' get_use ?k1 ?k2 ?k3 ?k4 ?k5 ?kA ?kh ?kF ?kK ?kd ?ku ?kx ?ky ?kU ?kn ?km ?ko ?kz ?_; (case kA => exact rfl); (case kh => exact rfl); (case kF => exact rfl); (case kK => exact rfl); (case k1 => k_asm); (case k2 => k_asm); (case k3 => k_asm); (case k4 => k_asm); (case k5 => k_asm); (case kd => exact Nat.le_of_ble_eq_true rfl); (case ku => exact Nat.le_of_ble_eq_true rfl); (case kx => k_mem); (case ky => k_mem); (case kU => k_upd); (case kn => k_ne); (case km => k_ne); (case ko => k_ne); (case kz => first | omega | (simp only [List.length_append, List.length_cons, List.length_nil]; omega)); k_whole; intro h' tk' F' N'; (try k_sweep))))
local macro_rules | `(tactic| walk_at "binaryOp Add ref ref") => `(tactic| (k_here; k_dflt (refine' add_t ?kF ?kN ?ka ?kb ?kz ?_; (case kF => k_asm); (case kN => k_asm); (case ka => k_mem); (case kb => k_mem); (case kz => first | omega | (simp only [List.length_append, List.length_cons, List.length_nil]; omega)); k_whole; intro q' h' tk' F' N' l1; (try k_lt l1); (try k_sweep))))
local macro_rules | `(tactic| walk_at "subscriptTail") => `(tactic| (k_here; (with_reducible show wpAny _ _ (subscriptTail _ _ (Value.ref _) (Value.int _ _)) _ _ _); k_dflt (refine' item_words ?kN ?km ?ks ?k0 ?k1 ?kz ?_ ?kq; (case kN => k_asm); (case km => k_mem); (case ks => assumption); (case k0 => omega); (case k1 => omega); (case kz => omega); (case kq => with_unfolding_all rfl); intro t')))
section
open PySem PySem.W PySem.Calls PyProof.Rows
set_option Elab.async false
set_option maxRecDepth 100000
set_option maxHeartbeats 8000000
-- a step that does not enter a loop

theorem order_spec (w p loose mean mg mb) (l : Addr) (vs : List Value) (ds : List Int) (k : Nat) (hI : IntsAre vs ds) (hlen : ds.length ≤ 6) :
    Sp w p loose mean mg mb 400 147 [Value.ref l] [(l, W.listOf vs.toArray k)]
      (fun h v h' => h'.get? l = some (W.listOf vs.toArray k) ∧ ∃ q zs k', v = .ref q ∧ h.get? q = none ∧ h'.get? q = some (W.listOf zs.toArray k') ∧ IntsAre zs (orderF ds)) := by
  k_with_none
  k_with "TB" => (repeat' (first | (k_unfold; (try dsimp only)) | (k_end; wrow_close) | ((fail_if_success (with_reducible show wpAny _ _ (pyIter _) _ _ _)); walk1) | (dsimp only; (fail_if_success (with_reducible show wpAny _ _ (pyIter _) _ _ _)); walk1) | (leave1; walk_say "STEP leave1"; try dsimp only) | fail "no step"))
  unfold Sp
  k_fill
  intro base b' outer s R st B X T N hret
  have hvl := hI.length
  ktr_unf
  clear st B X T N
  k_extra "TB"
  refine' for_new (n := ds.length) (aux := Str.ofString "place") (nm := Str.ofString "order") (fun st : List Value × Nat => W.listOf st.1.toArray st.2) (fun i st => ∃ os, IntsAre st.1 os ∧ os = (List.range i).foldl (fun o i => insF o (placeF ds i) (i : Int)) [] ∧ os.length = i) rfl (by assumption) ?r2 ?r3 (by k_asm) (by k_asm) ?u1 ([], 0) ?u2 ?u3 (by decide) (by decide) (by decide) ?turn ?done
  case u2 => exact rfl
  case u3 => exact ⟨[], .nil, rfl, rfl⟩
  case r2 => exact (range_facts (by omega)).1
  case r3 => exact (range_facts (by omega)).2
  case u1 => k_all
  case turn =>
    intro i st aa u e d I it t h tk hi hp ha hI haI F' N' hd
    obtain ⟨its, ki⟩ := st
    obtain ⟨os, hos, e1, e2⟩ := hp
    dsimp only at hos F' N'
    have hol := hos.length
    k_lt hI
    replace ha := apart_all ha
    simp only [List.map_cons, List.map_nil] at ha
    have hp0 : 0 ≤ (ds.getD (0 + (i : Int)).toNat 0 + 2 * (0 + (i : Int))).fmod (0 + (i : Int) + 1) := Int.fmod_nonneg_of_pos _ (by omega)
    k_extra "TB"
    subst hd
    have hz : (0 + (i : Int)).toNat = i := by omega
    refine NewEnd.intro _ (_, 0) (by k_asm) (by k_asm) (by kcj_all) (by k_all) (by k_ne) ⟨_, by assumption, ?_, ?_⟩
    · rw [List.range_succ, List.foldl_append, ← e1]
      simp only [List.foldl_cons, List.foldl_nil, insF, placeF, Int.zero_add, Int.toNat_natCast]
    · simp only [List.length_append, List.length_take, List.length_drop, List.length_cons, List.length_nil]; omega
  case done =>
    intro st aa u e h tk hp ha F' N'
    obtain ⟨its, ki⟩ := st
    obtain ⟨os, hos, e1, e2⟩ := hp
    dsimp only at hos F' N'
    k_extra "TB"
    exact hret _ _ _ (Gr.kept (by assumption) (by k_asm)) ⟨News.get (by k_asm) (by k_mem), _, its, ki, rfl, Gr.fresh (by assumption) (by k_asm) (by k_mem) ha, News.get (by k_asm) (by k_mem), by subst e1; exact hos⟩
end

section
open PySem PySem.W PySem.Calls PySem.Spec PyProof.Rows
set_option Elab.async false
set_option maxRecDepth 100000
set_option linter.unusedSectionVars false
/-- the turns of a comprehension over the values that are left; the tokens only grow -/
noncomputable def CompT (prog : Program) (w : World) (A : Around) (h₀ : Heap) (L : Addr) (m : Str → Option Value) (env : Env) (elt : PySem.Expr) (x : Str) (scope : Scope) (cl : List (Str × Addr)) (s : Shared) (lp : Addr × Obj) (Fin : List Value → Nat → Led → Prop) :
    List Value → List Value → Nat → Led → Prop
  | [], ys, T, news => Fin ys T news
  | v :: r, ys, T, news => ∀ I oI C oC D m₂ h tk (E' : Value → Shared → Prop), T ≤ tk → LCg.NsObj oC m₂ → m₂ x = some v → Fr h₀ L h m → News h₀ L h ((I, oI) :: (C, oC) :: (D, LCg.lst ys) :: news) → LCg.Off3 I C D news → ((@Ne Nat I C) ∧ (@Ne Nat I D) ∧ (@Ne Nat C D)) →
      wpAny (model prog w) A (eval elt (compEnvC scope cl C env)) (fun y s₂ => ∃ h' tk' news', s₂ = { s with heap := h', toks := tk' } ∧ Fr h₀ L h' m ∧ News h₀ L h' ((I, oI) :: (C, oC) :: (D, LCg.lst ys) :: news') ∧ LCg.Off3 I C D news' ∧ lp ∈ news' ∧
        CompT prog w A h₀ L m env elt x scope cl s lp Fin r (ys ++ [y]) tk' news') E' { s with heap := h, toks := tk }
section
variable {prog : Program} {w : World} {A : Around} {E : Value → Shared → Prop} {s : Shared} {h₀ : Heap} {L : Addr} {m : Str → Option Value} {env : Env}
theorem block_tok {elt iter : PySem.Expr} {x : Str} {px : Pos} {scope : Scope} {cl : List (Str × Addr)} {pos : Pos} {RR : Value → Addr → Result → Shared → Prop} {Fin : List Value → Nat → Led → Prop} {ax : Addr} {vs : List Value} {n : Nat} {news : Led} {s₁ : Shared}
    (hcell : ∀ y ∈ scope.names, y.2 ≠ .cell) (hkind : scope.kind = .function) (hx : scope.names.lookup x = some .local)
    (hh : A.handled = none) (F : Fr h₀ L s₁.heap m) (N : News h₀ L s₁.heap news) (hm : (ax, W.listOf vs.toArray n) ∈ news) (hsz : vs.length ≤ 1000)
    (R : CompT prog w A h₀ L m env elt x scope cl s₁ (ax, W.listOf vs.toArray n) Fin vs [] s₁.toks news)
    (hRR : ∀ D C h tk m' ys news' T, T ≤ tk → Fr h₀ L h m → News h₀ L h ((D, LCg.lst ys) :: news') → LCg.Off1 D news' → h.Ns C m' → h₀.get? C = none → C ≠ L → C ≠ D → (∀ p ∈ news', p.1 ≠ C) → Fin ys T news' → RR (.ref D) C (.ok .next) { s₁ with heap := h, toks := tk }) :
    wpAny (model prog w) A (newList []) (fun acc s₃ => wpAny (model prog w) A (newFunctionEnv scope env.globals cl [] env.qual none .none (some env)) (fun cenv s₄ =>
      codeAny (model prog w) A (.compStart (.ListComp elt [⟨.Name x px, iter, [], 0⟩] scope pos) 0 (.ref s₁.heap.objs.size) acc { cenv with scope := relabel scope env }) (RR acc cenv.locals) s₄) E s₃) E
      { s₁ with heap := s₁.heap.push { cls := Value.type "list_iterator", data := Data.fields #[Value.ref ax, .int 0 0] } } := by
  have hl := is_list N hm
  have hax : ax < s₁.heap.objs.size := Heap.lt_size (N _ hm).1
  -- the iterator, the list that is filled, the block's names
  generalize hI : s₁.heap.objs.size = I
  have Wk := Walks.list (prog := prog) (w := w) hh I ax (by rw [← hI]; exact Nat.ne_of_lt hax) vs.toArray
  refine wpAny_newObj_type (wpAny_newFunctionEnv hcell (by intro y hy; simp at hy) (fun h₁ hns₁ hsb₁ => ?_) hkind)
  dsimp only at hns₁ hsb₁ ⊢
  have hD1 : (s₁.heap.push { cls := Value.type "list_iterator", data := Data.fields #[Value.ref ax, .int 0 0] }).objs.size = I + 1 := by rw [Heap.size_push, hI]
  generalize hH1 : s₁.heap.push { cls := Value.type "list_iterator", data := Data.fields #[Value.ref ax, .int 0 0] } = H1 at hD1 hns₁ hsb₁ ⊢
  have hC1 : (H1.push { cls := .type "list", dict := none, data := .seq ([] : List Value).toArray }).objs.size = I + 2 := by rw [Heap.size_push, hD1]
  generalize hH2 : H1.push { cls := .type "list", dict := none, data := .seq ([] : List Value).toArray } = H2 at hC1 hns₁ hsb₁ ⊢
  rw [hC1] at hns₁ hsb₁ ⊢
  rw [hD1]
  have up1 : ∀ b o, s₁.heap.get? b = some o → H1.get? b = some o := fun b o e => hH1 ▸ Heap.get?_push_of_some _ e
  have up2 : ∀ b o, H1.get? b = some o → H2.get? b = some o := fun b o e => hH2 ▸ Heap.get?_push_of_some _ e
  have lt1 : ∀ b o, s₁.heap.get? b = some o → b < I := fun b o e => hI ▸ Heap.lt_size e
  have up3 : ∀ b o, b ≠ I + 2 → H2.get? b = some o → h₁.get? b = some o := fun b o hb e => hsb₁.extBut b o hb (Heap.get?_push_of_some _ e)
  have old : ∀ b o, s₁.heap.get? b = some o → h₁.get? b = some o := fun b o e => up3 b o (Nat.ne_of_lt (Nat.lt_of_lt_of_le (lt1 b o e) (Nat.le_add_right _ _))) (up2 b o (up1 b o e))
  have none₀ : ∀ a, I ≤ a → h₀.get? a = none := fun a ha => by
    cases e : h₀.get? a with
    | none => rfl
    | some o => exact absurd (lt1 _ _ (F.keep a o e)) (Nat.not_lt.mpr ha)
  have hL : L < I := hI ▸ F.ns.lt
  have atI : h₁.get? I = some { cls := Value.type "list_iterator", data := Data.fields #[Value.ref ax, .int 0 0] } :=
    up3 _ _ (Nat.ne_of_lt (Nat.lt_add_of_pos_right (by decide))) (up2 _ _ (hH1 ▸ hI ▸ Heap.get?_push_size _ rfl))
  have atD : h₁.get? (I + 1) = some (LCg.lst []) := up3 _ _ (Nat.ne_of_lt (Nat.lt_succ_self _)) (hH2 ▸ hD1 ▸ Heap.get?_push_size _ rfl)
  have off₀ : ∀ q ∈ news, q.1 ≠ I ∧ q.1 ≠ I + 2 ∧ q.1 ≠ I + 1 := fun q hq => by
    have z : q.1 < I := lt1 _ _ (N q hq).1
    exact ⟨Nat.ne_of_lt z, Nat.ne_of_lt (Nat.lt_of_lt_of_le z (Nat.le_add_right _ _)), Nat.ne_of_lt (Nat.lt_succ_of_lt z)⟩
  have st0 : (fun i h => h.IsListIter I ax i ∧ h.IsList ax vs.toArray) 0 h₁ := ⟨⟨_, atI, rfl, rfl⟩, hl.at fun o e => old ax o e⟩
  have loop : ∀ s₃ : Shared, s₃ = { s₁ with heap := h₁, toks := s₁.toks + ([] : List (Str × Value)).length } →
      codeAny (model prog w) A (.compLoop (.ListComp elt [⟨.Name x px, iter, [], 0⟩] scope pos) 0 (.ref I) (.ref (I + 1)) (compEnvC scope cl (I + 2) env))
        (RR (.ref (I + 1)) (I + 2)) s₃ := by
    rintro s₃ rfl
    refine codeAny_compLoop_tests
      (fun k s' => ∃ h' tk i ys m' nw T, s' = { s₁ with heap := h', toks := tk } ∧ k = vs.length + 1 - i ∧ i ≤ vs.length ∧ ys.length ≤ i ∧ (h'.IsListIter I ax i ∧ h'.IsList ax vs.toArray) ∧ Fr h₀ L h' m ∧ h'.Ns (I + 2) m' ∧
        News h₀ L h' ((I + 1, LCg.lst ys) :: nw) ∧ LCg.Off3 I (I + 2) (I + 1) nw ∧ T ≤ tk ∧ (ax, W.listOf vs.toArray n) ∈ nw ∧
        CompT prog w A h₀ L m env elt x scope cl s₁ (ax, W.listOf vs.toArray n) Fin (vs.drop i) ys T nw) ?_ (vs.length + 1)
      ⟨h₁, _, 0, [], _, news, s₁.toks, rfl, rfl, Nat.zero_le _, Nat.le_refl _, st0, F.keeps old, hns₁, ?_, LCg.Off3.of off₀, Nat.le_add_right _ _, hm, R⟩
    · rintro k s' ⟨h', tk, i, ys, m', nw, T, rfl, rfl, hi, hys, st, F', hn', N', off', hT, hm', R'⟩
      have off3 := off'.mem
      have ne1 : (I : Nat) ≠ I + 2 := by omega
      have ne2 : (I : Nat) ≠ I + 1 := by omega
      have ne3 : (I + 2 : Nat) ≠ I + 1 := by omega
      by_cases hlt : i < vs.length
      · rw [List.drop_eq_getElem_cons hlt] at R'
        refine any_toks (Wk.item i _ _ _ (by simpa using hlt) st fun v h₂ tk₂ hv st₂ hk₂ htk => ?_)
        have hv' : v = vs[i] := by
          have hv2 : vs.toArray[i]? = some v := hv
          rw [List.getElem?_toArray, List.getElem?_eq_getElem hlt] at hv2
          exact (Option.some.inj hv2).symm
        subst hv'
        dsimp only
        have keep2 : ∀ b o, b ≠ I → h'.get? b = some o → h₂.get? b = some o := fun b o hb e => hk₂ b o (by simpa using hb) e
        refine wpAny_assign_Name (wpAny_storeName_local (lookup_relabel_local hx) (hn'.at' fun o e => keep2 _ o (Ne.symm ne1) e) (fun h₃ hn₃ hs₃ => ?_) (by simp [compEnvC, relabel, hkind]))
        refine wpAny_tests_nil ?_
        simp only [if_true]
        have keep3 : ∀ b o, b ≠ I + 2 → h₂.get? b = some o → h₃.get? b = some o := fun b o hb e => hs₃.extBut b o hb e
        obtain ⟨oI, eI, rI⟩ := st₂.1
        obtain ⟨oC, eC, rC⟩ := LCg.ns_obj hn₃
        have eI3 := keep3 I oI ne1 eI
        have F₃ : Fr h₀ L h₃ m := (LCg.fr_but F' hk₂ (Nat.ne_of_lt hL) (none₀ I (Nat.le_refl _))).change hs₃ (Ne.symm (Nat.ne_of_lt (Nat.lt_of_lt_of_le hL (Nat.le_add_right _ _)))) (none₀ _ (Nat.le_add_right _ _))
        have N₃ : News h₀ L h₃ ((I, oI) :: (I + 2, oC) :: (I + 1, LCg.lst ys) :: nw) := fun q hq => by
          rcases List.mem_cons.mp hq with rfl | hq
          · exact ⟨eI3, Ne.symm (Nat.ne_of_lt hL), none₀ _ (Nat.le_refl _)⟩
          · rcases List.mem_cons.mp hq with rfl | hq
            · exact ⟨eC, Ne.symm (Nat.ne_of_lt (Nat.lt_of_lt_of_le hL (Nat.le_add_right _ _))), none₀ _ (Nat.le_add_right _ _)⟩
            · have z := N' q hq
              rcases List.mem_cons.mp hq with rfl | hq
              · exact ⟨keep3 _ _ (Ne.symm ne3) (keep2 _ _ (Ne.symm ne2) z.1), z.2⟩
              · exact ⟨keep3 _ _ (off3 q hq).2.1 (keep2 _ _ (off3 q hq).1 z.1), z.2⟩
        refine wpAny_mono (R' I oI (I + 2) oC (I + 1) _ h₃ _ _ (Nat.le_trans hT (Nat.le_succ_of_le htk)) rC (by simp) F₃ N₃ off' ⟨ne1, ne2, ne3⟩) (fun y s₄ h₄ => ?_) fun _ _ e => e
        obtain ⟨h₄, tk₄, nw₄, rfl, F₄, N₄, off₄, hm₄, R₄⟩ := h₄
        have zI := (N₄ (I, oI) List.mem_cons_self).1
        have zC := (N₄ (I + 2, oC) (List.mem_cons_of_mem _ List.mem_cons_self)).1
        have zD := (N₄ (I + 1, LCg.lst ys) (List.mem_cons_of_mem _ (List.mem_cons_of_mem _ List.mem_cons_self))).1
        have N₄' : ∀ q ∈ nw₄, h₄.get? q.1 = some q.2 ∧ q.1 ≠ L ∧ h₀.get? q.1 = none := fun q hq => N₄ q (List.mem_cons_of_mem _ (List.mem_cons_of_mem _ (List.mem_cons_of_mem _ hq)))
        refine append_at (hsz := by show ys.toArray.size ≤ sizeLine; rw [List.size_toArray, sizeLine_eq]; omega) zD fun h₅ hs₅ hD₅ => ?_
        have keep5 : ∀ b o, b ≠ I + 1 → h₄.get? b = some o → h₅.get? b = some o := fun b o hb e => hs₅.extBut b o hb e
        have off4 := off₄.mem
        refine ⟨vs.length + 1 - (i + 1), by omega, h₅, tk₄, i + 1, ys ++ [y], _, nw₄, tk₄, rfl, rfl, hlt, by rw [List.length_append, List.length_singleton]; omega,
          ⟨⟨oI, keep5 I oI ne2 zI, rI⟩, _, keep5 ax _ (off4 _ hm₄).2.2 (N₄' _ hm₄).1, rfl, _, rfl⟩,
          F₄.change hs₅ (Ne.symm (Nat.ne_of_lt (Nat.lt_succ_of_lt hL))) (none₀ _ (Nat.le_succ _)), (rC.ns zC).sameBut hs₅ ne3, fun q hq => ?_, off₄, Nat.le_refl _, hm₄, R₄⟩
        rcases List.mem_cons.mp hq with rfl | hq
        · exact ⟨hD₅.trans (congrArg some (LCg.lst_snoc ys y)), Ne.symm (Nat.ne_of_lt (Nat.lt_succ_of_lt hL)), none₀ _ (Nat.le_succ _)⟩
        · exact ⟨keep5 _ _ (off4 q hq).2.2 (N₄' q hq).1, (N₄' q hq).2⟩
      · obtain rfl : i = vs.length := Nat.le_antisymm hi (Nat.not_lt.mp hlt)
        rw [List.drop_length] at R'
        refine any_toks (Wk.done _ _ _ (by simpa using st) fun h₂ tk₂ hk₂ htk => ?_)
        have keep2 : ∀ b o, b ≠ I → h'.get? b = some o → h₂.get? b = some o := fun b o hb e => hk₂ b o (by simpa using hb) e
        refine hRR (I + 1) (I + 2) h₂ tk₂ m' ys nw T (Nat.le_trans hT htk) (LCg.fr_but F' hk₂ (Nat.ne_of_lt hL) (none₀ I (Nat.le_refl _))) (fun q hq => ?_) off'.one (hn'.at' fun o e => keep2 _ o (Ne.symm ne1) e) (none₀ _ (Nat.le_add_right _ _)) (Ne.symm (Nat.ne_of_lt (Nat.lt_of_lt_of_le hL (Nat.le_add_right _ _)))) ne3 (fun q hq => (off3 q hq).2.1) R'
        have z := N' q hq
        rcases List.mem_cons.mp hq with rfl | hq
        · exact ⟨keep2 _ _ (Ne.symm ne2) z.1, z.2⟩
        · exact ⟨keep2 _ _ (off3 q hq).1 z.1, z.2⟩
    · intro q hq
      rcases List.mem_cons.mp hq with rfl | hq
      · exact ⟨atD, Ne.symm (Nat.ne_of_lt (Nat.lt_succ_of_lt hL)), none₀ _ (Nat.le_succ _)⟩
      · exact ⟨old _ _ (N q hq).1, (N q hq).2⟩
  exact codeAny_compStart_list (loop _ rfl) (Wk.self 0 _ _ _ st0 (loop _ rfl))
noncomputable def FinT (h₀ : Heap) (L : Addr) (m : Str → Option Value) (s₁ : Shared) (Q : Value → Shared → Prop) (ys : List Value) (T : Nat) (nw : Led) : Prop :=
  ∀ D hp tk, T ≤ tk → Fr h₀ L hp m → News h₀ L hp ((D, LCg.lst ys) :: nw) → LCg.Off1 D nw → Q (.ref D) { s₁ with heap := hp, toks := tk }
noncomputable def FinTA (h₀ : Heap) (L : Addr) (m : Str → Option Value) (s₁ : Shared) (y : Str) (Q : Flow → Shared → Prop) (ys : List Value) (T : Nat) (nw : Led) : Prop :=
  ∀ D hp tk, T ≤ tk → Fr h₀ L hp (fun z => if z = y then some (.ref D) else m z) → News h₀ L hp ((D, LCg.lst ys) :: nw) → LCg.Off1 D nw → Q .next { s₁ with heap := hp, toks := tk }
noncomputable def SrcTok (prog : Program) (w : World) (A : Around) (h₀ : Heap) (L : Addr) (m : Str → Option Value) (env : Env) (elt : PySem.Expr) (x : Str) (scope : Scope) (cl : List (Str × Addr)) (Fin : Shared → List Value → Nat → Led → Prop) (xv : Value) (s₁ : Shared) : Prop :=
  ∃ ax vs n news, xv = .ref ax ∧ A.handled = none ∧ Fr h₀ L s₁.heap m ∧ News h₀ L s₁.heap news ∧ (ax, W.listOf vs.toArray n) ∈ news ∧ vs.length ≤ 1000 ∧
      CompT prog w A h₀ L m env elt x scope cl s₁ (ax, W.listOf vs.toArray n) (Fin s₁) vs [] s₁.toks news
theorem SrcTok.intro {elt : PySem.Expr} {x : Str} {scope : Scope} {cl : List (Str × Addr)} {Fin : Shared → List Value → Nat → Led → Prop} {ax : Addr} {vs : List Value} {n : Nat} {news : Led} {s₁ : Shared} (hh : A.handled = none) (F : Fr h₀ L s₁.heap m) (N : News h₀ L s₁.heap news)
    (hm : (ax, W.listOf vs.toArray n) ∈ news) (hsz : vs.length ≤ 1000) (R : CompT prog w A h₀ L m env elt x scope cl s₁ (ax, W.listOf vs.toArray n) (Fin s₁) vs [] s₁.toks news) :
    SrcTok prog w A h₀ L m env elt x scope cl Fin (.ref ax) s₁ := ⟨ax, vs, n, news, rfl, hh, F, N, hm, hsz, R⟩
theorem listComp_T {elt iter : PySem.Expr} {x : Str} {px : Pos} {scope : Scope} {cl : List (Str × Addr)} {pos : Pos} {Q : Value → Shared → Prop} (_F₀ : Fr h₀ L s.heap m)
    (hclos : closureFor scope env = pure cl) (hcell : ∀ y ∈ scope.names, y.2 ≠ .cell) (hkind : scope.kind = .function)
    (hnames : ∀ y ∈ scope.names, y.2 = .local → scope.names.lookup y.1 = some .local) (hx : scope.names.lookup x = some .local)
    (h : wpAny (model prog w) A (eval iter env) (SrcTok prog w A h₀ L m env elt x scope cl fun s₁ => FinT h₀ L m s₁ Q) E s)
    (hs : ∀ x, foldedSetIterable iter env x = pure x := by intro _; rfl) :
    wpAny (model prog w) A (eval (.ListComp elt [⟨.Name x px, iter, [], 0⟩] scope pos) env) Q E s := by
  rw [eval_ListComp]
  refine wpAny_comprehension_free (use := none) rfl hs hclos hkind hnames (wpAny_mono h (fun xv s₁ h₁ => ?_) fun _ _ e => e)
  obtain ⟨ax, vs, n, news, rfl, hh, F, N, hm, hsz, R⟩ := h₁
  refine wpAny_pyIter_list (is_list N hm) (block_tok hcell hkind hx hh F N hm hsz R ?_)
  intro D C h tk m' ys news' T hT F' N' o1 hn hC₀ hCL hCD offC fin
  refine ⟨m', hn, fun h'' hs'' => fin D h'' tk hT (F'.change hs'' hCL hC₀) (fun p hp => ?_) o1⟩
  refine ⟨hs''.extBut _ _ ?_ (N' p hp).1, (N' p hp).2⟩
  rcases List.mem_cons.mp hp with rfl | hp
  · exact Ne.symm hCD
  · exact offC p hp
theorem assignComp_T {elt iter : PySem.Expr} {x y : Str} {px py : Pos} {scope : Scope} {cl : List (Str × Addr)} {pos spos : Pos} {Q : Flow → Shared → Prop} (_F₀ : Fr h₀ L s.heap m) (hLe : env.locals = L)
    (hsw : swapsWith (.ListComp elt [⟨.Name x px, iter, [], 0⟩] scope pos) (some (.Name y py)) spos.line env = pure true)
    (hclos : closureFor scope env = pure cl) (hcell : ∀ z ∈ scope.names, z.2 ≠ .cell) (hkind : scope.kind = .function)
    (hnames : ∀ z ∈ scope.names, z.2 = .local → scope.names.lookup z.1 = some .local) (hx : scope.names.lookup x = some .local)
    (hy : env.kindOf y = some .local) (hp : (env.scope.kind == .class || (env.scope.kind == .module && env.locals != env.globals)) = false)
    (h : wpAny (model prog w) A (eval iter env) (SrcTok prog w A h₀ L m env elt x scope cl fun s₁ => FinTA h₀ L m s₁ y Q) E s)
    (hs : ∀ x, foldedSetIterable iter env x = pure x := by intro _; rfl) :
    wpAny (model prog w) A (exec (.Assign [.Name y py] (.ListComp elt [⟨.Name x px, iter, [], 0⟩] scope pos) spos) env) Q E s := by
  subst hLe
  rw [exec_Assign_Name_used _ _ _ _ hsw]
  refine wpAny_bind (wpAny_standAt (wpAny_bind ?_))
  show wpAny _ A (do let _ ← comprehension (.ListComp elt [⟨.Name x px, iter, [], 0⟩] scope pos) scope env _ (newList []) false (eval iter env) (some (assign (.Name y py) env))) _ _ s
  refine wpAny_bind (wpAny_mono (wpAny_comprehension_free (use := some (assign (.Name y py) env)) (Q := fun _ s' => Q .next s') rfl hs hclos hkind hnames
    (wpAny_mono h (fun xv s₁ h₁ => ?_) fun _ _ e => e)) (fun _ s' hq => wpAny_pure (wpAny_pure hq)) fun _ _ e => e)
  obtain ⟨ax, vs, n, news, rfl, hh, F, N, hm, hsz, R⟩ := h₁
  refine wpAny_pyIter_list (is_list N hm) (block_tok hcell hkind hx hh F N hm hsz R ?_)
  intro D C h' tk m' ys news' T hT F' N' o1 hn hC₀ hCL hCD offC fin
  show wpAny _ A (assign (.Name y py) env (.ref D)) _ _ _
  refine wpAny_assign_Name (wpAny_storeName_local hy F'.ns (fun h₂ hn₂ hs₂ => ?_) hp)
  have hL₀ : h₀.get? env.locals = none := Heap.get?_none_of_le F'.above
  have F₂ : Fr h₀ env.locals h₂ (fun z => if z = y then some (.ref D) else m z) := ⟨hn₂, fun b o e => hs₂.extBut b o (fun q => by rw [q, hL₀] at e; cases e) (F'.keep b o e), F'.above⟩
  refine ⟨m', hn.sameBut hs₂ hCL, fun h'' hs'' => fin D h'' _ (Nat.le_trans hT (Nat.le_succ _)) (F₂.change hs'' hCL hC₀) (fun p hp => ?_) o1⟩
  have z : h₂.get? p.1 = some p.2 := hs₂.extBut _ _ (N' p hp).2.1 (N' p hp).1
  refine ⟨hs''.extBut _ _ ?_ z, (N' p hp).2⟩
  rcases List.mem_cons.mp hp with rfl | hp
  · exact Ne.symm hCD
  · exact offC p hp
end
end

section
open PySem PySem.W PySem.Calls PySem.Spec PyProof.Rows
set_option Elab.async false
set_option maxRecDepth 100000
set_option linter.unusedSectionVars false
theorem noneBooked {P : Params} {h : Heap} (X : (hd.heap_1 P).In h) : NoneBooked h := by
  refine ⟨nsFind #[{ hash := PyData.keyHash P (Str.ofString "type.__subclasses__.Exception.0"), key := Value.str (Str.ofString "type.__subclasses__.Exception.0") 265, val := Value.int 66 0 }, { hash := PyData.keyHash P (Str.ofString "type.__subclasses__.Exception.n"), key := Value.str (Str.ofString "type.__subclasses__.Exception.n") 266, val := Value.int 1 0 }], ⟨_, _, _, X cStatics _ rfl, rfl, ?_, ?_⟩, ?_⟩
  · intro e he
    simp only [Array.mem_def, List.mem_cons, List.not_mem_nil, or_false] at he
    rcases he with rfl | rfl <;> exact ⟨_, _, rfl⟩
  · intro _; rfl
  · have e0 : (Str.ofString "type.__subclasses__.Exception.0" == sharingNotToldKey) = false := by decide +kernel
    have e1 : (Str.ofString "type.__subclasses__.Exception.n" == sharingNotToldKey) = false := by decide +kernel
    simp only [nsFind, findBy, List.find?_toArray, List.find?_cons, Value.isStr, e0, e1]
    rfl
theorem is_int {M : Model} {A : Around} {E : Value → Shared → Prop} {s : Shared} {p q : Int} {t u : Tok} {Q : Value → Shared → Prop} (hb : NoneBooked s.heap)
    (ht : @Ne Nat t 0) (hu : @Ne Nat u 0) (hne : p ≠ q → @Ne Nat t u) (hq : ∀ b, (p ≠ q → b = false) → Q (.bool b) s) : wpAny M A (compareOp .Is (.int p t) (.int q u)) Q E s := by
  have h0 : (t == 0 || u == 0) = false := by
    rw [beq_false_of_ne ht, beq_false_of_ne hu]; rfl
  have key : wpAny M A (isSame (.int p t) (.int q u)) (fun b s' => Q (.bool b) s') E s := by
    have cr : wpAny M A (isSame.created (p == q) t u) (fun b s' => Q (.bool b) s') E s := by
      unfold isSame.created
      refine wpAny_ite ?_
      split
      · rename_i h; rw [h0] at h; exact absurd h Bool.false_ne_true
      refine wpAny_ite ?_
      split
      · rename_i h
        exact wpAny_pure (hq _ fun z => absurd (eq_of_beq h) (hne z))
      refine wpAny_ite ?_
      split
      · exact wpAny_pure (hq _ fun _ => rfl)
      rename_i h
      have hpq : p = q := by simpa using h
      refine wpAny_bind (wpAny_sharingNotTold_none hb ?_)
      first | rw [if_neg Bool.false_ne_true] | simp only [Bool.false_eq_true, if_false]
      refine wpAny_bind (wpAny_sharingNotTold_none hb ?_)
      first | rw [if_neg Bool.false_ne_true] | simp only [Bool.false_eq_true, if_false]
      exact wpAny_bind (wpAny_rule (wpAny_bind (wpAny_askSetting (wpAny_pure (hq _ fun z => absurd hpq z)))))
    show wpAny M A (if p == q && smallInt p then isSame.cachedInt t u else isSame.created (p == q) t u) _ E s
    refine wpAny_ite ?_
    split
    · rename_i h
      unfold isSame.cachedInt
      refine wpAny_ite ?_
      split
      · rename_i h; rw [h0] at h; exact absurd h Bool.false_ne_true
      · exact wpAny_bind (wpAny_rule (wpAny_pure (hq _ fun z => absurd (by simp only [Bool.and_eq_true, beq_iff_eq] at h; exact h.1) z)))
    · exact cr
  show wpAny M A (do return .bool (← isSame (.int p t) (.int q u))) Q E s
  exact wpAny_bind (wpAny_mono key (fun b s' h => wpAny_pure h) fun _ _ e => e)
/-- a list of ints whose tokens are told, and tell -/
inductive ToksAre (q : Int) (u : Tok) : List Value → List Int → Prop
  | nil : ToksAre q u [] []
  | cons {vs ds} (d : Int) (t : Tok) (h0 : @Ne Nat t 0) (hne : d ≠ q → @Ne Nat t u) (h : ToksAre q u vs ds) : ToksAre q u (.int d t :: vs) (d :: ds)
theorem ToksAre.length {q u vs ds} (h : ToksAre q u vs ds) : vs.length = ds.length := by
  induction h with
  | nil => rfl
  | cons _ _ _ _ _ ih => simp [ih]
section
variable {prog : Program} {w : World} {A : Around} {E : Value → Shared → Prop} {s : Shared} {env : Env} {h₀ : Heap} {x nm : Str} {body : List Stmt} {Q : Flow → Shared → Prop} {m₁ : Str → Option Value} {news : Led}
noncomputable def AccEnd {σ : Type} (h₀ : Heap) (L : Addr) (s : Shared) (x nm : Str) (v : Option Value) (I : Addr) (it : Obj) (m₁ : Str → Option Value) (news : Led) (val : σ → Value) (P : σ → Prop) (Q : Flow → Shared → Prop) (f : Flow) (s₂ : Shared) : Prop := match f with
  | .ret v' => Q (.ret v') s₂
  | .brk => Q .next s₂
  | _ => ∃ h' tk' σ' m', s₂ = { s with heap := h', toks := tk' } ∧ Fr h₀ L h' m' ∧ (∀ y, m' y = if y = nm then some (val σ') else if y = x then v else m₁ y) ∧ News h₀ L h' ((I, it) :: news) ∧ P σ'
theorem AccEnd.intro {σ : Type} {L : Addr} {v : Option Value} {I : Addr} {it : Obj} {val : σ → Value} {P : σ → Prop} {h' : Heap} {tk' : Nat} {m' : Str → Option Value} (σ' : σ) (F : Fr h₀ L h' m') (hm : ∀ y, m' y = if y = nm then some (val σ') else if y = x then v else m₁ y)
    (N : News h₀ L h' ((I, it) :: news)) (hP : P σ') : AccEnd h₀ L s x nm v I it m₁ news val P Q .next { s with heap := h', toks := tk' } := ⟨h', tk', σ', m', rfl, F, hm, N, hP⟩
/-- a loop over a list that turns the value of one name, and no object of the ledger -/
theorem for_acc {σ : Type} {v₀ : Value} (val : σ → Value) (P : List Value → σ → Prop) {ax : Addr} {vs : List Value} {n : Nat}
    (hh : A.handled = none) (F : Fr h₀ env.locals s.heap (fun y => if y = nm then some v₀ else m₁ y)) (N : News h₀ env.locals s.heap news) (hm : (ax, W.listOf vs.toArray n) ∈ news) (hx : x ≠ nm)
    (σ₀ : σ) (hv : val σ₀ = v₀) (hP : P vs σ₀)
    (turn : ∀ v r st u I it h tk, P (v :: r) st → it.cls = .type "list_iterator" → (∀ q ∈ news, q.1 < I) → Fr h₀ env.locals h (fun y => if y = x then some v else if y = x then u else if y = nm then some (val st) else m₁ y) → News h₀ env.locals h ((I, it) :: news) →
      wpAny (model prog w) A (execs body env) (AccEnd h₀ env.locals { s with heap := h, toks := tk } x nm (some v) I it m₁ news val (P r) Q) E { s with heap := h, toks := tk })
    (done : ∀ st u h tk, P [] st → Fr h₀ env.locals h (fun y => if y = x then u else if y = nm then some (val st) else m₁ y) → News h₀ env.locals h news → Q .next { s with heap := h, toks := tk }) :
    wpAny (model prog w) A (pyIter (.ref ax)) (fun it s₂ => LoopAtV prog w A h₀ env x body Q E it s₂) E s := by
  have hn : ∀ I, (∀ q ∈ news, q.1 < I) → ∀ q ∈ news, q.1 ≠ I := fun I hI q hq => Nat.ne_of_lt (hI q hq)
  refine for_state (fun st y => if y = nm then some (val st) else m₁ y) (fun _ => news) P hh F N hm σ₀ (by rw [hv]) rfl hP (fun _ => hm) (fun v r st u I it h tk hp hc hI off F' N' => ?_) done
  refine wpAny_mono (turn v r st u I it h tk hp hc hI F' N') (fun f s₂ hf => ?_) fun _ _ e => e
  have eq : ∀ (σ' : σ) (m' : Str → Option Value), (∀ y, m' y = if y = nm then some (val σ') else if y = x then some v else m₁ y) → m' = fun y => if y = x then some v else if y = nm then some (val σ') else m₁ y := fun σ' m' h => by
    funext y
    rw [h y]
    by_cases h1 : y = x
    · subst h1; rw [if_neg hx, if_pos rfl, if_pos rfl]
    · by_cases h2 : y = nm
      · subst h2; rw [if_pos rfl, if_neg h1, if_pos rfl]
      · rw [if_neg h2, if_neg h1, if_neg h1, if_neg h2]
  cases f with
  | ret v' => exact hf
  | brk => exact hf
  | next => obtain ⟨h', tk', σ', m', e, F'', em, N'', hp'⟩ := hf; exact ⟨h', tk', σ', e, eq σ' m' em ▸ F'', N'', hn I hI, hp'⟩
  | cont => obtain ⟨h', tk', σ', m', e, F'', em, N'', hp'⟩ := hf; exact ⟨h', tk', σ', e, eq σ' m' em ▸ F'', N'', hn I hI, hp'⟩
end
theorem booked_keep {h₀ h : Heap} {L : Addr} {m : Str → Option Value} (hb : NoneBooked h₀) (F : Fr h₀ L h m) : NoneBooked h := by
  obtain ⟨mc, h1, h2⟩ := hb
  exact ⟨mc, h1.keeps F.keep, h2⟩
theorem acc_set {x nm : Str} {a v u d : Option Value} {m₁ : Str → Option Value} : ∀ y, (if y = nm then a else if y = x then v else if y = x then u else if y = nm then d else m₁ y) = if y = nm then a else if y = x then v else m₁ y := fun y => by
  by_cases h1 : y = nm <;> by_cases h2 : y = x <;> simp [h1, h2]
theorem acc_kept {x nm : Str} {v u d : Option Value} {m₁ : Str → Option Value} (hx : x ≠ nm) : ∀ y, (if y = x then v else if y = x then u else if y = nm then d else m₁ y) = if y = nm then d else if y = x then v else m₁ y := fun y => by
  by_cases h1 : y = nm
  · subst h1
    simp [Ne.symm hx]
  · by_cases h2 : y = x
    · subst h2; simp [h1]
    · simp [h1, h2]
/-- ints with tokens of their own, all below T -/
inductive OwnToks : Nat → List Value → List Int → Prop
  | nil {T} : OwnToks T [] []
  | snoc {T vs ds} (h : OwnToks T vs ds) (d : Int) (t : Tok) (T' : Nat) (h0 : 0 < t) (h1 : T ≤ t) (h2 : t < T') : OwnToks T' (vs ++ [.int d t]) (ds ++ [d])
theorem OwnToks.up {T T' vs ds} (h : OwnToks T vs ds) (hT : T ≤ T') : OwnToks T' vs ds := by
  cases h with
  | nil => exact .nil
  | snoc h d t _ h0 h1 h2 => exact .snoc h d t T' h0 h1 (Nat.lt_of_lt_of_le h2 hT)
theorem OwnToks.ints {T vs ds} (h : OwnToks T vs ds) : IntsAre vs ds := by
  induction h with
  | nil => exact .nil
  | snoc h d t T' h0 h1 h2 ih => exact IntsAre.append ih (.cons d t .nil)
theorem OwnToks.lt {T vs ds} (h : OwnToks T vs ds) : ∀ d t, Value.int d t ∈ vs → t < T := by
  induction h with
  | nil => intro d t h; cases h
  | snoc h d t T' h0 h1 h2 ih =>
    intro d' t' hm
    rcases List.mem_append.mp hm with hm | hm
    · exact Nat.lt_of_lt_of_le (ih _ _ hm) (Nat.le_trans h1 (Nat.le_of_lt h2))
    · cases List.mem_singleton.mp hm; exact h2
theorem ToksAre.snoc {q u vs ds} (h : ToksAre q u vs ds) (d : Int) (t : Tok) (h0 : @Ne Nat t 0) (hne : d ≠ q → @Ne Nat t u) : ToksAre q u (vs ++ [.int d t]) (ds ++ [d]) := by
  induction h with
  | nil => exact .cons d t h0 hne .nil
  | cons d' t' h0' hne' _ ih => exact .cons d' t' h0' hne' ih
theorem OwnToks.toks {T vs ds} (h : OwnToks T vs ds) : ∀ q u, Value.int q u ∈ vs → u ≠ 0 ∧ ToksAre q u vs ds := by
  have far : ∀ {T vs ds}, OwnToks T vs ds → ∀ q u, T ≤ u → ToksAre q u vs ds := by
    intro T vs ds h
    induction h with
    | nil => intro q u _; exact .nil
    | snoc h d t T' h0 h1 h2 ih =>
      intro q u hu
      exact (ih q u (Nat.le_trans h1 (Nat.le_trans (Nat.le_of_lt h2) hu))).snoc d t (Nat.ne_of_gt h0) fun _ => Nat.ne_of_lt (Nat.lt_of_lt_of_le h2 hu)
  induction h with
  | nil => intro q u h; cases h
  | snoc h d t T' h0 h1 h2 ih =>
    intro q u hm
    rcases List.mem_append.mp hm with hm | hm
    · obtain ⟨a, b⟩ := ih q u hm
      have := h.lt q u hm
      exact ⟨a, b.snoc d t (Nat.ne_of_gt h0) fun _ => Nat.ne_of_gt (Nat.lt_of_lt_of_le this h1)⟩
    · cases List.mem_singleton.mp hm
      exact ⟨Nat.ne_of_gt h0, (far h d t h1).snoc d t (Nat.ne_of_gt h0) fun z => absurd rfl z⟩
section
variable {prog : Program} {w : World} {A : Around} {s : Shared} {h₀ : Heap} {L : Addr} {m : Str → Option Value} {env : Env}
noncomputable def OwnEnd (h₀ : Heap) (L : Addr) (m : Str → Option Value) (s : Shared) (news : Led) (tk : Nat) (d : Int) (y : Value) (s₂ : Shared) : Prop :=
  ∃ h' tk' t', y = .int d t' ∧ s₂ = { s with heap := h', toks := tk' } ∧ tk ≤ t' ∧ 0 < t' ∧ t' < tk' ∧ Fr h₀ L h' m ∧ News h₀ L h' news
theorem OwnEnd.intro {news : Led} {tk t' tk' : Nat} {d d' : Int} {h' : Heap} (e : d' = d) (F : Fr h₀ L h' m) (N : News h₀ L h' news) (h1 : tk ≤ t') (h2 : 0 < t') (h3 : t' < tk') : OwnEnd h₀ L m s news tk d (.int d' t') { s with heap := h', toks := tk' } :=
  ⟨h', tk', t', by rw [e], rfl, h1, h2, h3, F, N⟩
theorem compT_own {elt : PySem.Expr} {x : Str} {scope : Scope} {cl : List (Str × Addr)} {lp : Addr × Obj} {Fin : List Value → Nat → Led → Prop} {vs : List Value} {ds : List Int} {nw : Led} {T : Nat} (f : Int → Int) (hI : IntsAre vs ds) (hlp : lp ∈ nw)
    (turn : ∀ d t I oI C oC D m₂ h tk ys (E' : Value → Shared → Prop), LCg.NsObj oC m₂ → m₂ x = some (.int d t) → Fr h₀ L h m → News h₀ L h ((I, oI) :: (C, oC) :: (D, LCg.lst ys) :: nw) → LCg.Off3 I C D nw → ((@Ne Nat I C) ∧ (@Ne Nat I D) ∧ (@Ne Nat C D)) →
      wpAny (model prog w) A (eval elt (compEnvC scope cl C env)) (OwnEnd h₀ L m { s with heap := h, toks := tk } ((I, oI) :: (C, oC) :: (D, LCg.lst ys) :: nw) tk (f d)) E' { s with heap := h, toks := tk })
    (fin : ∀ ys T', T ≤ T' → OwnToks T' ys (ds.map f) → Fin ys T' nw) : CompT prog w A h₀ L m env elt x scope cl s lp Fin vs [] T nw := by
  have key : ∀ (es : List Int) (r ys : List Value) (us : List Int) (T' : Nat), IntsAre r es → T ≤ T' → OwnToks T' ys us → us ++ es.map f = ds.map f → CompT prog w A h₀ L m env elt x scope cl s lp Fin r ys T' nw := by
    intro es r ys us T' hr
    induction hr generalizing ys us T' with
    | nil => intro hT hy e; rw [List.map_nil, List.append_nil] at e; exact fin ys T' hT (e ▸ hy)
    | cons d t hr ih =>
      intro hT hy e
      intro I oI C oC D m₂ h tk E' hTk hC hx F N off ne
      refine wpAny_mono (turn d t I oI C oC D m₂ h tk ys E' hC hx F N off ne) (fun y s₂ hq => ?_) fun _ _ e => e
      obtain ⟨h', tk', t', rfl, rfl, h1, h2, h3, F', N'⟩ := hq
      exact ⟨h', tk', nw, rfl, F', N', off, hlp, ih _ (us ++ [f d]) tk' (Nat.le_trans hT (Nat.le_trans hTk (Nat.le_trans h1 (Nat.le_of_lt h3)))) (.snoc (hy.up hTk) _ t' tk' h2 h1 h3) (by rw [List.append_assoc]; exact e)⟩
  exact key ds vs [] [] T hI (Nat.le_refl _) .nil (by simp)
end
end

section
open PySem PySem.W PySem.Calls PyProof.Rows
set_option Elab.async false
set_option maxRecDepth 100000
set_option maxHeartbeats 8000000
-- a step that does not enter a loop
local macro_rules | `(tactic| walk_at "compareOp Is int int") => `(tactic| (k_here; refine is_int (by first | assumption | exact booked_keep (by assumption) (by assumption)) (by assumption) (by assumption) (by assumption) ?_; intro b hb))
theorem count_spec (w p loose mean mg mb) (l : Addr) (vs : List Value) (ds : List Int) (k : Nat) (q : Int) (u : Tok) (hu : @Ne Nat u 0) (hI : ToksAre q u vs ds) (hlen : ds.length ≤ 6) :
    Sp w p loose mean mg mb 450 128 [Value.ref l, Value.int q u] [(l, W.listOf vs.toArray k)]
      (fun h v h' => h'.get? l = some (W.listOf vs.toArray k) ∧ ∃ t, v = Value.int ((ds.count q : Nat) : Int) t) := by
  k_with_none
  k_with "TB" => (repeat' (first | (k_unfold; (try dsimp only)) | (k_end; wrow_close) | ((fail_if_success (with_reducible show wpAny _ _ (pyIter _) _ _ _)); walk1) | (dsimp only; (fail_if_success (with_reducible show wpAny _ _ (pyIter _) _ _ _)); walk1) | (leave1; walk_say "STEP leave1"; try dsimp only) | fail "no step"))
  unfold Sp
  k_fill
  intro base b' outer s R st B X T N hret
  have hvl := hI.length
  ktr_unf
  have hb := noneBooked (by assumption)
  clear st B X T N
  k_extra "TB"
  refine' for_acc (nm := Str.ofString "count") (fun st : Nat × Tok => .int st.1 st.2) (fun r st => ∃ es, ToksAre q u r es ∧ st.1 + es.count q = ds.count q) rfl (by assumption) (by assumption) (by k_mem) (by decide) (0, _) ?s1 ⟨ds, hI, by simp⟩ ?turn ?done
  case s1 => exact rfl
  case turn =>
    intro v r st u' I it h tk hp hc hI F' N'
    obtain ⟨es, hes, hct⟩ := hp
    obtain ⟨c, tc⟩ := st
    cases hes with
    | cons d t h0 hne hr =>
    dsimp only at F' N' hct
    have hb' := booked_keep hb F'
    k_extra "TB"
    all_goals first
      | (refine' AccEnd.intro (c + 1, _) (by k_asm) ?hm (by k_asm) ⟨_, hr, ?_⟩; (case hm => exact acc_set); rw [List.count_cons] at hct; have e : d = q := (by first | assumption | omega | simp_all); rw [e, beq_self_eq_true, if_pos rfl] at hct; dsimp only; omega)
      | (refine' AccEnd.intro (c, _) (by k_asm) ?hm (by k_asm) ⟨_, hr, ?_⟩; (case hm => refine acc_kept ?_; decide); rw [List.count_cons] at hct; have e : ¬ (d = q) := (by first | assumption | omega | simp_all); rw [if_neg (by simpa using e)] at hct; dsimp only; omega)
  case done =>
    intro st u' h tk hp F' N'
    obtain ⟨es, hes, hct⟩ := hp
    cases hes
    obtain ⟨c, tc⟩ := st
    dsimp only at F' N' hct
    k_extra "TB"
    refine hret _ _ _ (Gr.kept (by assumption) (by k_asm)) ⟨News.get (by k_asm) (by k_mem), tc, ?_⟩
    rw [← hct]; rfl
end

section
open PySem PySem.W PySem.Calls PySem.Spec PyProof.Rows
set_option Elab.async false
theorem gen_gt {α : Type} {M : Model} {A : Around} {t : Sem α} {Q : α → Shared → Prop} {E : Value → Shared → Prop} {hp : Heap} {g : Array GenState} {d : Drawn} {a b : Nat} {o : OsState} (hpos : @LT.lt Nat _ 0 b)
    (h : ∀ tk : Nat, @LT.lt Nat _ a tk → wpAny M A t Q E { heap := hp, gens := g, drawn := d, toks := tk, os := o }) : wpAny M A t Q E { heap := hp, gens := g, drawn := d, toks := a + b, os := o } := h _ (Nat.lt_add_of_pos_right hpos)
end

section
open PySem PySem.W PySem.Calls PyProof.Rows
set_option Elab.async false
set_option maxRecDepth 100000
set_option linter.unusedSectionVars false
section
variable {w : World} {A₀ A : Around} {s : Shared} {base h₀ h h' : Heap} {outer : List Env} {L : Addr} {m : Str → Option Value} {env : Env} {news news' sub : Led} 
  {p : Program} {loose : List Str} {mean : ExcName → Option Value} {mg mb : Str → Option Value} {Q : Value → Shared → Prop} {E : Value → Shared → Prop}
theorem count_use {l : Addr} {vs : List Value} {ds : List Int} {k : Nat} {q : Int} {u : Tok} (B : Below A₀ base outer h₀) (F : Fr h₀ L s.heap m) (X : (hd.heap_1 w.params).In h₀) (N : News h₀ L s.heap news) (T : Top p loose mean mg mb h₀)
    (hA : A.frames = some (env :: outer)) (hh : A.handled = none) (hf : env.frame = some L) (hke : env.scope.kind = .function) (hd : A.depth ≤ 450) (hu : A.units ≤ 450)
    (hm : (l, W.listOf vs.toArray k) ∈ news) (hu0 : @Ne Nat u 0) (hI : ToksAre q u vs ds) (hlen : ds.length ≤ 6)
    (h : ∀ t h' tk', Fr h₀ L h' m → News h₀ L h' news → Q (.int ((ds.count q : Nat) : Int) t) { s with heap := h', toks := tk' }) :
    wpAny (model PySem.Challenge.rw_wn0036_01.row.prog w) A (call (.ref 128) [.ref l, .int q u]) Q E s := by
  have hsub : ∀ r ∈ ([(l, W.listOf vs.toArray k)] : Led), r ∈ news := by
    intro r hr; rw [List.mem_singleton.mp hr]; exact hm
  refine use_spec (count_spec w p loose mean mg mb l vs ds k q u hu0 hI hlen) B F X N T hA hh hf hke hd hu hsub fun v h' tk' F' hk hp => ?_
  obtain ⟨h1, t, rfl⟩ := hp
  exact h t h' tk' F' (news_same N hk hsub fun r hr => by rw [List.mem_singleton.mp hr]; exact h1)
end
section
variable {prog : Program} {w : World} {A : Around} {s : Shared} {h₀ : Heap} {L : Addr} {m : Str → Option Value} {env : Env}
theorem restT_ind {ct elt : PySem.Expr} {x : Str} {scope : Scope} {cl : List (Str × Addr)} {S : Led → Prop} {PP : Nat → Value → Prop} {Fin : List Value → Led → Prop} {nw : Led} {n : Nat} (P : Nat → List Value → Prop) (h0 : P 0 [])
    (hstep : ∀ r i ys, i < n → P i ys → (∀ ys', P (i + 1) ys' → LCt.CompRestT prog w A h₀ L m env ct elt x scope cl s S PP Fin r (i + 1) ys' nw) → LCt.CompRestT prog w A h₀ L m env ct elt x scope cl s S PP Fin (r + 1) i ys nw)
    (hfin : ∀ ys, P n ys → Fin ys nw) : LCt.CompRestT prog w A h₀ L m env ct elt x scope cl s S PP Fin n 0 [] nw := by
  have key : ∀ r i ys, i + r = n → P i ys → LCt.CompRestT prog w A h₀ L m env ct elt x scope cl s S PP Fin r i ys nw := by
    intro r
    induction r with
    | zero => intro i ys e hp; exact LCt.CompRestT.zero (hfin ys (by rw [← e]; exact hp))
    | succ r ih => intro i ys e hp; exact hstep r i ys (by omega) hp fun ys' hp' => ih (i + 1) ys' (by omega) hp'
  exact key n 0 [] (Nat.zero_add n) h0
end
theorem ints_at {vs : List Value} {ds : List Int} (h : IntsAre vs ds) {i : Nat} {v : Value} (e : vs.toArray[i]? = some v) : ∃ d t, v = .int d t ∧ ds[i]? = some d ∧ v ∈ vs := by
  rw [List.getElem?_toArray] at e
  induction h generalizing i with
  | nil => simp at e
  | cons d t h ih =>
    cases i with
    | zero => simp at e; subst e; exact ⟨d, t, rfl, rfl, .head _⟩
    | succ i =>
      obtain ⟨d', t', h1, h2, h3⟩ := ih (by simpa using e)
      exact ⟨d', t', h1, by simpa using h2, .tail _ h3⟩
end

section
open PySem PySem.W PySem.Calls PyProof.Rows
set_option Elab.async false
set_option maxRecDepth 100000
set_option maxHeartbeats 8000000
-- a step that does not enter a loop
local macro_rules | `(tactic| walk_at "execs cons") => `(tactic| (k_here; (refine gen_gt ?hp9 ?_); (case hp9 => with_unfolding_all exact Nat.succ_pos _); intro tk9 htk9))
local macro_rules | `(tactic| walk_at "call ref") => `(tactic| (k_here; (with_reducible show wpAny _ _ (call (Value.ref 128) _) _ _ _); k_dflt (refine' count_use ?k1 ?k2 ?k3 ?k4 ?k5 ?kA ?kh ?kF ?kK ?kd ?ku ?kx ?k0 ?kI ?kn ?_; (case kA => exact rfl); (case kh => exact rfl); (case kF => exact rfl); (case kK => exact rfl); (case k1 => k_asm); (case k2 => k_asm); (case k3 => k_asm); (case k4 => k_asm); (case k5 => k_asm); (case kd => exact Nat.le_of_ble_eq_true rfl); (case ku => exact Nat.le_of_ble_eq_true rfl); (case kx => k_mem); (case k0 => assumption); (case kI => assumption); (case kn => assumption); k_whole; intro t' h' tk' F' N'; (try k_sweep))))
theorem unlike_spec (w p loose mean mg mb) (l : Addr) (vs : List Value) (ds : List Int) (k : Nat) (j : Int) (u : Tok) (hj : 0 < j) (hI : IntsAre vs ds) (hlen : ds.length ≤ 6) :
    Sp w p loose mean mg mb 400 178 [Value.ref l, Value.int j u] [(l, W.listOf vs.toArray k)]
      (fun h v h' => h'.get? l = some (W.listOf vs.toArray k) ∧ v = Value.bool (decide (∀ d ∈ ds, (ds.map (·.fmod j)).count (d.fmod j) = 1))) := by
  k_with_none
  k_with "TB" => (repeat' (first | (k_unfold; (try dsimp only)) | (k_end; wrow_close) | ((fail_if_success (with_reducible show wpAny _ _ (pyIter _) _ _ _)); (fail_if_success (with_reducible show wpAny _ _ (eval (Expr.ListComp _ _ _ _) _) _ _ _)); walk1) | (dsimp only; (fail_if_success (with_reducible show wpAny _ _ (pyIter _) _ _ _)); (fail_if_success (with_reducible show wpAny _ _ (eval (Expr.ListComp _ _ _ _) _) _ _ _)); walk1) | (leave1; walk_say "STEP leave1"; try dsimp only) | fail "no step"))
  unfold Sp
  k_fill
  intro base b' outer s R st B X T N hret
  have hvl := hI.length
  ktr_rel
  have hb := noneBooked (by assumption)
  clear st B X T N
  k_extra "TB"
  refine listComp_T (by k_asm) (by with_unfolding_all rfl) (by decide) (by rfl) (by decide) (by rfl) ?_
  k_extra "TB"
  refine SrcTok.intro rfl (by k_asm) (by k_asm) (by k_mem) (by omega) ?_
  refine' compT_own (fun d => d.fmod j) hI (by k_mem) ?turn ?fin
  case turn =>
    intro d t I oI C oC D m₂ h tk ys E' hC hx F' N' off ne
    obtain ⟨ap1, ap2, ap3⟩ := apart_3 off
    simp only [List.map_cons, List.map_nil] at ap1 ap2 ap3
    k_extra "TB"
    refine OwnEnd.intro rfl (by k_asm) (by k_asm) (Nat.le_of_lt (by assumption)) (Nat.lt_of_le_of_lt (Nat.zero_le _) (by assumption)) (Nat.lt_succ_self _)
  case fin =>
    intro ys T' hT hO
    intro D hp tk hTk F' N' off
    have ap1 := apart_of off
    simp only [List.map_cons, List.map_nil] at ap1
    clear off
    have hys := hO.ints.length
    rw [List.length_map] at hys
    k_extra "TB"
    refine LCt.ListComp_T (F₀ := by k_asm) (by with_unfolding_all rfl) (by decide) (by rfl) (by decide) (by rfl) ?_
    k_extra "TB"
    refine LCt.CompSrcT.ledger rfl (by k_asm) (by k_asm) (by k_mem) (by size_fits) ?_
    intro gg
    refine' restT_ind (fun i zs => ∃ es, IntsAre zs es ∧ es = ((ds.map (·.fmod j)).take i).filter (fun d => (ds.map (·.fmod j)).count d != 1)) ?h0 ?st ?fi
    case h0 => exact ⟨[], .nil, rfl⟩
    case st =>
      intro r i zs hi hp ih
      obtain ⟨es, hz, he⟩ := hp
      refine LCt.CompRestT.succ ?_
      intro v' I' oI' C' oC' D' m' h' tk' E' hv' hC' hx' F' N' off' ne'
      obtain ⟨d, t, rfl, hd, hmem⟩ := ints_at hO.ints hv'
      obtain ⟨ht, hT⟩ := hO.toks _ _ hmem
      have ht' : @Ne Nat t 0 := ht
      have hln : (ds.map (·.fmod j)).length ≤ 6 := by rw [List.length_map]; exact hlen
      obtain ⟨aq1, aq2, aq3⟩ := apart_3 off'
      simp only [List.map_cons, List.map_nil] at aq1 aq2 aq3
      k_extra "TB"
      · refine ih _ ⟨es ++ [d], IntsAre.append hz (.cons d t .nil), ?_⟩
        rw [List.take_add_one, hd, List.filter_append, ← he]
        have hc : ¬ (ds.map (·.fmod j)).count d = 1 := by omega
        simp [hc]
      · refine ih _ ⟨es, hz, ?_⟩
        rw [List.take_add_one, hd, List.filter_append, ← he]
        have hc : (ds.map (·.fmod j)).count d = 1 := by omega
        simp [hc]
    case fi =>
      intro zs hp
      obtain ⟨es, hz, he⟩ := hp
      intro D₂ hp₂ tk₂ F₂ N₂ off₂
      have ap2 := apart_of off₂
      simp only [List.map_cons, List.map_nil] at ap2
      clear off₂
      k_extra "TB"
      refine hret _ _ _ (Gr.kept (by assumption) (by k_asm)) ⟨News.get (by k_asm) (by k_mem), ?_⟩
      rw [List.size_toArray, hys, List.take_of_length_le (by simp)] at he
      have : (es = []) ↔ ∀ d ∈ ds, (ds.map (·.fmod j)).count (d.fmod j) = 1 := by
        rw [he, List.filter_eq_nil_iff]
        simp only [List.mem_map, forall_exists_index, and_imp, forall_apply_eq_imp_iff₂]
        constructor <;> intro h d hd <;> have := h d hd <;> simpa using this
      simp only [this]
end

section
open PySem PySem.W PySem.Calls PySem.Spec PyProof.Rows
set_option Elab.async false
set_option maxRecDepth 100000
set_option linter.unusedSectionVars false
section
variable {prog : Program} {w : World} {A : Around} {E : Value → Shared → Prop} {s : Shared} {h₀ : Heap} {L : Addr} {m : Str → Option Value} {env : Env}
noncomputable def SrcStep (prog : Program) (w : World) (A : Around) (h₀ : Heap) (L : Addr) (m : Str → Option Value) (env : Env) (elt : PySem.Expr) (x : Str) (scope : Scope) (cl : List (Str × Addr)) (Fin : Shared → List Value → Led → Prop) (xv : Value) (s₁ : Shared) : Prop :=
  ∃ r a b c t u v n news, xv = .ref r ∧ A.handled = none ∧ Fr h₀ L s₁.heap m ∧ News h₀ L s₁.heap news ∧ IsRange s₁.heap r a b c t u v ∧ Builtin.Range.small a b c = true ∧ Builtin.Range.rangeSize a b c = ((n : Nat) : Int) ∧ n ≤ sizeLine ∧
    ∀ g, LCg.CompRest prog w A h₀ L m env elt x scope cl { s₁ with heap := g } (fun _ => True) (fun i v => i < n ∧ ∃ t, v = .int (a + (i : Int) * c) t) (Fin { s₁ with heap := g }) n 0 [] news
theorem SrcStep.intro {elt : PySem.Expr} {x : Str} {scope : Scope} {cl : List (Str × Addr)} {Fin : Shared → List Value → Led → Prop} {r : Addr} {a b c : Int} {t u v : Tok} {n : Nat} {news : Led} {s₁ : Shared}
    (hh : A.handled = none) (F : Fr h₀ L s₁.heap m) (N : News h₀ L s₁.heap news) (hr : IsRange s₁.heap r a b c t u v) (hsm : Builtin.Range.small a b c = true) (hn : Builtin.Range.rangeSize a b c = ((n : Nat) : Int)) (hsz : n ≤ sizeLine)
    (h : ∀ g, LCg.CompRest prog w A h₀ L m env elt x scope cl { s₁ with heap := g } (fun _ => True) (fun i v => i < n ∧ ∃ t, v = .int (a + (i : Int) * c) t) (Fin { s₁ with heap := g }) n 0 [] news) :
    SrcStep prog w A h₀ L m env elt x scope cl Fin (.ref r) s₁ := ⟨r, a, b, c, t, u, v, n, news, rfl, hh, F, N, hr, hsm, hn, hsz, h⟩
theorem step_st {I : Addr} {a c : Int} {n : Nat} : ∀ i (h h' : Heap) (o : Obj) (nw : Led), IsRangeIter h I (a + (i : Nat) * c) ((n : Int) - (i : Nat)) c → h.get? I = some o → h'.get? I = some o → (∀ b o, h₀.get? b = some o → h'.get? b = some o) → News h₀ L h' nw → True → IsRangeIter h' I (a + (i : Nat) * c) ((n : Int) - (i : Nat)) c :=
  fun i h h' o nw st e e' _ _ _ => by
    have st' : h.get? I = some _ := st
    show h'.get? I = some _
    rw [e', ← e]; exact st'
theorem listComp_step {elt iter : PySem.Expr} {x : Str} {px : Pos} {scope : Scope} {cl : List (Str × Addr)} {pos : Pos} {Q : Value → Shared → Prop} (_F₀ : Fr h₀ L s.heap m)
    (hclos : closureFor scope env = pure cl) (hcell : ∀ y ∈ scope.names, y.2 ≠ .cell) (hkind : scope.kind = .function)
    (hnames : ∀ y ∈ scope.names, y.2 = .local → scope.names.lookup y.1 = some .local) (hx : scope.names.lookup x = some .local)
    (h : wpAny (model prog w) A (eval iter env) (SrcStep prog w A h₀ L m env elt x scope cl (fun s₂ => LCg.FinE h₀ L m s₂ Q)) E s)
    (hs : ∀ x, foldedSetIterable iter env x = pure x := by intro _; rfl) :
    wpAny (model prog w) A (eval (.ListComp elt [⟨.Name x px, iter, [], 0⟩] scope pos) env) Q E s := by
  rw [eval_ListComp]
  refine wpAny_comprehension_free (use := none) rfl hs hclos hkind hnames (wpAny_mono h (fun xv s₁ h₁ => ?_) fun _ _ e => e)
  obtain ⟨r, a, b, c, t, u, v, n, news, rfl, hh, F, N, hr, hsm, hn, hsz, R⟩ := h₁
  refine wpAny_pyIter_range hr hsm ?_
  refine LCg.block_U (Walks.range hh s₁.heap.objs.size a c n).bound hsz (fun i h st => ⟨_, st⟩) step_st hcell hkind hx (by show IsRangeIter _ _ _ _ _; rw [hn]; simpa using Heap.get?_push_size _ rfl) (fun b hb => ?_)
    (F.keeps fun _ _ e => Heap.get?_push_of_some _ e) (N.grown fun _ _ e => Heap.get?_push_of_some _ e) (Nat.ne_of_lt F.ns.lt) (next_is_new F) (fun p hp => Nat.ne_of_lt (Heap.lt_size (N p hp).1)) trivial (R _) ?_
  · rw [List.mem_singleton.mp hb]
    show s₁.heap.objs.size < (s₁.heap.push _).objs.size
    rw [Heap.size_push]; exact Nat.lt_succ_self _
  · intro D C h tk m' ys news' F' N' o1 hn hC₀ hD₀ hCL hDL hCD offC fin
    refine ⟨m', hn, fun h'' hs'' => fin D h'' tk (F'.change hs'' hCL hC₀) (fun p hp => ?_) o1⟩
    refine ⟨hs''.extBut _ _ ?_ (N' p hp).1, (N' p hp).2⟩
    rcases List.mem_cons.mp hp with rfl | hp
    · exact Ne.symm hCD
    · exact offC p hp
theorem restU_ind {elt : PySem.Expr} {x : Str} {scope : Scope} {cl : List (Str × Addr)} {S : Led → Prop} {PP : Nat → Value → Prop} {Fin : List Value → Led → Prop} {nw : Led} {n : Nat} (P : Nat → List Value → Prop) (h0 : P 0 [])
    (hstep : ∀ r i ys, i < n → P i ys → (∀ ys', P (i + 1) ys' → LCg.CompRest prog w A h₀ L m env elt x scope cl s S PP Fin r (i + 1) ys' nw) → LCg.CompRest prog w A h₀ L m env elt x scope cl s S PP Fin (r + 1) i ys nw)
    (hfin : ∀ ys, P n ys → Fin ys nw) : LCg.CompRest prog w A h₀ L m env elt x scope cl s S PP Fin n 0 [] nw := by
  have key : ∀ r i ys, i + r = n → P i ys → LCg.CompRest prog w A h₀ L m env elt x scope cl s S PP Fin r i ys nw := by
    intro r
    induction r with
    | zero => intro i ys e hp; exact LCg.CompRest.zero (hfin ys (by rw [← e]; exact hp))
    | succ r ih => intro i ys e hp; exact hstep r i ys (by omega) hp fun ys' hp' => ih (i + 1) ys' (by omega) hp'
  exact key n 0 [] (Nat.zero_add n) h0
end
end

section
open PySem PySem.W PySem.Calls PyProof.Rows
/-- the numbers of range(a, b, c) -/
theorem step_size {a b c : Int} (ha : 0 ≤ a) (hb : b ≤ 60) (hc : 1 ≤ c) : ∃ n : Nat, Builtin.Range.rangeSize a b c = (n : Int) ∧ n ≤ 60 ∧ ∀ i : Nat, i < n → a + (i : Int) * c < b := by
  unfold Builtin.Range.rangeSize
  rw [if_pos (by omega : c > 0)]
  by_cases h : a < b
  · rw [if_pos h]
    have h1 : 0 ≤ (b - a - 1) / c := Int.ediv_nonneg (by omega) (by omega)
    have h2 : (b - a - 1) / c ≤ b - a - 1 := Int.ediv_le_self _ (by omega)
    refine ⟨((b - a - 1) / c + 1).toNat, by omega, by omega, fun i hi => ?_⟩
    have h3 : (i : Int) ≤ (b - a - 1) / c := by omega
    have h4 : (i : Int) * c ≤ (b - a - 1) / c * c := Int.mul_le_mul_of_nonneg_right h3 (by omega)
    have h5 := Int.ediv_mul_le (b - a - 1) (by omega : c ≠ 0)
    omega
  · rw [if_neg h]
    exact ⟨0, rfl, by omega, fun i hi => by omega⟩
theorem step_small {a b c : Int} (ha : 0 ≤ a) (ha' : a ≤ 60) (hb : b ≤ 60) (hb' : 0 ≤ b) (hc : 1 ≤ c) (hc' : c ≤ 60) : Builtin.Range.small a b c = true := by
  obtain ⟨n, hn, h60, _⟩ := step_size ha hb hc
  have f : ∀ i : Int, -(2^62) ≤ i → i ≤ 2^62 → Builtin.Range.rangeFitsLong i = true := fun i h h' => by
    unfold Builtin.Range.rangeFitsLong
    simp only [Bool.and_eq_true, decide_eq_true_eq]
    omega
  unfold Builtin.Range.small
  rw [f a (by omega) (by omega), f b (by omega) (by omega), f c (by omega) (by omega), f _ (by omega) (by omega), if_pos (by omega : c > 0), f (b + (c - 1)) (by omega) (by omega)]
  simp
end

section
open PySem PySem.W PySem.Calls PyProof.Rows
set_option Elab.async false
set_option maxRecDepth 100000
set_option maxHeartbeats 8000000
-- a step that does not enter a loop
theorem draws_spec (w : World) (p : Program) (loose : List Str) (mean : ExcName → Option Value) (mg mb : Str → Option Value) (l : Addr) (vs : List Value) (ns : List Int) (hI : IntsAre vs ns) (hlen : ns.length ≤ 63) : ∀
    (base b' : Heap) (outer : List Env) (s : Shared) (R : Result → Shared → Prop)
    (st : b'.StaysIn s.heap) (B : Below (ar 400 outer) base outer b') (X : (hd.heap_1 w.params).In b') (T : Top p loose mean mg mb b') (hl : b'.IsList l vs.toArray)
    (hret : ∀ v h' tk', Kept [] s.heap h' → (∃ q zs ds, v = .ref q ∧ s.heap.get? q = none ∧ h'.get? q = some (LCg.lst zs) ∧ IntsAre zs ds ∧ ds.length = 3 + ns.length % 4) → R (.ok (.ret v)) { s with heap := h', toks := tk' }),
    codeAny (model PySem.Challenge.rw_wn0036_01.row.prog w) (ar 400 outer) (.call (.ref 140) ⟨[.ref l], []⟩) R s := by
  k_with_none
  k_with "TB" => (repeat' (first | (k_unfold; (try dsimp only)) | (k_end; wrow_close) | ((fail_if_success (with_reducible show wpAny _ _ (pyIter _) _ _ _)); (fail_if_success (with_reducible show wpAny _ _ (eval (Expr.ListComp _ _ _ _) _) _ _ _)); (fail_if_success (with_reducible show LCg.CompSrc _ _ _ _ _ _ _ _ _ _ _ _ _ _)); (fail_if_success (with_reducible show LCg.CompEnd _ _ _ _ _ _ _ _ _ _ _ _ _ _)); walk1) | (dsimp only; (fail_if_success (with_reducible show wpAny _ _ (pyIter _) _ _ _)); (fail_if_success (with_reducible show wpAny _ _ (eval (Expr.ListComp _ _ _ _) _) _ _ _)); (fail_if_success (with_reducible show LCg.CompSrc _ _ _ _ _ _ _ _ _ _ _ _ _ _)); (fail_if_success (with_reducible show LCg.CompEnd _ _ _ _ _ _ _ _ _ _ _ _ _ _)); walk1) | (leave1; walk_say "STEP leave1"; try dsimp only) | fail "no step"))
  k_fill
  intro base b' outer s R st B X T hl hret
  have hvl := hI.length
  have N : ∀ q ∈ ([] : Led), s.heap.get? q.1 = some q.2 ∧ b'.get? q.1 = none := fun q hq => nomatch hq
  have hl0 : s.heap.IsList l vs.toArray := hl.at fun o e => st _ _ e
  ktr_rel
  have hl1 := fun (g : Heap) (G : Gr [] s.heap g) => hl0.at fun o e => G.keep _ o e fun q hq => nomatch hq
  replace hl1 := hl1 _ (by assumption)
  clear st B X T N hl hl0
  k_extra "TB"
  have hn : 3 + ((ns.length : Nat) : Int).fmod 4 = ((3 + ns.length % 4 : Nat) : Int) := by rw [Int.fmod_eq_emod_of_nonneg _ (by decide)]; omega
  generalize hnn : 3 + ns.length % 4 = nn at hn
  have hn6 : nn ≤ 6 := by omega
  have hn3 : 3 ≤ nn := by omega
  simp only [hn] at *
  refine LCg.ListComp_U (F₀ := by k_asm) (by with_unfolding_all rfl) (by decide) (by rfl) (by decide) (by rfl) ?_
  k_extra "TB"
  refine' LCg.CompSrc.range (n := nn) rfl (by k_asm) (by k_asm) (by assumption) ?q1 ?q2 ?q3 ?_
  case q1 => exact (range_facts (by omega)).1
  case q2 => exact (range_facts (by omega)).2
  case q3 => rw [sizeLine_eq]; omega
  intro gg
  refine' restU_ind (fun i zs => ∃ es, IntsAre zs es ∧ es.length = i) ?h0 ?st ?fi
  case h0 => exact ⟨[], .nil, rfl⟩
  case st =>
    intro r i zs hi hp ih
    obtain ⟨es, hz, he⟩ := hp
    refine LCg.CompRest.succ ?_
    intro v' I' oI' C' oC' D' m' h' tk' E' hv' hC' hx' F' N' off' ne'
    obtain ⟨t, rfl⟩ := hv'
    obtain ⟨ap1, ap2, ap3⟩ := apart_3 off'
    simp only [List.map_cons, List.map_nil] at ap1 ap2 ap3
    k_extra "TB"
    refine listComp_step (by k_asm) (by with_unfolding_all rfl) (by decide) (by rfl) (by decide) (by rfl) ?_
    k_extra "TB"
    have hb1 : (if 60 < ((ns.length : Nat) : Int) then 60 else ((ns.length : Nat) : Int)) ≤ 60 := by split <;> omega
    have hb2 : 0 ≤ (if 60 < ((ns.length : Nat) : Int) then 60 else ((ns.length : Nat) : Int)) := by split <;> omega
    have hb3 : (if 60 < ((ns.length : Nat) : Int) then 60 else ((ns.length : Nat) : Int)) ≤ ((ns.length : Nat) : Int) := by split <;> omega
    obtain ⟨kk, hk1, hk2, hk3⟩ := step_size (a := 0 + (i : Int)) (c := (nn : Int)) (by omega) hb1 (by omega)
    refine' SrcStep.intro rfl (by k_asm) (by k_asm) (by assumption) ?q1 hk1 ?q3 ?_
    case q1 => exact step_small (by omega) (by omega) hb1 hb2 (by omega) (by omega)
    case q3 => rw [sizeLine_eq]; omega
    intro gg2
    refine' restU_ind (fun i zs => ∃ es, IntsAre zs es) ?h02 ?st2 ?fi2
    case h02 => exact ⟨[], .nil⟩
    case st2 =>
      intro r2 i2 zs2 hi2 hp2 ih2
      obtain ⟨es2, hz2⟩ := hp2
      refine LCg.CompRest.succ ?_
      intro v' I2 oI2 C2 oC2 D2 m2 h2 tk2 E2 hv2 hC2 hx2 F2 N2 off2 ne2
      obtain ⟨hi3, t2, rfl⟩ := hv2
      have hlt := hk3 i2 hi3
      have hge : 0 ≤ (i2 : Int) * (nn : Int) := Int.mul_nonneg (by omega) (by omega)
      obtain ⟨aq1, aq2, aq3⟩ := apart_3 off2
      simp only [List.map_cons, List.map_nil] at aq1 aq2 aq3
      generalize hkk : 0 + (i : Int) + (i2 : Int) * (nn : Int) = kk2 at *
      have hk0 : 0 ≤ kk2 := by omega
      have hk9 : kk2 < ((ns.length : Nat) : Int) := by omega
      k_extra "TB"
      walk1
      exact ih2 _ ⟨_, IntsAre.append hz2 (.cons _ _ .nil)⟩
    case fi2 =>
      intro zs2 hp2
      obtain ⟨es2, hz2⟩ := hp2
      intro D₂ hp₂ tk₂ F₂ N₂ off₂
      have ap4 := apart_of off₂
      simp only [List.map_cons, List.map_nil] at ap4
      clear off₂
      k_extra "TB"
      refine LCg.CompEnd.intro (by k_asm) (by k_asm) _ ?_ off' trivial (ih _ ⟨_, IntsAre.append hz (.cons _ _ .nil), by simp [he]⟩)
      exact fun q hq => List.mem_cons_of_mem _ hq
  case fi =>
    intro zs hp
    obtain ⟨es, hz, he⟩ := hp
    intro D₂ hp₂ tk₂ F₂ N₂ off₂
    have ap4 := apart_of off₂
    simp only [List.map_cons, List.map_nil] at ap4
    clear off₂
    k_extra "TB"
    exact hret _ _ _ (Gr.kept (by assumption) (by k_asm)) ⟨_, zs, es, rfl, Gr.fresh (by assumption) (by k_asm) (by k_mem) (by intro q hq; cases hq), News.get (by k_asm) (by k_mem), hz, by omega⟩
end

section
open PySem PySem.W PySem.Calls PySem.Spec PyProof.Rows
set_option Elab.async false
set_option maxRecDepth 100000
set_option linter.unusedSectionVars false
theorem strs_carried : ∀ {vs : List Value} {xs : List Str}, CarriedAll vs (xs.map PyData.str) → StrsAre vs xs
  | _, [], .nil => .nil
  | _, _ :: _, .cons (.str _ t) r => .cons _ t (strs_carried r)
section
variable {prog : Program} {w : World} {A : Around} {E : Value → Shared → Prop} {s : Shared} {h₀ : Heap} {L : Addr} {m : Str → Option Value} {env : Env} {news : Led}
theorem list_str_t {x : Str} {t : Tok} {Q : Value → Shared → Prop} (hh : A.handled = none) (F : Fr h₀ L s.heap m) (N : News h₀ L s.heap news) (hsz : x.length ≤ 1000)
    (hQ : ∀ D ys k h' tk, Fr h₀ L h' m → News h₀ L h' ((D, W.listOf ys.toArray k) :: news) → (∀ q ∈ news, q.1 < D) → StrsAre ys (signs x) → Q (.ref D) { s with heap := h', toks := tk }) :
    wpAny (model prog w) A (call (.type "list") [.str x t]) Q E s := by
  refine list_strD hh F N (fun h' tk ys F' N' hk h0 hl hp hc => ?_) (by rw [sizeLine_eq]; omega)
  obtain ⟨⟨k, e⟩, _⟩ := id hp
  refine hQ _ ys k h' tk F' (fun q hq => ?_) (fun q hq => Heap.lt_size (N q hq).1) (strs_carried hc)
  rcases List.mem_cons.mp hq with rfl | hq
  · exact ⟨e, hp.ne_locals F', h0⟩
  · exact N' q hq
end
end

section
open PySem PySem.W PySem.Calls PyProof.Rows
set_option Elab.async false
set_option maxRecDepth 100000
set_option linter.unusedSectionVars false
/-- the stream's reader: it hands over the first of the list that is left, or the empty str -/
noncomputable def Reader (w : World) (p : Program) (loose : List Str) (mean : ExcName → Option Value) (mg mb : Str → Option Value) (f fc cl D : Addr) (fo co lo : Obj) : Prop :=
  ∀ (ys : List Value) (xs : List Str) (k : Nat) (u : Tok), StrsAre ys xs → xs.length ≤ 1000 → Sp w p loose mean mg mb 470 f [Value.int 1 u] [(f, fo), (fc, co), (cl, lo), (D, W.listOf ys.toArray k)]
    (fun _ v h' => h'.get? f = some fo ∧ h'.get? fc = some co ∧ h'.get? cl = some lo ∧ ∃ r k' t, StrsAre r xs.tail ∧ v = Value.str (xs.headD Str.empty) t ∧ h'.get? D = some (W.listOf r.toArray k'))
/-- the five entries of a stream's dict -/
noncomputable abbrev streamD (h1 h2 h3 h4 h5 : Int) (t1 t2 t3 t4 t5 : Tok) (v1 v2 v3 v4 v5 : Value) : List DictEntry :=
  [⟨h1, Value.str (Str.ofString "lineno") t1, v1⟩, ⟨h2, Value.str (Str.ofString "instream") t2, v2⟩, ⟨h3, Value.str (Str.ofString "whitespace") t3, v3⟩, ⟨h4, Value.str (Str.ofString "pushback") t4, v4⟩, ⟨h5, Value.str (Str.ofString "read") t5, v5⟩]
theorem updF_upd {d : Addr} {o o' : Obj} : ∀ {l : Led} {g : Obj → Led}, UpdF d o l g → Upd d o o' l (g o')
  | _, _, .head h => .head h
  | _, _, .tail h r => .tail h (updF_upd r)
theorem updF_in {d : Addr} {o : Obj} : ∀ {l : Led} {g : Obj → Led}, UpdF d o l g → (d, o) ∈ l
  | _, _, .head _ => .head _
  | _, _, .tail _ r => .tail _ (updF_in r)
section
variable {w : World} {A₀ A : Around} {s : Shared} {base h₀ h h' : Heap} {outer : List Env} {L : Addr} {m : Str → Option Value} {env : Env} {news news' sub : Led} 
  {p : Program} {loose : List Str} {mean : ExcName → Option Value} {mg mb : Str → Option Value} {Q : Value → Shared → Prop} {E : Value → Shared → Prop}
theorem reader_use {f fc cl D : Addr} {fo co lo : Obj} {g : Obj → Led} {ys : List Value} {xs : List Str} {k : Nat} {u : Tok} (S : Reader w p loose mean mg mb f fc cl D fo co lo) (B : Below A₀ base outer h₀) (F : Fr h₀ L s.heap m) (X : (hd.heap_1 w.params).In h₀) (N : News h₀ L s.heap news) (T : Top p loose mean mg mb h₀)
    (hA : A.frames = some (env :: outer)) (hh : A.handled = none) (hf : env.frame = some L) (hke : env.scope.kind = .function) (hd : A.depth ≤ 470) (hu : A.units ≤ 470)
    (m1 : (f, fo) ∈ news) (m2 : (fc, co) ∈ news) (m3 : (cl, lo) ∈ news) (U : UpdF D (W.listOf ys.toArray k) news g) (hI : StrsAre ys xs) (hlen : xs.length ≤ 1000) (n1 : @Ne Nat f D) (n2 : @Ne Nat fc D) (n3 : @Ne Nat cl D)
    (hq : ∀ r k' t h' tk', StrsAre r xs.tail → Fr h₀ L h' m → News h₀ L h' (g (W.listOf r.toArray k')) → Q (.str (xs.headD Str.empty) t) { s with heap := h', toks := tk' }) :
    wpAny (model PySem.Challenge.rw_wn0036_01.row.prog w) A (call (.ref f) [.int 1 u]) Q E s := by
  have mD := updF_in U
  have hsub : ∀ r ∈ ([(f, fo), (fc, co), (cl, lo), (D, W.listOf ys.toArray k)] : Led), r ∈ news := by
    intro r hr
    simp only [List.mem_cons, List.not_mem_nil, or_false] at hr
    rcases hr with rfl | rfl | rfl | rfl
    · exact m1
    · exact m2
    · exact m3
    · exact mD
  refine use_spec (S ys xs k u hI hlen) B F X N T hA hh hf hke hd hu hsub fun v h' tk' F' hk hp => ?_
  obtain ⟨e1, e2, e3, r, k', t, hr, rfl, e4⟩ := hp
  refine hq r k' t h' tk' hr F' ?_
  refine news_upd1 N hk hsub ?_ e4 (updF_upd U)
  intro q hq hne
  simp only [List.mem_cons, List.not_mem_nil, or_false] at hq
  rcases hq with rfl | rfl | rfl | rfl
  · exact e1
  · exact e2
  · exact e3
  · exact absurd rfl hne
end
end

section
open PySem PySem.W PySem.Calls PyProof.Rows
set_option Elab.async false
set_option maxRecDepth 100000
set_option maxHeartbeats 8000000
-- a step that does not enter a loop
local macro_rules | `(tactic| walk_at "call ref") => `(tactic| (k_here; k_dflt (refine' reader_use (by assumption) ?k1 ?k2 ?k3 ?k4 ?k5 ?kA ?kh ?kF ?kK ?kd ?ku ?kx ?ky ?kz ?kU ?kI ?kl ?n1 ?n2 ?n3 ?_; (case kA => exact rfl); (case kh => exact rfl); (case kF => exact rfl); (case kK => exact rfl); (case k1 => k_asm); (case k2 => k_asm); (case k3 => k_asm); (case k4 => k_asm); (case k5 => k_asm); (case kd => exact Nat.le_of_ble_eq_true rfl); (case ku => exact Nat.le_of_ble_eq_true rfl); (case kx => k_mem); (case ky => k_mem); (case kz => k_mem); (case kU => k_updF); (case kI => assumption); (case kl => assumption); (case n1 => omega); (case n2 => omega); (case n3 => omega); k_whole; intro r' k' t' h' tk' S' F' N'; (try dsimp only at N'); (try k_sweep))))
local macro_rules | `(tactic| walk_at "callWith ref") => `(tactic| (k_here; k_dflt (refine' callWith_F ?k1 ?_; (case k1 => exact FnAt.of (by k_asm) (by k_mem)); k_whole)))
theorem char_spec (w p loose mean mg mb) (x dx st ds pb f fc cl D : Addr) (oc : Value) (od : Option Addr) (fd : FuncData) (sl : Array (Option Value)) (co lo : Obj) (h1 h2 h3 h4 i1 i2 i3 i4 i5 ln : Int) (t1 t2 t3 t4 u1 u2 u3 u4 u5 tl : Tok) (v3 w1 w2 w3 w4 : Value) (k : Nat) (ys : List Value) (xs : List Str)
   (R0 : Reader w p loose mean mg mb f fc cl D ⟨oc, od, .func fd, sl⟩ co lo) (hS : StrsAre ys xs) (hlen : xs.length ≤ 1000)
   (hne : @LT.lt Nat _ cl D ∧ @LT.lt Nat _ D ds ∧ @LT.lt Nat _ ds st ∧ @LT.lt Nat _ st fc ∧ @LT.lt Nat _ fc f ∧ @LT.lt Nat _ f dx ∧ @LT.lt Nat _ dx x) :
    Sp w p loose mean mg mb 460 35 [Value.ref x]
      [(x, instObj 52 dx), (dx, dictOf (lexD h1 h2 h3 h4 t1 t2 t3 t4 (Value.int ln tl) (Value.ref st) v3 (Value.ref pb)) 4), (st, instObj 52 ds), (ds, dictOf (streamD i1 i2 i3 i4 i5 u1 u2 u3 u4 u5 w1 w2 w3 w4 (Value.ref f)) 5), (f, (⟨oc, od, .func fd, sl⟩ : Obj)), (fc, co), (cl, lo), (D, W.listOf ys.toArray k)]
      (fun _ v h' => ∃ r k' t ln' tl', StrsAre r xs.tail ∧ v = Value.str (xs.headD Str.empty) t ∧ h'.get? x = some (instObj 52 dx) ∧ h'.get? dx = some (dictOf (lexD h1 h2 h3 h4 t1 t2 t3 t4 (Value.int ln' tl') (Value.ref st) v3 (Value.ref pb)) 4) ∧
        h'.get? st = some (instObj 52 ds) ∧ h'.get? ds = some (dictOf (streamD i1 i2 i3 i4 i5 u1 u2 u3 u4 u5 w1 w2 w3 w4 (Value.ref f)) 5) ∧ h'.get? f = some ⟨oc, od, .func fd, sl⟩ ∧ h'.get? fc = some co ∧ h'.get? cl = some lo ∧ h'.get? D = some (W.listOf r.toArray k')) := by
  k_with_none
  k_with "TB" => (repeat' (first | (k_unfold; (try dsimp only)) | (k_end; wrow_close) | ((fail_if_success (with_reducible show wpAny _ _ (pyIter _) _ _ _)); walk1) | (dsimp only; (fail_if_success (with_reducible show wpAny _ _ (pyIter _) _ _ _)); walk1) | (leave1; walk_say "STEP leave1"; try dsimp only) | fail "no step"))
  unfold Sp
  k_fill
  intro base b' outer s R st B X T N hret
  ktr_unf
  clear st B X T N
  k_extra "TB"
  all_goals refine hret _ _ _ (Gr.kept (by assumption) (by k_asm)) ⟨_, _, _, _, _, by assumption, rfl, News.get (by k_asm) (by k_mem), News.get (by k_asm) (by k_mem), News.get (by k_asm) (by k_mem), News.get (by k_asm) (by k_mem), News.get (by k_asm) (by k_mem), News.get (by k_asm) (by k_mem), News.get (by k_asm) (by k_mem), News.get (by k_asm) (by k_mem)⟩
end

section
open PySem PySem.W PySem.Calls PySem.Spec PyProof.Rows PySem.Builtin
set_option Elab.async false
set_option maxRecDepth 100000
set_option linter.unusedSectionVars false
noncomputable abbrev citObj (a b : Value) (c : Bool) : Obj := { cls := .type "callable_iterator", data := .fields #[a, b, .bool c] }
theorem args_iter2 (a b : Value) : argsOk "iter" ⟨[a, b], []⟩ := by unfold argsOk; kernel_rfl
theorem slot_method_call : typeLookup (.type "method") (Str.ofString "__call__") = pure (some (.builtin "method.__call__")) := by rw [typeLookup_type, builtinLookup_eq_fast]; kernel_rfl
theorem slot_cit_iter : Slot "callable_iterator" "__iter__" "callable_iterator.__iter__" :=
  .of (owner := "callable_iterator") (n := "__iter__") (by rw [typeLookup_type, builtinLookup_eq_fast]; kernel_rfl) (by decide +kernel) (by decide +kernel) (by decide +kernel)
    (by first | exact .inl (by decide +kernel) | exact .inr (by decide +kernel)) (by rw [isSubtype_type]; kernel_rfl)
theorem slot_cit_next : Slot "callable_iterator" "__next__" "callable_iterator.__next__" :=
  .of (owner := "callable_iterator") (n := "__next__") (by rw [typeLookup_type, builtinLookup_eq_fast]; kernel_rfl) (by decide +kernel) (by decide +kernel) (by decide +kernel)
    (by first | exact .inl (by decide +kernel) | exact .inr (by decide +kernel)) (by rw [isSubtype_type]; kernel_rfl)
theorem entry_cit_iter : entryFor table "callable_iterator.__iter__" = some Builtin.«dict_keyiterator.__iter__» :=
  entryFor_alias (id' := "dict_keyiterator.__iter__") (by kernel_rfl) rfl (by decide +kernel) (by kernel_rfl)
theorem entry_cit_next : entryFor table "callable_iterator.__next__" = some Builtin.«callable_iterator.__next__» := entryFor_of_fast (by kernel_rfl)
theorem args_cit_iter (a : Value) : argsOk "callable_iterator.__iter__" ⟨[a], []⟩ := by unfold argsOk; kernel_rfl
theorem args_cit_next (a : Value) : argsOk "callable_iterator.__next__" ⟨[a], []⟩ := by unfold argsOk; kernel_rfl
section
variable {prog : Program} {w : World} {A : Around} {E : Value → Shared → Prop} {s : Shared} {h₀ : Heap} {L : Addr} {m : Str → Option Value} {env : Env} {news : Led}
theorem iter_cit {q : Addr} {f self v : Value} {Q : Value → Shared → Prop} (F : Fr h₀ L s.heap m) (N : News h₀ L s.heap news) (hq : (q, methodObj f self) ∈ news)
    (h : ∀ it h', Fr h₀ L h' m → News h₀ L h' ((it, citObj (.ref q) v false) :: news) → (∀ p ∈ news, p.1 < it) → Q (.ref it) { s with heap := h' }) :
    wpAny (model prog w) A (call (.builtin "iter") [.ref q, v]) Q E s := by
  refine call_function_entry (by decide +kernel) (by decide +kernel) kdk_entry_iter (args_iter2 _ _) ?_
  unfold Builtin.«iter»
  refine wpAny_bind (m := someArgs "iter" 1 2 _) (wpAny_of_eq (a := [Value.ref q, v]) (by first | rfl | kernel_rfl!) ?_)
  dsimp only
  refine wpAny_bind (wpAny_specialOf (T := "method") ⟨_, (N _ hq).1, rfl⟩ slot_method_call ?_)
  refine wpAny_ite_split (fun hab => absurd hab (by decide)) (fun _ => ?_)
  refine wpAny_bind (wpAny_rule ?_)
  exact wpAny_bind (wpAny_newObj_type (wpAny_pure ⟨_, rfl, h _ _ (F.push _) (News.push F N _ rfl) (fun q hq => Heap.lt_size (N q hq).1)⟩))
theorem cit_iter {it : Addr} {a b : Value} {c : Bool} {Q : Value → Shared → Prop} (N : News h₀ L s.heap news) (hm : (it, citObj a b c) ∈ news) (h : Q (.ref it) s) :
    wpAny (model prog w) A (pyIter (.ref it)) Q E s := by
  have hT : s.TypeIs (.ref it) "callable_iterator" := ⟨_, (N _ hm).1, rfl⟩
  refine wpAny_pyIter_slot hT slot_cit_iter (wpAny_call_entry slot_cit_iter hT entry_cit_iter ?_ (args_cit_iter _))
  exact wpAny_pure ⟨_, rfl, "callable_iterator", _, hT, slot_cit_next.lookup, h⟩
end
end

section
open PySem PySem.W PySem.Calls PySem.Spec PyProof.Rows PySem.Builtin
set_option Elab.async false
set_option maxRecDepth 100000
set_option linter.unusedSectionVars false
section
variable {prog : Program} {w : World} {A : Around} {E : Value → Shared → Prop} {s : Shared} {h₀ : Heap} {L : Addr} {m : Str → Option Value} {env : Env} {news : Led}
noncomputable def CitLoop (prog : Program) (w : World) (A : Around) (env : Env) (x : Str) (body : List Stmt) (Q : Flow → Shared → Prop) (E : Value → Shared → Prop) (it : Value) : Nat → Shared → Prop
  | 0, _ => False
  | n + 1, s => wpAny (model prog w) A (pyNext it) (fun r s₁ => match r with
      | none => Q .next s₁
      | some v => ∀ px, wpAny (model prog w) A (assign (.Name x px) env v) (fun _ s₂ => wpAny (model prog w) A (execs body env) (fun f s₃ => match f with
          | .next => CitLoop prog w A env x body Q E it n s₃
          | .cont => CitLoop prog w A env x body Q E it n s₃
          | .brk => Q .next s₃
          | .ret v => Q (.ret v) s₃) E s₂) E s₁) E s
theorem For_cit {Q : Flow → Shared → Prop} {x : Str} {px pos : Pos} {iter : PySem.Expr} {body : List Stmt}
    (h : wpAny (model prog w) A (eval iter env) (fun xv s₁ => wpAny (model prog w) A (pyIter xv) (fun it s₂ => ∃ n, CitLoop prog w A env x body Q E it n s₂) E s₁) E s)
    (hs : ∀ x, foldedSetIterable iter env x = pure x := by intro _; rfl)
    (hE : PassesOwn (model prog w) A env E := by passes_own) :
    wpAny (model prog w) A (exec (.For (.Name x px) iter body [] pos) env) Q E s := by
  refine wpAny_For (wpAny_mono h (fun xv s₁ h₁ => wpAny_mono h₁ (fun it s₂ h₂ => ?_) fun _ _ e => e) fun _ _ e => e) hs
  obtain ⟨n, h₂⟩ := h₂
  refine codeAny_forLoop (R := fun r s' => match r with | .ok f => Q f s' | .error e => cameBackBy (model prog w) A env E e s') (fun n s => CitLoop prog w A env x body Q E it n s) (fun n s hI => ?_) n h₂
  cases n with
  | zero => exact hI.elim
  | succ n =>
    refine wpAny_passesOwn hE (wpAny_mono hI (fun r s₁ h₁ => ?_) fun _ _ e => e)
    cases r with
    | none => exact wpAny_execs_nil h₁
    | some v =>
      refine wpAny_passesOwn hE (wpAny_mono (h₁ px) (fun _ s₂ h₂ => ?_) fun _ _ e => e)
      refine wpAny_passesOwn hE (wpAny_mono h₂ (fun f s₃ h₃ => ?_) fun _ _ e => e)
      cases f with
      | ret v => exact h₃
      | brk => exact h₃
      | next => exact ⟨n, Nat.lt_succ_self _, h₃⟩
      | cont => exact ⟨n, Nat.lt_succ_self _, h₃⟩
end
end

section
open PySem PySem.W PySem.Calls PySem.Spec PyProof.Rows PySem.Builtin
set_option Elab.async false
set_option maxRecDepth 100000
set_option linter.unusedSectionVars false
section
variable {prog : Program} {w : World} {A : Around} {E : Value → Shared → Prop} {s : Shared}
theorem wpAny_callBorrowed {M : Model} {f : Value} {pos : List Value} {Q : Value → Shared → Prop} (h : wpAny M A (call f pos) Q E s) : wpAny M A (callBorrowed f pos) Q E s := fun Γ p hΓ => by
  have := h Γ p hΓ
  unfold call at this
  rw [Sem.wp_runValue] at this
  unfold callBorrowed
  rw [Sem.wp_call]
  refine wpCode_mono (fun r s' h => ?_) this
  cases r with
  | error e => exact h
  | ok f => cases f <;> first | exact h | exact h.elim
theorem borrows_meth {q fa : Addr} {self : Value} {Q : Bool → Shared → Prop} (hq : s.heap.get? q = some (methodObj (.ref fa) self)) (hf : FnAt fa s.heap) (h : Q true s) : wpAny (model prog w) A (borrowsExactly (.ref q)) Q E s := by
  obtain ⟨oc, od, fd, sl, e⟩ := hf
  unfold borrowsExactly
  refine wpAny_bind (wpAny_load hq ?_)
  refine wpAny_ite_split (fun _ => ?_) (fun hab => absurd rfl hab)
  refine wpAny_bind (wpAny_load e ?_)
  exact wpAny_pure h
/-- the callable iterator's turn: it calls; the sentinel ends it -/
theorem pyNext_cit {it q fa : Addr} {self : Value} {t : Tok} {Q : Option Value → Shared → Prop} (hh : A.handled = none) (hit : s.heap.get? it = some (citObj (.ref q) (.str Str.empty t) false)) (hq : s.heap.get? q = some (methodObj (.ref fa) self)) (hf : FnAt fa s.heap)
    (hcall : wpAny (model prog w) A.in1 (call (.ref q) []) (fun v s₁ => ∃ y t', v = .str y t' ∧ s₁.heap.get? it = some (citObj (.ref q) (.str Str.empty t) false) ∧ s₁.heap.get? q = some (methodObj (.ref fa) self) ∧ FnAt fa s₁.heap ∧
      (y ≠ Str.empty → Q (some v) s₁) ∧ (y = Str.empty → ∀ h', Heap.ExtBut it s₁.heap h' → Q none { s₁ with heap := h' })) (fun _ _ => False) s) :
    wpAny (model prog w) A (pyNext (.ref it)) Q E s := by
  have hT : s.TypeIs (.ref it) "callable_iterator" := ⟨_, hit, rfl⟩
  unfold pyNext
  refine wpAny_bind (wpAny_attempt (wpAny_callSpecial?_slot (name := Str.ofString "__next__") hT slot_cit_next
    (wpAny_call_entry slot_cit_next hT entry_cit_next ?_ (args_cit_next _))))
  show wpAny _ _ (field (.ref it) 2 >>= _) _ _ s
  refine wpAny_bind (wpAny_field hit rfl (x := .bool false) rfl ?_)
  refine wpAny_ite_split (fun hab => absurd hab (by decide)) (fun _ => ?_)
  refine wpAny_bind (wpAny_field hit rfl (x := .ref q) rfl ?_)
  refine wpAny_bind (wpAny_attempt ?_)
  unfold callOutOfASlot
  refine wpAny_bind (borrows_meth hq hf ?_)
  refine wpAny_ite_split (fun _ => ?_) (fun hab => absurd rfl hab)
  refine wpAny_callBorrowed (wpAny_mono hcall (fun v s₁ hv => ?_) (fun _ _ x => x.elim))
  obtain ⟨y, t', rfl, hit₁, hq₁, hf₁, h1, h2⟩ := hv
  dsimp only
  refine wpAny_bind (wpAny_field hit₁ rfl (x := .bool false) rfl ?_)
  refine wpAny_ite_split (fun hab => absurd hab (by decide)) (fun _ => ?_)
  refine wpAny_bind (wpAny_field hit₁ rfl (x := .str Str.empty t) rfl ?_)
  refine wpAny_bind (wpAny_holding (wpAny_eqBool_str ?_))
  by_cases hy : y = Str.empty
  · subst hy
    have h2 := h2 rfl
    refine wpAny_ite_split (fun hab => absurd hab (by decide)) (fun _ => ?_)
    refine wpAny_bind (wpAny_rule ?_)
    show wpAny _ _ ((do
      slotLetsGo "callable_iterator.__next__" (← field (.ref it) 0) _
      setField (.ref it) 0 .none
      setField (.ref it) 1 .none
      setField (.ref it) 2 (.bool true)) >>= fun _ => _) _ _ _
    refine wpAny_bind (wpAny_bind (wpAny_field hit₁ rfl (x := .ref q) rfl ?_))
    unfold slotLetsGo
    refine wpAny_bind (wpAny_bind (borrows_meth hq₁ hf₁ ?_))
    refine wpAny_ite_split (fun _ => ?_) (fun hab => absurd rfl hab)
    refine wpAny_pure ?_
    have o1 : (s₁.heap.update it (Obj.mapFields (·.setIfInBounds 0 Value.none))).get? it = some { cls := .type "callable_iterator", data := .fields #[.none, .str Str.empty t, .bool false] } := by
      rw [Heap.get?_update_self _ hit₁ rfl]; rfl
    have o2 : ((s₁.heap.update it (Obj.mapFields (·.setIfInBounds 0 Value.none))).update it (Obj.mapFields (·.setIfInBounds 1 Value.none))).get? it = some { cls := .type "callable_iterator", data := .fields #[.none, .none, .bool false] } := by
      rw [Heap.get?_update_self _ o1 rfl]; rfl
    refine wpAny_bind (wpAny_setField hit₁ rfl (by simp) ?_)
    refine wpAny_bind (wpAny_setField (s := { s₁ with heap := s₁.heap.update it (Obj.mapFields (·.setIfInBounds 0 Value.none)) }) o1 rfl (by simp) ?_)
    refine wpAny_setField (s := { s₁ with heap := (s₁.heap.update it (Obj.mapFields (·.setIfInBounds 0 Value.none))).update it (Obj.mapFields (·.setIfInBounds 1 Value.none)) }) o2 rfl (by simp) ?_
    show wpAny _ _ (newExc (.type "StopIteration") [] >>= _) _ _ _
    refine wpAny_bind ?_
    simp only [newExc, newTuple]
    refine wpAny_bind (wpAny_newObj_type ?_ (by size_fits))
    refine wpAny_bind (m := firstArgMember _ _) (wpAny_of_eq (a := Value.none) (by first | rfl | (simp only [firstArgMember]; rfl)) ?_)
    refine wpAny_newObj_type ?_ (by size_fits)
    simp only [raiseNew]
    refine wpAny_bind (wpAny_handled ?_)
    rw [show A.in1.handled = none from hh]
    refine wpAny_bind (wpAny_pure (wpAny_throw ?_))
    refine wpAny_bind (wpAny_isInstance (T := "StopIteration") (b := true) ⟨_, Heap.get?_push_size _ rfl, rfl⟩ isSubtype_stop ?_)
    exact wpAny_pure (h2 _ (((((Heap.SameBut.update ..).extBut.trans (Heap.SameBut.update ..).extBut).trans (Heap.SameBut.update ..).extBut).push _).push _))
  · refine wpAny_ite_split (fun _ => ?_) (fun hab => absurd hab (by simp [Ne.symm hy]))
    refine wpAny_bind (wpAny_pure ?_)
    first | exact wpAny_pure ⟨_, rfl, wpAny_pure (h1 hy)⟩ | (refine wpAny_pure ?_; trace_state; done)
end
end

section
open PySem PySem.W PySem.Calls PySem.Spec PyProof.Rows
set_option Elab.async false
set_option maxRecDepth 100000
set_option linter.unusedSectionVars false
/-- a lexer over a stream whose reader is a function: all that stays -/
structure Lx where
  (x dx st ds pb f fc cl D : Addr)
  (oc : Value) (od : Option Addr) (fd : FuncData) (sl : Array (Option Value)) (co lo : Obj)
  (h1 h2 h3 h4 i1 i2 i3 i4 i5 : Int)
  (t1 t2 t3 t4 u1 u2 u3 u4 u5 tw : Tok)
  (w1 w2 w3 w4 : Value)
noncomputable abbrev Lx.led (Z : Lx) (ln : Int) (tl : Tok) (ys : List Value) (k : Nat) : Led :=
  [(Z.x, instObj 52 Z.dx), (Z.dx, dictOf (lexD Z.h1 Z.h2 Z.h3 Z.h4 Z.t1 Z.t2 Z.t3 Z.t4 (Value.int ln tl) (Value.ref Z.st) (Value.str (Str.ofString "\n\t\r ") Z.tw) (Value.ref Z.pb)) 4), (Z.st, instObj 52 Z.ds),
   (Z.ds, dictOf (streamD Z.i1 Z.i2 Z.i3 Z.i4 Z.i5 Z.u1 Z.u2 Z.u3 Z.u4 Z.u5 Z.w1 Z.w2 Z.w3 Z.w4 (Value.ref Z.f)) 5), (Z.f, (⟨Z.oc, Z.od, .func Z.fd, Z.sl⟩ : Obj)), (Z.fc, Z.co), (Z.cl, Z.lo), (Z.D, W.listOf ys.toArray k)]
noncomputable def Lx.Ok (Z : Lx) : Prop := @LT.lt Nat _ Z.cl Z.D ∧ @LT.lt Nat _ Z.D Z.ds ∧ @LT.lt Nat _ Z.ds Z.st ∧ @LT.lt Nat _ Z.st Z.fc ∧ @LT.lt Nat _ Z.fc Z.f ∧ @LT.lt Nat _ Z.f Z.dx ∧ @LT.lt Nat _ Z.dx Z.x ∧ @LT.lt Nat _ Z.x Z.pb
section
variable {prog : Program} {w : World} {A₀ A : Around} {s : Shared} {base b h₀ : Heap} {outer : List Env} {L : Addr} {m : Str → Option Value} {env : Env} {news sub : Led} {K : Frag}
  {p : Program} {loose : List Str} {mean : ExcName → Option Value} {mg mb : Str → Option Value} {d : Nat} {f : Addr} {vs : List Value} {post : Heap → Value → Heap → Prop}
  {R : Result → Shared → Prop}
theorem use_spec_code (S : Spec prog w K p loose mean mg mb d f vs sub post) (B : Below A₀ base outer h₀) (F : Fr h₀ L s.heap m) (X : K.In h₀) (N : News h₀ L s.heap news) (T : Top p loose mean mg mb h₀)
    (hA : A.frames = some (env :: outer)) (hh : A.handled = none) (hf : env.frame = some L) (hke : env.scope.kind = .function) (hd : A.depth ≤ d) (hu : A.units ≤ d)
    (hsub : ∀ q ∈ sub, q ∈ news)
    (h : ∀ v h' tk', Fr h₀ L h' m → Kept sub s.heap h' → post s.heap v h' → R (.ok (.ret v)) { s with heap := h', toks := tk' }) :
    codeAny (model prog w) A (.call (.ref f) ⟨vs, []⟩) R s := by
  obtain ⟨FG, BG, st, _⟩ := groundX (R := fun _ _ => True) B F N hA hf hke
  refine ar_le (S base _ (env :: outer) s _ (fun b o e => of_hideAll _ e) ⟨rfl, BG.stays, BG.frames⟩ (X.keeps st) (T.keeps st) (fun q hq => ⟨(N q (hsub q hq)).1, hideAll_none _ (List.mem_map_of_mem (hsub q hq))⟩) fun v h' tk' hk hp => ?_) hh hA hd hu
  refine h v h' tk' ?_ hk hp
  obtain ⟨oL, es, ep, hL, hLd, hLk, hLf⟩ := F.ns
  have hL' : h'.get? L = some oL := hk L oL hL fun q hq => (N q (hsub q hq)).2.1
  exact ⟨⟨oL, es, ep, hL', hLd, hLk, hLf⟩, fun x o e => hk x o (F.keep x o e) (fun q hq z => by
    have := (N q (hsub q hq)).2.2; rw [z, e] at this; cases this), F.above⟩
end
section
variable {w : World} {A₀ A : Around} {s : Shared} {base b h₀ : Heap} {outer : List Env} {L : Addr} {m : Str → Option Value} {env : Env} {pre : Led}
  {p : Program} {loose : List Str} {mean : ExcName → Option Value} {mg mb : Str → Option Value} {R : Result → Shared → Prop} {Z : Lx} {ln : Int} {tl : Tok} {ys : List Value} {xs : List Str} {k : Nat} {Q : Value → Shared → Prop} {E : Value → Shared → Prop}
noncomputable abbrev Lx.Rd (Z : Lx) (w : World) (p : Program) (loose : List Str) (mean : ExcName → Option Value) (mg mb : Str → Option Value) : Prop := Reader w p loose mean mg mb Z.f Z.fc Z.cl Z.D ⟨Z.oc, Z.od, .func Z.fd, Z.sl⟩ Z.co Z.lo
theorem char_code (R0 : Z.Rd w p loose mean mg mb) (ok : Z.Ok) (hS : StrsAre ys xs) (hlen : xs.length ≤ 1000) (B : Below A₀ base outer h₀) (F : Fr h₀ L s.heap m) (X : (hd.heap_1 w.params).In h₀) (N : News h₀ L s.heap (pre ++ Z.led ln tl ys k)) (T : Top p loose mean mg mb h₀)
    (hA : A.frames = some (env :: outer)) (hh : A.handled = none) (hf : env.frame = some L) (hke : env.scope.kind = .function) (hd : A.depth ≤ 460) (hu : A.units ≤ 460) (off : ∀ q ∈ pre, ∀ r ∈ Z.led ln tl ys k, r.1 ≠ q.1)
    (h : ∀ r k' t ln' tl' h' tk', StrsAre r xs.tail → Fr h₀ L h' m → News h₀ L h' (pre ++ Z.led ln' tl' r k') → R (.ok (.ret (.str (xs.headD Str.empty) t))) { s with heap := h', toks := tk' }) :
    codeAny (model PySem.Challenge.rw_wn0036_01.row.prog w) A (.call (.ref 35) ⟨[.ref Z.x], []⟩) R s := by
  obtain ⟨o1, o2, o3, o4, o5, o6, o7, o8⟩ := ok
  refine use_spec_code (char_spec w p loose mean mg mb Z.x Z.dx Z.st Z.ds Z.pb Z.f Z.fc Z.cl Z.D Z.oc Z.od Z.fd Z.sl Z.co Z.lo Z.h1 Z.h2 Z.h3 Z.h4 Z.i1 Z.i2 Z.i3 Z.i4 Z.i5 ln Z.t1 Z.t2 Z.t3 Z.t4 Z.u1 Z.u2 Z.u3 Z.u4 Z.u5 tl (Value.str (Str.ofString "\n\t\r ") Z.tw) Z.w1 Z.w2 Z.w3 Z.w4 k ys xs R0 hS hlen ⟨o1, o2, o3, o4, o5, o6, o7⟩)
    B F X N T hA hh hf hke hd hu (fun q hq => List.mem_append_right _ hq) fun v h' tk' F' hk hp => ?_
  obtain ⟨r, k', t, ln', tl', hr, rfl, e1, e2, e3, e4, e5, e6, e7, e8⟩ := hp
  refine h r k' t ln' tl' h' tk' hr F' fun q hq => ?_
  rcases List.mem_append.mp hq with hq | hq
  · have z := N q (List.mem_append_left _ hq)
    exact ⟨hk _ _ z.1 fun r hr => off q hq r hr, z.2⟩
  · have old : ∀ o, (q.1, o) ∈ Z.led ln tl ys k → q.1 ≠ L ∧ h₀.get? q.1 = none := fun o ho => (N _ (List.mem_append_right _ ho)).2
    simp only [List.mem_cons, List.not_mem_nil, or_false] at hq
    rcases hq with rfl | rfl | rfl | rfl | rfl | rfl | rfl | rfl
    · exact ⟨e1, old _ (.head _)⟩
    · exact ⟨e2, old _ (.tail _ (.head _))⟩
    · exact ⟨e3, old _ (.tail _ (.tail _ (.head _)))⟩
    · exact ⟨e4, old _ (.tail _ (.tail _ (.tail _ (.head _))))⟩
    · exact ⟨e5, old _ (.tail _ (.tail _ (.tail _ (.tail _ (.head _)))))⟩
    · exact ⟨e6, old _ (.tail _ (.tail _ (.tail _ (.tail _ (.tail _ (.head _))))))⟩
    · exact ⟨e7, old _ (.tail _ (.tail _ (.tail _ (.tail _ (.tail _ (.tail _ (.head _)))))))⟩
    · exact ⟨e8, old _ (.tail _ (.tail _ (.tail _ (.tail _ (.tail _ (.tail _ (.tail _ (.head _))))))))⟩
theorem char_use (R0 : Z.Rd w p loose mean mg mb) (ok : Z.Ok) (hS : StrsAre ys xs) (hlen : xs.length ≤ 1000) (B : Below A₀ base outer h₀) (F : Fr h₀ L s.heap m) (X : (hd.heap_1 w.params).In h₀) (N : News h₀ L s.heap (pre ++ Z.led ln tl ys k)) (T : Top p loose mean mg mb h₀)
    (hA : A.frames = some (env :: outer)) (hh : A.handled = none) (hf : env.frame = some L) (hke : env.scope.kind = .function) (hd : A.depth ≤ 460) (hu : A.units ≤ 460) (off : ∀ q ∈ pre, ∀ r ∈ Z.led ln tl ys k, r.1 ≠ q.1)
    (h : ∀ r k' t ln' tl' h' tk', StrsAre r xs.tail → Fr h₀ L h' m → News h₀ L h' (pre ++ Z.led ln' tl' r k') → Q (.str (xs.headD Str.empty) t) { s with heap := h', toks := tk' }) :
    wpAny (model PySem.Challenge.rw_wn0036_01.row.prog w) A (call (.ref 35) [.ref Z.x]) Q E s :=
  wpAny_call (char_code R0 ok hS hlen B F X N T hA hh hf hke hd hu off h)
theorem led_lt {q : Addr} (ok : Z.Ok) (hZ : @LT.lt Nat _ Z.x q) : ∀ r ∈ Z.led ln tl ys k, @LT.lt Nat _ r.1 q := by
  obtain ⟨o1, o2, o3, o4, o5, o6, o7, o8⟩ := ok
  intro r hr
  simp only [List.mem_cons, List.not_mem_nil, or_false] at hr
  rcases hr with rfl | rfl | rfl | rfl | rfl | rfl | rfl | rfl <;> dsimp only <;> omega
/-- the callable iterator over _read_char -/
theorem next_use {it q : Addr} {t : Tok} {Q : Option Value → Shared → Prop} (R0 : Z.Rd w p loose mean mg mb) (ok : Z.Ok) (hS : StrsAre ys xs) (hlen : xs.length ≤ 1000) (B : Below A₀ base outer h₀) (F : Fr h₀ L s.heap m) (X : (hd.heap_1 w.params).In h₀) (T : Top p loose mean mg mb h₀)
    (N : News h₀ L s.heap ((it, citObj (.ref q) (.str Str.empty t) false) :: (q, methodObj (.ref 35) (.ref Z.x)) :: pre ++ Z.led ln tl ys k))
    (hA : A.frames = some (env :: outer)) (hh : A.handled = none) (hf : env.frame = some L) (hke : env.scope.kind = .function) (hd : A.depth ≤ 460) (hu : A.units + 1 ≤ 460) (hq : @LT.lt Nat _ q it) (hpre : ∀ r ∈ pre, @LT.lt Nat _ r.1 q) (hZ : @LT.lt Nat _ Z.x q) (off : ∀ q ∈ pre, ∀ r ∈ Z.led ln tl ys k, r.1 ≠ q.1)
    (item : ∀ r k' t' ln' tl' h' tk' c, xs.head? = some c → c ≠ Str.empty → StrsAre r xs.tail → Fr h₀ L h' m → News h₀ L h' ((it, citObj (.ref q) (.str Str.empty t) false) :: (q, methodObj (.ref 35) (.ref Z.x)) :: pre ++ Z.led ln' tl' r k') → Q (some (.str c t')) { s with heap := h', toks := tk' })
    (done : ∀ r k' ln' tl' h' tk', xs.headD Str.empty = Str.empty → StrsAre r xs.tail → Fr h₀ L h' m → News h₀ L h' (pre ++ Z.led ln' tl' r k') → Q none { s with heap := h', toks := tk' }) :
    wpAny (model PySem.Challenge.rw_wn0036_01.row.prog w) A (pyNext (.ref it)) Q E s := by
  have fn : ∀ h', Fr h₀ L h' m → FnAt 35 h' := fun h' F' => ⟨_, _, _, _, F'.keep _ _ (X 35 _ rfl)⟩
  refine pyNext_cit hh (N _ (.head _)).1 (N _ (.tail _ (.head _))).1 (fn _ F) ?_
  refine call_meth N (.tail _ (.head _)) ?_
  refine char_code (pre := (it, citObj (.ref q) (.str Str.empty t) false) :: (q, methodObj (.ref 35) (.ref Z.x)) :: pre) (A := A.in1) R0 ok hS hlen B F X N T hA hh hf hke hd hu ?_ fun r k' t' ln' tl' h' tk' hr F' N' => ?_
  · intro z hz r hr
    have := led_lt ok hZ r hr
    rcases List.mem_cons.mp hz with rfl | hz
    · exact Nat.ne_of_lt (Nat.lt_trans this hq)
    rcases List.mem_cons.mp hz with rfl | hz
    · exact Nat.ne_of_lt this
    · exact off z hz r hr
  · refine ⟨_, _, rfl, (N' _ (.head _)).1, (N' _ (.tail _ (.head _))).1, fn _ F', fun hne => ?_, fun he h'' hx => ?_⟩
    · cases xs with
      | nil => exact absurd rfl hne
      | cons c xs => exact item r k' t' ln' tl' h' tk' c rfl hne hr F' N'
    · have z := N' _ (.head _)
      refine done r k' ln' tl' h'' tk' he hr (LCg.fr_but F' (fun b o hb e => hx b o (by simpa using hb) e) (Ne.symm z.2.1) z.2.2) fun y hy => ?_
      have hy' := N' y (.tail _ (.tail _ hy))
      refine ⟨hx _ _ ?_ hy'.1, hy'.2⟩
      rcases List.mem_append.mp hy with hy | hy
      · exact Nat.ne_of_lt (Nat.lt_trans (hpre _ hy) hq)
      · exact Nat.ne_of_lt (Nat.lt_trans (led_lt ok hZ y hy) hq)
end
end

section
open PySem PySem.W PySem.Calls PyProof.Rows
set_option Elab.async false
/-- no run fills an old empty place: what is new lies at the end -/
noncomputable def Gw (h h' : Heap) : Prop := @LE.le Nat _ h.objs.size h'.objs.size ∧ ∀ a, @LT.lt Nat _ a h.objs.size → h.get? a = none → h'.get? a = none
theorem Gw.refl (h : Heap) : Gw h h := ⟨Nat.le_refl _, fun _ _ e => e⟩
theorem Gw.trans {a b c : Heap} (x : Gw a b) (y : Gw b c) : Gw a c := ⟨Nat.le_trans x.1 y.1, fun q hq e => y.2 q (Nat.lt_of_lt_of_le hq x.1) (x.2 q hq e)⟩
theorem Gw.push (h : Heap) (o : Obj) : Gw h (h.push o) := by
  refine ⟨by rw [Heap.size_push]; exact Nat.le_succ _, fun a ha e => ?_⟩
  cases z : (h.push o).get? a with
  | none => rfl
  | some o' =>
    rcases Heap.get?_push_cases z with ⟨q, _⟩ | q
    · exact absurd q (Nat.ne_of_lt ha)
    · rw [e] at q; cases q
theorem Gw.update (h : Heap) (a : Addr) (f : Obj → Obj) (hs : (h.get? a).isSome) : Gw h (h.update a f) := by
  refine ⟨by rw [Heap.size_update]; exact Nat.le_refl _, fun b _ e => ?_⟩
  rw [Heap.get?_update_other]
  · exact e
  · intro q; subst q; rw [e] at hs; cases hs
theorem runs_gw {M : Model} {Γ : Ctx} {p : Pos} {t : Sem Fin} {fs : List Frame} {s : Shared} {e : End} {s' : Shared} (h : Runs M Γ p t fs s e s') : Gw s.heap s'.heap := by
  induction h with
  | done | raise | yield => exact Gw.refl _
  | update hs _ ih => exact (Gw.update _ _ _ hs).trans ih
  | alloc _ ih => exact (Gw.push _ _).trans ih
  | fresh _ ih => exact ih
  | again _ _ ih | rule _ ih | «at» _ ih | load _ _ ih | loadIfAlive _ ih | point _ ih | ask _ ih | choose _ _ ih | os _ ih | handled _ ih | genState _ _ ih | stack _ ih | thread _ ih | newGen _ ih => exact ih
  | call _ _ i1 i2 => exact i1.trans i2
  | callSusp _ i1 => exact i1
  | resumeFresh _ _ _ _ i1 i2 => exact i1.trans i2
  | resumeSuspended _ _ _ _ i1 i2 => exact i1.trans i2
  | resumeJustStarted _ _ _ i1 => exact i1
  | resumeThrowFresh _ _ i1 => exact i1
  | resumeRunning _ _ i1 => exact i1
  | resumeFinished _ _ i1 => exact i1
  | segRet _ _ i1 i2 => exact i1.trans i2
  | segGen _ _ i1 i2 => exact i1.trans i2
  | segSuspOut _ _ i1 => exact i1
  | segSuspGen _ _ _ _ i1 i2 => exact i1.trans i2
theorem wakes_gw {M : Model} {Γ : Ctx} {p : Pos} {g : Nat} {r : Resume} {s : Shared} {res : GenResult} {s' : Shared} (h : Wakes M Γ p g r s res s') : Gw s.heap s'.heap := by
  unfold Wakes at h
  split at h
  · cases h
  · split at h
    · obtain ⟨e₁, s₁, hr, _, _, rfl⟩ := h
      have := runs_gw hr
      exact this
    · rw [h.2]; exact Gw.refl _
    · rw [h.2]; exact Gw.refl _
  · obtain ⟨e₁, s₁, hr, _, _, rfl⟩ := h
    have := runs_gw hr
    exact this
  · rw [h.2]; exact Gw.refl _
  · rw [h.2]; exact Gw.refl _
theorem wp_gw {α : Type} (M : Model) (Γ : Ctx) (t : Sem α) (Q : α → Pos → Shared → Prop) (E : Value → Pos → Shared → Prop) (T : Heap) :
    ∀ (p : Pos) (s : Shared), Gw T s.heap → Sem.wp M Γ t (fun a p s' => Gw T s'.heap → Q a p s') (fun e p s' => Gw T s'.heap → E e p s') p s → Sem.wp M Γ t Q E p s := by
  induction t with
  | pure a => intro p s hT h; exact h hT
  | raise e => intro p s hT h; exact h hT
  | unsupported | finish | register | yield | fork | await => intro p s hT h; simp only [Sem.wp] at h
  | rule _ k ih | «at» _ k ih | point _ k ih | ask k ih | handled _ k ih | stack k ih | thread k ih | loadIfAlive _ k ih | newGen _ k ih | os _ _ k ih | fresh k ih =>
    intro p s hT h
    simp only [Sem.wp] at h ⊢
    exact ih _ _ _ hT h
  | alloc _ k ih =>
    intro p s hT h
    simp only [Sem.wp] at h ⊢
    exact ih _ _ _ (hT.trans (Gw.push _ _)) h
  | load _ _ k ih =>
    intro p s hT h
    simp only [Sem.wp] at h ⊢
    obtain ⟨o, ho, h⟩ := h
    exact ⟨o, ho, ih _ _ _ hT h⟩
  | update _ _ _ k ih =>
    intro p s hT h
    simp only [Sem.wp] at h ⊢
    exact ⟨h.1, ih _ _ _ (hT.trans (Gw.update _ _ _ h.1)) h.2⟩
  | choose _ _ k ih =>
    intro p s hT h
    simp only [Sem.wp] at h ⊢
    exact ⟨h.1, ih _ _ _ hT h.2⟩
  | genState _ k ih =>
    intro p s hT h
    simp only [Sem.wp] at h ⊢
    obtain ⟨o, ho, h⟩ := h
    exact ⟨o, ho, ih _ _ _ hT h⟩
  | call _ _ _ _ k ih =>
    intro p s hT h
    simp only [Sem.wp] at h ⊢
    obtain ⟨r, s', hr, h⟩ := h
    exact ⟨r, s', hr, ih _ _ _ (hT.trans (runs_gw hr)) h⟩
  | resume _ _ _ k ih =>
    intro p s hT h
    simp only [Sem.wp] at h ⊢
    obtain ⟨r, s', hr, h⟩ := h
    exact ⟨r, s', hr, ih _ _ _ (hT.trans (wakes_gw hr)) h⟩
theorem any_gw {α : Type} {M : Model} {A : Around} {t : Sem α} {Q : α → Shared → Prop} {E : Value → Shared → Prop} {s : Shared}
    (h : wpAny M A t (fun a s' => Gw s.heap s'.heap → Q a s') (fun e s' => Gw s.heap s'.heap → E e s') s) : wpAny M A t Q E s := fun Γ p hΓ =>
  wp_gw M Γ t _ _ s.heap p s (Gw.refl _) (h Γ p hΓ)
theorem code_gw {M : Model} {A : Around} {c : Code} {R : Result → Shared → Prop} {s : Shared} (h : codeAny M A c (fun r s' => Gw s.heap s'.heap → R r s') s) : codeAny M A c R s := fun Γ p hc hΓ => by
  obtain ⟨r, s', hr, h⟩ := h Γ p hc hΓ
  exact ⟨r, s', hr, h (runs_gw hr)⟩
theorem Gw.above {h h' : Heap} {q : Addr} {o : Obj} (x : Gw h h') (hq : h.get? q = none) (e : h'.get? q = some o) : @LE.le Nat _ h.objs.size q := by
  by_cases c : @LT.lt Nat _ q h.objs.size
  · have := x.2 q c hq; rw [e] at this; cases this
  · exact Nat.not_lt.mp c
end

section
open PySem PySem.W PySem.Calls PyProof.Rows
set_option Elab.async false
set_option maxRecDepth 100000
set_option maxHeartbeats 8000000
set_option linter.unusedSectionVars false
/-- what a new lexer's dict holds, but for its stream and its list -/
structure Lk where
  (h1 h2 h3 h4 : Int) (t1 t2 t3 t4 tl tw : Tok)
noncomputable abbrev lexO (κ : Lk) (v : Value) (pb : Addr) : Obj := dictOf (lexD κ.h1 κ.h2 κ.h3 κ.h4 κ.t1 κ.t2 κ.t3 κ.t4 (Value.int 1 κ.tl) v (Value.str (Str.ofString "\n\t\r ") κ.tw) (Value.ref pb)) 4
theorem init_spec (w p loose mean mg mb) (x dx : Addr) (v : Value) (n1 : @LT.lt Nat _ dx x) :
    Sp w p loose mean mg mb 450 28 [Value.ref x, v] [(x, instObj 52 dx), (dx, emptyDict)]
      (fun h r h' => r = Value.none ∧ h'.get? x = some (instObj 52 dx) ∧ ∃ κ pb, h.get? pb = none ∧ h'.get? dx = some (lexO κ v pb) ∧ h'.get? pb = some (W.listOf #[] 0)) := by
  unfold Sp
  k_fill
  intro base b outer s R st B X T N hret
  ktr_unf
  clear st B X T N
  k_steps
  refine' hret _ _ _ (Gr.kept (by assumption) (by assumption)) ⟨rfl, News.get (by assumption) (by k_mem), ⟨_, _, _, _, _, _, _, _, _, _⟩, _, ?f, News.get (by assumption) (by k_mem), News.get (by assumption) (by k_mem)⟩
  case f => exact Gr.fresh (o := W.listOf #[] 0) (by assumption) (by assumption) (by k_mem) (by intro q hq; simp only [List.mem_cons, List.not_mem_nil, or_false] at hq; rcases hq with rfl | rfl <;> dsimp only <;> exact neN (by omega))
section
variable {w : World} {A₀ A : Around} {s : Shared} {base b h₀ h' : Heap} {outer : List Env} {L : Addr} {m : Str → Option Value} {env : Env} {news sub : Led}
  {p : Program} {loose : List Str} {mean : ExcName → Option Value} {mg mb : Str → Option Value}
  {Q : Value → Shared → Prop} {E : Value → Shared → Prop}
theorem new_use {v : Value} (B : Below A₀ base outer h₀) (F : Fr h₀ L s.heap m) (X : (hd.heap_1 w.params).In h₀) (N : News h₀ L s.heap news) (T : Top p loose mean mg mb h₀)
    (hA : (A.under (.builtin "type.__call__" ⟨[.ref 52, v], []⟩)).frames = some (env :: outer)) (hh : (A.under (.builtin "type.__call__" ⟨[.ref 52, v], []⟩)).handled = none) (hf : env.frame = some L) (hke : env.scope.kind = .function) (hd : (A.under (.builtin "type.__call__" ⟨[.ref 52, v], []⟩)).depth ≤ 450) (hu : (A.under (.builtin "type.__call__" ⟨[.ref 52, v], []⟩)).units ≤ 450)
    (h : ∀ x dx pb κ h' tk', Fr h₀ L h' m → News h₀ L h' ((pb, W.listOf #[] 0) :: (x, instObj 52 dx) :: (dx, lexO κ v pb) :: news) → (∀ q ∈ news, q.1 < dx) → (∀ q ∈ (dx, emptyDict) :: news, q.1 < x) → (∀ q ∈ (x, emptyDict) :: (dx, emptyDict) :: news, q.1 < pb) → Q (.ref x) { s with heap := h', toks := tk' }) :
    wpAny (model PySem.Challenge.rw_wn0036_01.row.prog w) A (call (.ref 52) [v]) Q E s := by
  refine wpAny_call (make_K (fI := 28) F N (X.keeps F.keep) (by k_is) (by k_is) (by k_is) fun x dx h₁ F₁ N₁ l1 l2 => code_gw ?_)
  have hsub : ∀ q ∈ ([(x, instObj 52 dx), (dx, emptyDict)] : Led), q ∈ (x, instObj 52 dx) :: (dx, emptyDict) :: news := fun q hq => by
    simp only [List.mem_cons, List.not_mem_nil, or_false] at hq
    rcases hq with rfl | rfl
    · exact .head _
    · exact .tail _ (.head _)
  refine use_spec_code (s := { s with heap := h₁ }) (init_spec w p loose mean mg mb x dx v l2) B F₁ X N₁ T hA hh hf hke hd hu hsub fun v' h' tk' F' hk hp => ?_
  obtain ⟨rfl, e1, κ, pb, hq, e2, e3⟩ := hp
  intro G
  refine ⟨rfl, ?_⟩
  have hge := G.above hq e3
  have hx := N₁ (x, instObj 52 dx) (.head _)
  have hdx := N₁ (dx, emptyDict) (.tail _ (.head _))
  have lx : ∀ q ∈ (dx, emptyDict) :: news, q.1 < x := fun q hq => by
    rcases List.mem_cons.mp hq with rfl | hq
    · exact l2
    · exact Nat.lt_trans (l1 q hq) l2
  have hxp : @LT.lt Nat _ x pb := Nat.lt_of_lt_of_le (Heap.lt_size hx.1) hge
  refine h x dx pb κ h' tk' F' (fun r hr => ?_) l1 lx (fun q hq => by
    rcases List.mem_cons.mp hq with rfl | hq
    · exact hxp
    · exact Nat.lt_trans (lx q hq) hxp)
  rcases List.mem_cons.mp hr with rfl | hr
  · refine ⟨e3, fun z => ?_, ?_⟩
    · obtain ⟨oL, _, _, hL, _⟩ := F₁.ns
      dsimp only at z hq; rw [z, hL] at hq; cases hq
    · cases e : h₀.get? pb with
      | none => rfl
      | some o => dsimp only at hq; rw [F₁.keep _ _ e] at hq; cases hq
  rcases List.mem_cons.mp hr with rfl | hr
  · exact ⟨e1, hx.2⟩
  rcases List.mem_cons.mp hr with rfl | hr
  · exact ⟨e2, hdx.2⟩
  · have z := N₁ r (.tail _ (.tail _ hr))
    refine ⟨hk _ _ z.1 fun q hq => ?_, z.2⟩
    have := l1 r hr
    simp only [List.mem_cons, List.not_mem_nil, or_false] at hq
    rcases hq with rfl | rfl
    · exact Ne.symm (Nat.ne_of_lt (Nat.lt_trans this l2))
    · exact Ne.symm (Nat.ne_of_lt this)
end
end

section
open PySem PySem.W PySem.Calls PyProof.Rows
set_option Elab.async false
set_option maxRecDepth 100000
set_option maxHeartbeats 8000000
-- a step that does not enter a loop

theorem strs_at {vs : List Value} {rs : List Str} (h : StrsAre vs rs) {i : Nat} (hi : i < vs.length) : ∃ r t, vs[i] = Value.str r t := by
  induction h generalizing i with
  | nil => exact absurd hi (Nat.not_lt_zero _)
  | cons r t _ ih =>
    cases i with
    | zero => exact ⟨r, t, rfl⟩
    | succ i => exact ih (by simpa using hi)
/-- the last loop, plainly -/
noncomputable def comesG (rs : List Str) : List Int → List Str → List Str → Bool
  | [], _, _ => true
  | i :: os, tl, fl => if (rs.getD i.toNat Str.empty == tl.headD Str.empty) = true then comesG rs os tl.tail fl else if (rs.getD i.toNat Str.empty == fl.headD Str.empty) = true then comesG rs os tl fl.tail else false
noncomputable def Ends (l : List Str) : Prop := ∃ X, l = X ++ [Str.empty] ∧ Str.empty ∉ X
theorem Ends.tail {a : Str} {l : List Str} (h : Ends (a :: l)) (ha : a ≠ Str.empty) : Ends l := by
  obtain ⟨X, e, hX⟩ := h
  cases X with
  | nil => rw [List.nil_append, List.cons.injEq] at e; exact absurd e.1 ha
  | cons b X =>
    rw [List.cons_append, List.cons.injEq] at e
    exact ⟨X, e.2, fun m => hX (List.mem_cons_of_mem _ m)⟩
theorem Ends.ne {l : List Str} (h : Ends l) : l ≠ [] := by
  obtain ⟨X, e, _⟩ := h
  rw [e]; simp
theorem starts_of {V : List Value} {l : List Str} (h : StrsAre V l) (hl : l ≠ []) : Starts V := by
  cases h with
  | nil => exact absurd rfl hl
  | cons r t _ => exact ⟨r, t, _, rfl⟩
theorem getD_mem {rs : List Str} {i : Int} (h0 : 0 ≤ i) (h1 : i < rs.length) : rs.getD i.toNat Str.empty ∈ rs := by
  have : i.toNat < rs.length := by omega
  rw [List.getD_eq_getElem?_getD, List.getElem?_eq_getElem this]
  exact List.getElem_mem this
theorem strs_cons {a : Str} {t : Tok} {V : List Value} {l : List Str} (h : StrsAre (Value.str a t :: V) l) : ∃ l', l = a :: l' ∧ StrsAre V l' := by
  cases h with
  | cons _ _ h => exact ⟨_, rfl, h⟩
theorem cut_strs {X items : List Value} {xs : List Str} {y tok : Str} {t tv : Tok} (h : StrsAre X xs) (e : X ++ [Value.str y t] = Value.str tok tv :: items) : ∃ l', xs ++ [y] = tok :: l' ∧ StrsAre items l' := by
  have h2 := strs_append h (.cons y t .nil)
  rw [e] at h2
  exact strs_cons h2
theorem ints_cons {v : Value} {V : List Value} {l : List Int} (h : IntsAre (v :: V) l) : ∃ i t l', v = Value.int i t ∧ l = i :: l' ∧ IntsAre V l' := by
  cases h with
  | cons i t h => exact ⟨i, t, _, rfl, rfl, h⟩
local macro_rules | `(tactic| walk_at "call ref") => `(tactic| (k_here; (with_reducible show wpAny _ _ (call (Value.ref 52) _) _ _ _); k_dflt (refine' new_use ?k1 ?k2 ?k3 ?k4 ?k5 ?kA ?kh ?kF ?kK ?kd ?ku ?_; (case kA => exact rfl); (case kh => exact rfl); (case kF => exact rfl); (case kK => exact rfl); (case k1 => k_asm); (case k2 => k_asm); (case k3 => k_asm); (case k4 => k_asm); (case k5 => k_asm); (case kd => exact Nat.le_of_ble_eq_true rfl); (case ku => exact Nat.le_of_ble_eq_true rfl); k_whole; intro x' d' l' κ' h' tk' F' N' l1 l2 l3; (try k_lt l1); (try k_lt l2); (try k_lt l3); (try k_sweep))))
theorem comes_spec (w p loose mean mg mb) (lw lo : Addr) (ws os : List Value) (rs : List Str) (ns : List Int) (kw ko : Nat) (cut : Int) (tc : Tok)
   (hW : StrsAre ws rs) (hO : IntsAre os ns) (hlen : rs.length ≤ 6) (hlo : ns.length ≤ 6) (hn : ∀ i ∈ ns, 0 ≤ i ∧ i < rs.length) (hne : Str.empty ∉ rs) (hc0 : 0 ≤ cut) (hc1 : cut ≤ rs.length) (ne1 : @Ne Nat lw lo) :
    Sp w p loose mean mg mb 400 173 [Value.ref lw, Value.int cut tc, Value.ref lo] [(lw, W.listOf ws.toArray kw), (lo, W.listOf os.toArray ko)]
      (fun _ v h' => v = Value.bool (comesG rs ns ((rs.take cut.toNat).reverse ++ [Str.empty]) (rs.drop cut.toNat ++ [Str.empty])) ∧ h'.get? lw = some (W.listOf ws.toArray kw) ∧ h'.get? lo = some (W.listOf os.toArray ko)) := by
  k_with_none
  k_with "TB" => (repeat' (first | (k_unfold; (try dsimp only)) | (k_end; wrow_close) | ((fail_if_success (with_reducible show wpAny _ _ (pyIter _) _ _ _)); walk1) | (dsimp only; (fail_if_success (with_reducible show wpAny _ _ (pyIter _) _ _ _)); walk1) | (leave1; walk_say "STEP leave1"; try dsimp only) | fail "no step"))
  unfold Sp
  k_fill
  intro base b outer s R st B X T N hret
  have hwl : ws.length = rs.length := StrsAre.length hW
  ktr_unf
  clear st B X T N
  k_extra "TB"
  refine' for_one (fun st : List Value × Nat => W.listOf st.1.toArray st.2) (fun r st => st.1 ++ r = ws) rfl (by k_asm) (by k_asm) (by k_mem) ?u1 ?u2 ([], 0) ?u3 ?u4 ?turn ?done
  case u3 => exact rfl
  case u4 => exact rfl
  case u1 => k_updF
  case u2 => omega
  case turn =>
    intro v r st u I it h tk hp hc hI F' N'
    have hlst : st.1.length < 100 := by
      have := congrArg List.length hp
      rw [List.length_append, List.length_cons] at this
      omega
    k_lt hI
    k_extra "TB"
    exact OneEnd.intro (st.1 ++ [v], st.2 + 1) (by k_asm) (by k_asm) (by simpa using hp)
  case done =>
    intro st u h tk hp F' N'
    obtain ⟨its, e0⟩ := st
    have hp' : its = ws := by simpa using hp
    subst hp'
    clear hp
    dsimp only at N' ⊢
    k_extra "TB"
    obtain ⟨n, rfl⟩ := Int.eq_ofNat_of_zero_le hc0
    refine' for_range2 (n := n) (fun st : (List Value × Nat) × (List Value × Nat) => W.listOf st.1.1.toArray st.1.2) (fun st => W.listOf st.2.1.toArray st.2.2) (fun i st => st.1.1 = (its.take i).reverse ∧ ∃ tk0, st.2.1 = its.drop i ++ [Value.str (Str.ofString "") tk0]) rfl (by assumption) ?r2 ?r3 (by k_asm) (by k_asm) ?u1 ?u2 (([], 0), (_, _)) ?u3 ?u4 ?u5 ?u6 ?turn ?done
    case u3 => exact rfl
    case u4 => exact rfl
    case u1 => k_updF
    case u5 => exact ⟨rfl, _, rfl⟩
    case r2 => exact (range_facts (by omega)).1
    case r3 => exact (range_facts (by omega)).2
    case u6 => decide
    case u2 => k_all
    case turn =>
      intro i st aa u d I it t h tk hi hp ha hI haI F' N' hd
      obtain ⟨⟨hits, kh⟩, rem, eh⟩ := st
      obtain ⟨h1, tk0, h2⟩ := hp
      dsimp only at h1 h2 F' N'
      have hil : i < its.length := by omega
      obtain ⟨tok, tv, hg⟩ := strs_at hW hil
      rw [List.drop_eq_getElem_cons hil, hg, List.cons_append] at h2
      subst h2
      have hits6 : hits.length ≤ 6 := by rw [h1, List.length_reverse, List.length_take]; omega
      have hrem : (List.drop (i + 1) its ++ [Value.str (Str.ofString "") tk0]).length < 1000 := by rw [List.length_append, List.length_drop, List.length_cons, List.length_nil]; omega
      k_lt hI
      replace ha := apart_all ha
      simp only [List.map_cons, List.map_nil] at ha
      k_extra "TB"
      subst hd
      exact TwoEnd.intro _ ((Value.str tok tv :: hits, 0), (its.drop (i + 1) ++ [Value.str (Str.ofString "") tk0], eh + 1)) (by k_asm) (by k_asm) (by kcj_all) (by k_all) (by k_ne) ⟨by rw [h1, List.take_add_one, List.getElem?_eq_getElem hil, hg]; simp, tk0, rfl⟩
    case done =>
      intro st aa u' h tk hp ha F' N'
      obtain ⟨⟨hits, kh⟩, rem, eh⟩ := st
      obtain ⟨h1, tk0, h2⟩ := hp
      dsimp only at h1 h2 F' N'
      subst h1 h2
      replace ha := apart_all ha
      simp only [List.map_cons, List.map_nil] at ha
      k_extra "TB"
      have hS1 := strs_reverse (strs_take hW n)
      have hS2 := strs_drop hW n
      have hlr : (List.take n its).reverse.length ≤ 6 := by rw [List.length_reverse, List.length_take]; omega
      have hld : (List.drop n its).length ≤ 6 := by rw [List.length_drop]; omega
      k_extra "TB"
      refine' for_one (fun st : List Value × Nat => W.listOf st.1.toArray st.2) (fun r st => st.1 ++ r = (List.take n its).reverse) rfl (by k_asm) (by k_asm) (by k_mem) ?u1 ?u2 ([], 0) ?u3 ?u4 ?turn ?done
      case u3 => exact rfl
      case u4 => exact rfl
      case u1 => k_updF
      case u2 => omega
      case turn =>
        intro v r st u I it h tk hp hc hI F' N'
        have hlst : st.1.length < 100 := by
          have := congrArg List.length hp
          rw [List.length_append, List.length_cons] at this
          omega
        k_lt hI
        k_extra "TB"
        exact OneEnd.intro (st.1 ++ [v], st.2 + 1) (by k_asm) (by k_asm) (by simpa using hp)
      case done =>
        intro st u h tk hp F' N'
        obtain ⟨its3, e3⟩ := st
        have hp' : its3 = (List.take n its).reverse := by simpa using hp
        subst hp'
        clear hp
        dsimp only at N' ⊢
        k_extra "TB"
        rename (List.drop _ _ ++ _ = _ :: _) => eF
        rename (List.reverse _ ++ _ = _ :: _) => eT
        rename List Value => i2
        obtain ⟨T', eT', hT'⟩ := cut_strs hS1 eT
        obtain ⟨F2, eF', hF'⟩ := cut_strs hS2 eF
        have lT := congrArg List.length eT'
        have lF := congrArg List.length eF'
        rw [List.length_append, List.length_reverse, List.length_take, List.length_cons, List.length_cons, List.length_nil] at lT
        rw [List.length_append, List.length_drop, List.length_cons, List.length_cons, List.length_nil] at lF
        refine' for_two (fun st : (List Value × Nat) × (List Value × Nat) × (Str × Tok) × (Str × Tok) => W.listOf st.1.1.toArray st.1.2) (fun st => W.listOf st.2.1.1.toArray st.2.1.2) (fun st => Value.str st.2.2.1.1 st.2.2.1.2) (fun st => Value.str st.2.2.2.1 st.2.2.2.2)
          (fun r st => ∃ ns' T' F', IntsAre r ns' ∧ (∀ i ∈ ns', 0 ≤ i ∧ i < rs.length) ∧ StrsAre st.1.1 T' ∧ StrsAre st.2.1.1 F' ∧ Ends (st.2.2.1.1 :: T') ∧ Ends (st.2.2.2.1 :: F') ∧ comesG rs ns' (st.2.2.1.1 :: T') (st.2.2.2.1 :: F') = comesG rs ns ((rs.take n).reverse ++ [Str.empty]) (rs.drop n ++ [Str.empty]) ∧ T'.length ≤ 10 ∧ F'.length ≤ 10)
          rfl (by k_asm) (by k_asm) (by k_mem) ?uA ?uB ?u1 ?u2 ((_, _), (i2, _), (_, _), (_, _)) ?u3 ?u4 ?u5 ?u6 ?uP ?turn ?done
        case u3 => exact rfl
        case u4 => exact rfl
        case u5 => exact rfl
        case u6 => exact rfl
        case uA => k_updF
        case uB => (intro o; dsimp only; refine' UpdF.tail ?a1 (UpdF.tail ?a2 (UpdF.tail ?a3 (UpdF.tail ?a4 (UpdF.head ?a5)))); (case a5 => k_all); (case a1 => k_ne); (case a2 => k_ne); (case a3 => k_ne); (case a4 => k_ne))
        case u1 => omega
        case u2 => omega
        case uP => exact ⟨ns, T', F2, by assumption, hn, hT', hF', by rw [← eT']; exact ⟨_, rfl, fun hm => hne (List.mem_of_mem_take (List.mem_reverse.mp hm))⟩, by rw [← eF']; exact ⟨_, rfl, fun hm => hne (List.mem_of_mem_drop hm)⟩, by rw [← eT', ← eF']; rfl, by omega, by omega⟩
        case turn =>
          intro v r st u I it h tk hP hc hI F' N'
          obtain ⟨⟨T, eT⟩, ⟨Fv, eF⟩, ⟨top, tt⟩, ⟨front, tf⟩⟩ := st
          obtain ⟨ns', T', F2, hi, hr, hsT, hsF, enT, enF, hB, lT, lF⟩ := hP
          dsimp only at hsT hsF enT enF hB F' N'
          obtain ⟨i, ti, ns2, rfl, rfl, hi2⟩ := ints_cons hi
          have hi0 := hr i (.head _)
          have hne' : rs.getD i.toNat Str.empty ≠ Str.empty := fun e => hne (e ▸ getD_mem hi0.1 hi0.2)
          have nT : StartsIf (rs.getD i.toNat Str.empty == top) T := fun hq => starts_of hsT (enT.tail (fun e => hne' ((eq_of_beq hq).trans e))).ne
          have nF : StartsIf (rs.getD i.toNat Str.empty == front) Fv := fun hq => starts_of hsF (enF.tail (fun e => hne' ((eq_of_beq hq).trans e))).ne
          have hlT := StrsAre.length hsT
          have hlF := StrsAre.length hsF
          k_lt hI
          k_extra "TB"
          · rename T = Value.str _ _ :: _ => eN
            rw [eN] at hsT
            obtain ⟨T2, rfl, hsT2⟩ := strs_cons hsT
            have hq : (rs.getD i.toNat Str.empty == top) = true := by assumption
            refine DuoEnd.intro ((_, _), (_, _), (_, _), (_, _)) (by k_asm) (fr_A (by decide) (by decide)) (by k_asm) (fun q hq => hq) ⟨ns2, T2, F2, hi2, fun j hj => hr j (.tail _ hj), hsT2, hsF, enT.tail (fun e => hne' ((eq_of_beq hq).trans e)), enF, ?_, by rw [List.length_cons] at lT; omega, lF⟩
            refine Eq.trans ?_ hB
            simp only [comesG, List.headD_cons, List.tail_cons, hq, if_true]
          · rename Fv = Value.str _ _ :: _ => eN
            rw [eN] at hsF
            obtain ⟨T2, rfl, hsT2⟩ := strs_cons hsF
            have hq : (rs.getD i.toNat Str.empty == front) = true := by assumption
            have hq2 : (rs.getD i.toNat Str.empty == top) = false := by assumption
            refine DuoEnd.intro ((_, _), (_, _), (_, _), (_, _)) (by k_asm) (fr_B (by decide)) (by k_asm) (fun q hq => hq) ⟨ns2, T', T2, hi2, fun j hj => hr j (.tail _ hj), hsT, hsT2, enT, enF.tail (fun e => hne' ((eq_of_beq hq).trans e)), ?_, lT, by rw [List.length_cons] at lF; omega⟩
            refine Eq.trans ?_ hB
            simp only [comesG, List.headD_cons, List.tail_cons, hq, hq2, if_true, Bool.false_eq_true, if_false]
          · have hq : (rs.getD i.toNat Str.empty == front) = false := by assumption
            have hq2 : (rs.getD i.toNat Str.empty == top) = false := by assumption
            have hB2 : comesG rs ns ((rs.take n).reverse ++ [Str.empty]) (rs.drop n ++ [Str.empty]) = false := by
              rw [← hB]
              simp only [comesG, List.headD_cons, List.tail_cons, hq, hq2, Bool.false_eq_true, if_false]
            exact hret _ _ _ (Gr.kept (by assumption) (by k_asm)) ⟨congrArg Value.bool hB2.symm, News.get (by k_asm) (by k_mem), News.get (by k_asm) (by k_mem)⟩
        case done =>
          intro st u h tk hP F' N'
          obtain ⟨ns', T', F2, hi, hr, hsT, hsF, enT, enF, hB, lT, lF⟩ := hP
          cases hi
          have hB2 : comesG rs ns ((rs.take n).reverse ++ [Str.empty]) (rs.drop n ++ [Str.empty]) = true := by rw [← hB]; rfl
          k_extra "TB"
          exact hret _ _ _ (Gr.kept (by assumption) (by k_asm)) ⟨congrArg Value.bool hB2.symm, News.get (by k_asm) (by k_mem), News.get (by k_asm) (by k_mem)⟩
end

section
open PySem PySem.W PySem.Calls PySem.Spec PyProof.Rows
set_option Elab.async false
set_option maxRecDepth 100000
set_option linter.unusedSectionVars false
section
variable {prog : Program} {w : World} {A : Around} {E : Value → Shared → Prop} {s : Shared} {env : Env} {x : Str} {body : List Stmt} {Q : Flow → Shared → Prop} {it : Value}
noncomputable def CitEnd (Q : Flow → Shared → Prop) (P : Nat → Shared → Prop) (n : Nat) (f : Flow) (s : Shared) : Prop := match f with
  | .ret v => Q (.ret v) s
  | .brk => Q .next s
  | _ => ∃ n', n = n' + 1 ∧ P n' s
noncomputable def CitTurn (prog : Program) (w : World) (A : Around) (env : Env) (x : Str) (body : List Stmt) (Q : Flow → Shared → Prop) (E : Value → Shared → Prop) (P : Nat → Shared → Prop) (n : Nat) (r : Option Value) (s₁ : Shared) : Prop := match r with
  | none => Q .next s₁
  | some v => ∀ px, wpAny (model prog w) A (assign (.Name x px) env v) (fun _ s₂ => wpAny (model prog w) A (execs body env) (CitEnd Q P n) E s₂) E s₁
theorem cit_ind (P : Nat → Shared → Prop) (step : ∀ n s, P n s → wpAny (model prog w) A (pyNext it) (CitTurn prog w A env x body Q E P n) E s) (n : Nat) (h : P n s) : ∃ k, CitLoop prog w A env x body Q E it k s := by
  have key : ∀ n s, P n s → CitLoop prog w A env x body Q E it (n + 1) s := by
    intro n
    induction n with
    | zero =>
      intro s hp
      refine wpAny_mono (step 0 s hp) (fun r s₁ h₁ => ?_) fun _ _ e => e
      cases r with
      | none => exact h₁
      | some v => exact fun px => wpAny_mono (h₁ px) (fun _ s₂ h₂ => wpAny_mono h₂ (fun f s₃ h₃ => by
          cases f with
          | ret v => exact h₃
          | brk => exact h₃
          | next => obtain ⟨n', e, _⟩ := h₃; cases e
          | cont => obtain ⟨n', e, _⟩ := h₃; cases e) fun _ _ e => e) fun _ _ e => e
    | succ n ih =>
      intro s hp
      refine wpAny_mono (step (n + 1) s hp) (fun r s₁ h₁ => ?_) fun _ _ e => e
      cases r with
      | none => exact h₁
      | some v => exact fun px => wpAny_mono (h₁ px) (fun _ s₂ h₂ => wpAny_mono h₂ (fun f s₃ h₃ => by
          cases f with
          | ret v => exact h₃
          | brk => exact h₃
          | next => obtain ⟨n', e, h₃⟩ := h₃; cases e; exact ih _ h₃
          | cont => obtain ⟨n', e, h₃⟩ := h₃; cases e; exact ih _ h₃) fun _ _ e => e) fun _ _ e => e
  exact ⟨n + 1, key n s h⟩
/-- a turn that starts with an item: the name is stored -/
theorem turn_item {P : Nat → Shared → Prop} {n : Nat} {v : Value} {h₀ : Heap} {m : Str → Option Value} {news : Led} {h : Heap} {tk : Nat} (hx : env.kindOf x = some .local) (hp : (env.scope.kind == .class || (env.scope.kind == .module && env.locals != env.globals)) = false)
    (F : Fr h₀ env.locals h m) (N : News h₀ env.locals h news)
    (k : ∀ h' tk', Fr h₀ env.locals h' (fun y => if y = x then some v else m y) → News h₀ env.locals h' news → wpAny (model prog w) A (execs body env) (CitEnd Q P n) E { s with heap := h', toks := tk' }) :
    CitTurn prog w A env x body Q E P n (some v) { s with heap := h, toks := tk } := fun px => by
  refine wpAny_assign_Name (wpAny_storeName_local hx F.ns (fun h₂ hn₂ hs₂ => ?_) hp)
  exact k h₂ _ (F.set hn₂ hs₂) (N.set hs₂)
end
noncomputable def one (c : Nat) : Str := ⟨#[c]⟩
theorem one_ne (c : Nat) : one c ≠ Str.empty := by
  intro h
  have := congrArg (fun s : Str => s.cps.size) h
  simp [one, Str.empty] at this
theorem one_beq (c d : Nat) : (one c == one d) = (c == d) := by
  rw [Bool.eq_iff_iff]
  simp [one]
theorem signs_one (x : Str) : signs x = x.cps.toList.map one := rfl
theorem off_led {Z : Lx} (ok : Z.Ok) {o : Obj} {ln : Int} {tl : Tok} {ys : List Value} {k : Nat} : ∀ q ∈ ([(Z.pb, o)] : Led), ∀ r ∈ Z.led ln tl ys k, r.1 ≠ q.1 := by
  intro q hq r hr
  rw [List.mem_singleton.mp hq]
  exact Nat.ne_of_lt (led_lt ok ok.2.2.2.2.2.2.2 r hr)
end

section
open PySem PySem.W PySem.Calls PySem.Spec PyProof.Rows
set_option Elab.async false
set_option maxRecDepth 100000
set_option linter.unusedSectionVars false
noncomputable def toS (l : List Nat) : Str := ⟨l.toArray⟩
theorem toS_snoc (l : List Nat) (c : Nat) : toS l ++ one c = toS (l ++ [c]) := by
  show Str.mk (l.toArray ++ #[c]) = Str.mk (l ++ [c]).toArray
  simp
theorem toS_len (l : List Nat) : (toS l).length = l.length := rfl
/-- the state of a loop that gathers a token -/
noncomputable def TokP (h₀ : Heap) (L : Addr) (s : Shared) (m₀ : Str → Option Value) (G : Int → Tok → List Value → Nat → Led) (enc : Nat → List Nat) (cs tail : List Nat) (n : Nat) (s' : Shared) : Prop :=
  ∃ don cs' u tt ys k ln tl h tk, s' = { s with heap := h, toks := tk } ∧ Fr h₀ L h (fun y => if y = Str.ofString "token" then some (.str (toS don) tt) else if y = Str.ofString "ch" then u else m₀ y) ∧ News h₀ L h (G ln tl ys k) ∧
    StrsAre ys ((cs'.flatMap enc ++ tail).map one) ∧ don ++ cs' = cs ∧ n = cs'.length
theorem TokP.intro {h₀ : Heap} {L : Addr} {s : Shared} {m₀ m : Str → Option Value} {G : Int → Tok → List Value → Nat → Led} {enc : Nat → List Nat} {cs tail don cs' : List Nat} {n : Nat} {ys : List Value} {k : Nat} {ln : Int} {tl tt : Tok} {h : Heap} {tk : Nat} {u : Option Value}
    (F : Fr h₀ L h m) (hm : ∀ y, m y = if y = Str.ofString "token" then some (.str (toS don) tt) else if y = Str.ofString "ch" then u else m₀ y) (N : News h₀ L h (G ln tl ys k)) (hS : StrsAre ys ((cs'.flatMap enc ++ tail).map one)) (hc : don ++ cs' = cs) (hn : n = cs'.length) :
    TokP h₀ L s m₀ G enc cs tail n { s with heap := h, toks := tk } :=
  ⟨don, cs', u, tt, ys, k, ln, tl, h, tk, rfl, (funext hm : m = _) ▸ F, N, hS, hc, hn⟩
theorem tok_first {m₀ : Str → Option Value} {a : Option Value} (h : m₀ (Str.ofString "token") = a) : ∀ y, m₀ y = if y = Str.ofString "token" then a else if y = Str.ofString "ch" then m₀ (Str.ofString "ch") else m₀ y := fun y => by
  by_cases h1 : y = Str.ofString "token"
  · subst h1; rw [if_pos rfl, h]
  · rw [if_neg h1]
    by_cases h2 : y = Str.ofString "ch"
    · subst h2; rw [if_pos rfl]
    · rw [if_neg h2]
theorem tok_next {m₀ : Str → Option Value} {a v u d : Option Value} : ∀ y, (if y = Str.ofString "token" then a else if y = Str.ofString "ch" then v else if y = Str.ofString "token" then d else if y = Str.ofString "ch" then u else m₀ y) = if y = Str.ofString "token" then a else if y = Str.ofString "ch" then v else m₀ y := fun y => by
  by_cases h1 : y = Str.ofString "token" <;> by_cases h2 : y = Str.ofString "ch" <;> simp [h1, h2]
theorem tok_next2 {m₀ : Str → Option Value} {a v v' u d : Option Value} : ∀ y, (if y = Str.ofString "token" then a else if y = Str.ofString "ch" then v else if y = Str.ofString "ch" then v' else if y = Str.ofString "token" then d else if y = Str.ofString "ch" then u else m₀ y) = if y = Str.ofString "token" then a else if y = Str.ofString "ch" then v else m₀ y := fun y => by
  by_cases h1 : y = Str.ofString "token" <;> by_cases h2 : y = Str.ofString "ch" <;> simp [h1, h2]
section
variable {prog : Program} {w : World} {A : Around} {E : Value → Shared → Prop} {s : Shared} {env : Env} {body : List Stmt} {Q : Flow → Shared → Prop} {it : Value} {h₀ : Heap} {m₀ : Str → Option Value}
theorem cit_tok (G : Int → Tok → List Value → Nat → Led) (enc : Nat → List Nat) (cs tail don cs' : List Nat) {ys : List Value} {k : Nat} {ln : Int} {tl tt : Tok} (F : Fr h₀ env.locals s.heap m₀) (N : News h₀ env.locals s.heap (G ln tl ys k))
    (ht : m₀ (Str.ofString "token") = some (.str (toS don) tt)) (hS : StrsAre ys ((cs'.flatMap enc ++ tail).map one)) (hc : don ++ cs' = cs)
    (step : ∀ don cs' u tt ys k ln tl h tk, Fr h₀ env.locals h (fun y => if y = Str.ofString "token" then some (.str (toS don) tt) else if y = Str.ofString "ch" then u else m₀ y) → News h₀ env.locals h (G ln tl ys k) →
      StrsAre ys ((cs'.flatMap enc ++ tail).map one) → don ++ cs' = cs →
      wpAny (model prog w) A (pyNext it) (CitTurn prog w A env (Str.ofString "ch") body Q E (TokP h₀ env.locals s m₀ G enc cs tail) cs'.length) E { s with heap := h, toks := tk }) :
    ∃ n, CitLoop prog w A env (Str.ofString "ch") body Q E it n s := by
  refine cit_ind (TokP h₀ env.locals s m₀ G enc cs tail) (fun n s' hp => ?_) cs'.length (TokP.intro (s := s) (h := s.heap) (tk := s.toks) F (tok_first ht) N hS hc rfl)
  obtain ⟨don, cs', u, tt, ys, k, ln, tl, h, tk, rfl, F', N', hS', hc', rfl⟩ := hp
  exact step don cs' u tt ys k ln tl h tk F' N' hS' hc'
end
section
variable {w : World} {A₀ A : Around} {s : Shared} {base b h₀ : Heap} {outer : List Env} {env : Env} {pre : Led} {body : List Stmt} {m₀ : Str → Option Value}
  {p : Program} {loose : List Str} {mean : ExcName → Option Value} {mg mb : Str → Option Value} {Z : Lx} {ln : Int} {tl tt tS : Tok} {ys : List Value} {k : Nat} {Q : Flow → Shared → Prop} {E : Value → Shared → Prop} {it q : Addr}
noncomputable abbrev gLex (Z : Lx) (it q : Addr) (tS : Tok) (pre : Led) (ln : Int) (tl : Tok) (ys : List Value) (k : Nat) : Led := (it, citObj (.ref q) (.str Str.empty tS) false) :: (q, methodObj (.ref 35) (.ref Z.x)) :: pre ++ Z.led ln tl ys k
theorem cit_lex (enc : Nat → List Nat) (cs : List Nat) (e : Nat) (rest don cs' : List Nat) (R0 : Z.Rd w p loose mean mg mb) (ok : Z.Ok) (F : Fr h₀ env.locals s.heap m₀) (N : News h₀ env.locals s.heap (gLex Z it q tS pre ln tl ys k))
    (ht : m₀ (Str.ofString "token") = some (.str (toS don) tt)) (hS : StrsAre ys ((cs'.flatMap enc ++ e :: rest).map one)) (hc : don ++ cs' = cs) (hlen : (cs.flatMap enc ++ e :: rest).length ≤ 1000)
    (B : Below A₀ base outer h₀) (X : (hd.heap_1 w.params).In h₀) (T : Top p loose mean mg mb h₀)
    (hA : A.frames = some (env :: outer)) (hh : A.handled = none) (hf : env.frame = some env.locals) (hke : env.scope.kind = .function) (hd : A.depth ≤ 460) (hu : A.units + 1 ≤ 460) (hq : @LT.lt Nat _ q it) (hpre : ∀ r ∈ pre, @LT.lt Nat _ r.1 q) (hZ : @LT.lt Nat _ Z.x q) (off : ∀ (ln : Int) (tl : Tok) (ys : List Value) (k : Nat), ∀ q ∈ pre, ∀ r ∈ Z.led ln tl ys k, r.1 ≠ q.1)
    (hx : env.kindOf (Str.ofString "ch") = some .local) (hp : (env.scope.kind == .class || (env.scope.kind == .module && env.locals != env.globals)) = false)
    (item : ∀ don cs' u tt r k ln tl h tk t' c xs, cs'.flatMap enc ++ e :: rest = c :: xs → xs.length ≤ 1000 → StrsAre r (xs.map one) → don ++ cs' = cs →
      Fr h₀ env.locals h (fun y => if y = Str.ofString "ch" then some (.str (one c) t') else if y = Str.ofString "token" then some (.str (toS don) tt) else if y = Str.ofString "ch" then u else m₀ y) → News h₀ env.locals h (gLex Z it q tS pre ln tl r k) →
      wpAny (model PySem.Challenge.rw_wn0036_01.row.prog w) A (execs body env) (CitEnd Q (TokP h₀ env.locals s m₀ (gLex Z it q tS pre) enc cs (e :: rest)) cs'.length) E { s with heap := h, toks := tk }) :
    ∃ n, CitLoop PySem.Challenge.rw_wn0036_01.row.prog w A env (Str.ofString "ch") body Q E (.ref it) n s := by
  refine cit_tok (gLex Z it q tS pre) enc cs (e :: rest) don cs' F N ht hS hc fun don cs' u tt ys k ln tl h tk F' N' hS' hc' => ?_
  have hl' : (cs'.flatMap enc ++ e :: rest).length ≤ 1000 := by
    rw [← hc', List.flatMap_append, List.append_assoc, List.length_append] at hlen
    omega
  obtain ⟨c, xs, hcx⟩ : ∃ c xs, cs'.flatMap enc ++ e :: rest = c :: xs := by
    cases h : cs'.flatMap enc with
    | nil => exact ⟨e, rest, rfl⟩
    | cons a l => exact ⟨a, l ++ e :: rest, rfl⟩
  rw [hcx] at hS' hl'
  refine next_use (pre := pre) R0 ok hS' (by rw [List.length_map]; exact hl') B F' X T N' hA hh hf hke hd hu hq hpre hZ (off _ _ _ _) (fun r k' t' ln' tl' h' tk' c' hc1 hne hr F₂ N₂ => ?_) (fun r k' ln' tl' h' tk' he => absurd he (one_ne c))
  have e1 : c' = one c := (Option.some.inj hc1).symm
  subst e1
  refine turn_item hx hp F₂ N₂ fun h₃ tk₃ F₃ N₃ => ?_
  exact item don cs' u tt r k' ln' tl' h₃ tk₃ t' c xs hcx (by rw [List.length_cons] at hl'; omega) hr hc' F₃ N₃
theorem char_lex {L : Addr} {m : Str → Option Value} {xs : List Str} {Q : Value → Shared → Prop} (R0 : Z.Rd w p loose mean mg mb) (ok : Z.Ok) (hS : StrsAre ys xs) (hlen : xs.length ≤ 1000) (B : Below A₀ base outer h₀) (F : Fr h₀ L s.heap m) (X : (hd.heap_1 w.params).In h₀) (N : News h₀ L s.heap (gLex Z it q tS pre ln tl ys k)) (T : Top p loose mean mg mb h₀)
    (hA : A.frames = some (env :: outer)) (hh : A.handled = none) (hf : env.frame = some L) (hke : env.scope.kind = .function) (hd : A.depth ≤ 460) (hu : A.units ≤ 460) (hq : @LT.lt Nat _ q it) (hZ : @LT.lt Nat _ Z.x q) (off : ∀ (ln : Int) (tl : Tok) (ys : List Value) (k : Nat), ∀ q ∈ pre, ∀ r ∈ Z.led ln tl ys k, r.1 ≠ q.1)
    (h : ∀ r k' t ln' tl' h' tk', StrsAre r xs.tail → Fr h₀ L h' m → News h₀ L h' (gLex Z it q tS pre ln' tl' r k') → Q (.str (xs.headD Str.empty) t) { s with heap := h', toks := tk' }) :
    wpAny (model PySem.Challenge.rw_wn0036_01.row.prog w) A (call (.ref 35) [.ref Z.x]) Q E s := by
  refine char_use (pre := (it, citObj (.ref q) (.str Str.empty tS) false) :: (q, methodObj (.ref 35) (.ref Z.x)) :: pre) R0 ok hS hlen B F X N T hA hh hf hke hd hu ?_ h
  intro z hz r hr
  have := led_lt ok hZ r hr
  rcases List.mem_cons.mp hz with rfl | hz
  · exact Nat.ne_of_lt (Nat.lt_trans this hq)
  rcases List.mem_cons.mp hz with rfl | hz
  · exact Nat.ne_of_lt this
  · exact off _ _ _ _ z hz r hr
end
theorem ws_free {c : Nat} (h : c ≠ 10 ∧ c ≠ 9 ∧ c ≠ 13 ∧ c ≠ 32) : (Builtin.Str.occurrences (Str.ofString "\n\t\r ") (one c) 0 (Str.length (Str.ofString "\n\t\r ")) 1).isEmpty = true := by
  have e := StrLaws.found_one (Str.ofString "\n\t\r ") c
  have e2 : (Str.ofString "\n\t\r ").cps.toList = [10, 9, 13, 32] := by decide +kernel
  rw [e2] at e
  have : decide (c ∈ [10, 9, 13, 32]) = false := by simp; omega
  rw [this] at e
  simpa [one] using e
end

section
open PySem PySem.W PySem.Calls PyProof.Rows
local macro_rules | `(tactic| walk_at "call builtin:iter") => `(tactic| (k_here; (with_reducible show wpAny _ _ (call (Value.builtin "iter") [Value.ref _, Value.str _ _]) _ _ _); k_dflt (refine' iter_cit ?kF ?kN ?km ?_; (case kF => k_asm); (case kN => k_asm); (case km => k_mem); k_whole); intro D' h' F' N' l1; (try k_lt l1); (try k_sweep)))
local macro_rules | `(tactic| walk_at "exec For Name Name cons nil") => `(tactic| (k_here; k_dflt (refine For_cit ?_)))
section
open PySem PySem.W PySem.Calls PyProof.Rows
set_option Elab.async false
set_option maxRecDepth 100000
set_option maxHeartbeats 8000000
-- a step that does not enter a loop
theorem lexQ_spec (w p loose mean mg mb) (Z : Lx) (cs rest : List Nat) (ln : Int) (tl : Tok) (ys : List Value) (k n : Nat)
   (R0 : Z.Rd w p loose mean mg mb) (ok : Z.Ok) (hS : StrsAre ys ((34 :: (cs.flatMap encQ ++ 34 :: rest)).map one)) (hlen : (34 :: (cs.flatMap encQ ++ 34 :: rest)).length ≤ 1000) (hcs : cs.length ≤ 60) :
    Sp w p loose mean mg mb 450 42 [Value.ref Z.x] ((Z.pb, W.listOf #[] n) :: Z.led ln tl ys k)
      (fun _ v h' => ∃ r k' t ln' tl', StrsAre r (rest.map one) ∧ v = Value.str ⟨cs.toArray⟩ t ∧ h'.get? Z.pb = some (W.listOf #[] n) ∧ ∀ q ∈ Z.led ln' tl' r k', h'.get? q.1 = some q.2) := by
  k_with_none
  k_with "TB" => (repeat' (first | (k_unfold; (try dsimp only)) | (k_end; wrow_close) | ((fail_if_success (with_reducible show wpAny _ _ (pyIter _) _ _ _)); (fail_if_success (with_reducible show wpAny _ _ (call (Value.ref 35) _) _ _ _)); walk1) | (dsimp only; (fail_if_success (with_reducible show wpAny _ _ (pyIter _) _ _ _)); (fail_if_success (with_reducible show wpAny _ _ (call (Value.ref 35) _) _ _ _)); walk1) | (leave1; walk_say "STEP leave1"; try dsimp only) | fail "no step"))
  unfold Sp
  simp only [Lx.led]
  k_fill
  intro base b' outer s R st B X T N hret
  have ok' := ok
  obtain ⟨o1, o2, o3, o4, o5, o6, o7, o8⟩ := ok'
  ktr_unf
  clear st B X T N
  k_extra "TB"
  refine cit_iter (by k_asm) (by k_mem) ?_
  refine cit_ind (fun n s' => n = 0 ∧ s' = _) ?_ 0 ⟨rfl, rfl⟩
  rintro n0 s0 ⟨rfl, rfl⟩
  refine' next_use (pre := [(Z.pb, W.listOf #[] n)]) R0 ok hS (by rw [List.length_map]; exact hlen) (by k_asm) (by k_asm) (by k_asm) (by k_asm) ?kN rfl rfl rfl rfl (Nat.le_of_ble_eq_true rfl) (Nat.le_of_ble_eq_true rfl) ?hq ?kp ?hZ ?ko ?item ?done
  case kN =>
    rename News _ _ _ _ => NN
    exact NN
  case hq => omega
  case hZ => omega
  case kp => intro r hr; cases List.mem_singleton.mp hr; dsimp only; omega
  case ko => exact off_led ok
  case item =>
    intro r k' t' ln' tl' h' tk' c hc hne hr F' N'
    have hc' : c = Str.ofString "\"" := (Option.some.inj hc).symm
    subst hc'
    refine turn_item (by rfl) (by rfl) F' N' ?_
    clear F' N' h'
    intro h' tk2 F' N'
    dsimp only [Lx.led, List.cons_append, List.nil_append] at N'
    rw [List.map_cons, List.tail_cons] at hr
    k_extra "TB"
    · refine cit_iter (by k_asm) (by k_mem) ?_
      refine' cit_lex (pre := [(Z.pb, W.listOf #[] n)]) encQ cs 34 rest [] cs R0 ok (by k_asm) ?kN ?kt hr rfl ?kl (by k_asm) (by k_asm) (by k_asm) rfl rfl rfl rfl (Nat.le_of_ble_eq_true rfl) (Nat.le_of_ble_eq_true rfl) ?hq ?kp ?hZ ?ko (by rfl) (by rfl) ?item
      case kN => exact N'
      case kt => exact rfl
      case kl => rw [List.length_cons] at hlen; omega
      case hq => omega
      case hZ => omega
      case kp => intro r hr; cases List.mem_singleton.mp hr; dsimp only; omega
      case ko => intro _ _ _ _; exact off_led ok
      case item =>
        clear hr hS F' N' hc hne
        intro don cs' u tt r k ln tl h tk t' c xs hcx hxl hr hdc F' N'
        have hdl : (toS don).length ≤ 1000 := by
          have := congrArg List.length hdc
          rw [List.length_append] at this
          rw [toS_len]; omega
        have hol : (one c).length ≤ 1000 := (by decide : 1 ≤ 1000)
        cases cs' with
        | nil =>
          obtain ⟨rfl, rfl⟩ := List.cons.inj hcx
          rw [List.append_nil] at hdc
          subst hdc
          have e34 : one 34 = Str.ofString "\"" := rfl
          simp only [e34] at F'
          dsimp only [gLex, Lx.led, List.cons_append, List.nil_append] at N'
          k_extra "TB"
          show R (Except.ok (Flow.ret (Value.str (toS don) tt))) _
          exact hret _ _ _ (Gr.kept (by assumption) (by k_asm)) ⟨r, k, tt, ln, tl, hr, rfl, News.get N' (by k_mem), fun q hq => (N' q (List.mem_cons_of_mem _ (List.mem_cons_of_mem _ (List.mem_cons_of_mem _ hq)))).1⟩
        | cons c0 cs2 =>
          have hdc2 : don ++ [c0] ++ cs2 = cs := by rw [← hdc]; simp
          by_cases hesc : c0 = 92 ∨ c0 = 34
          · rw [List.flatMap_cons, show encQ c0 = [92, c0] from if_pos hesc] at hcx
            obtain ⟨rfl, hxs⟩ := List.cons.inj hcx
            have e92 : one 92 = Str.ofString "\\" := rfl
            simp only [e92] at F'
            dsimp only [gLex, Lx.led, List.cons_append, List.nil_append] at N'
            k_extra "TB"
            refine' char_lex (xs := xs.map one) (pre := [(Z.pb, W.listOf #[] n)]) R0 ok hr (by rw [List.length_map]; exact hxl) (by k_asm) (by k_asm) (by k_asm) ?kN (by k_asm) rfl rfl rfl rfl (Nat.le_of_ble_eq_true rfl) (Nat.le_of_ble_eq_true rfl) ?hq ?hZ ?ko ?nx
            case kN => exact N'
            case hq => omega
            case hZ => omega
            case ko => intro _ _ _ _; exact off_led ok
            case nx =>
              clear F' N' hr
              intro r k t ln tl h' tk' hr F' N'
              rw [← hxs] at hr
              have hh0 : (xs.map one).headD Str.empty = one c0 := by rw [← hxs]; rfl
              simp only [hh0]
              dsimp only [gLex, Lx.led, List.cons_append, List.nil_append] at N'
              have hol : (one c0).length ≤ 1000 := (by decide : 1 ≤ 1000)
              k_extra "TB"
              refine' ⟨cs2.length, rfl, TokP.intro (don := don ++ [c0]) (cs' := cs2) (by k_asm) ?hm (by rename News _ _ _ _ => NN; exact NN) hr hdc2 rfl⟩
              case hm =>
                rewrite [← toS_snoc]
                exact tok_next2
          · rw [List.flatMap_cons, show encQ c0 = [c0] from if_neg hesc] at hcx
            obtain ⟨rfl, hxs⟩ := List.cons.inj hcx
            have hb1 : (one c0 == Str.ofString "\"") = false := by
              show (one c0 == one 34) = false
              rw [one_beq]; simp; omega
            have hb2 : (one c0 == Str.ofString "\\") = false := by
              show (one c0 == one 92) = false
              rw [one_beq]; simp; omega
            dsimp only [gLex, Lx.led, List.cons_append, List.nil_append] at N'
            k_extra "TB"
            refine' ⟨cs2.length, rfl, TokP.intro (don := don ++ [c0]) (cs' := cs2) (by k_asm) ?hm (by rename News _ _ _ _ => NN; exact NN) (by subst hxs; exact hr) hdc2 rfl⟩
            case hm =>
              rewrite [← toS_snoc]
              exact tok_next
    · exact absurd (by assumption) (by decide +kernel)
  case done =>
    intro r k' ln' tl' h' tk' hc
    exact absurd hc (one_ne 34)
end

section
open PySem PySem.W PySem.Calls PyProof.Rows
set_option Elab.async false
set_option maxRecDepth 100000
set_option maxHeartbeats 8000000
-- a step that does not enter a loop
theorem lexB_spec (w p loose mean mg mb) (Z : Lx) (cs1 rest : List Nat) (ln : Int) (tl : Tok) (ys : List Value) (k n : Nat)
   (R0 : Z.Rd w p loose mean mg mb) (ok : Z.Ok) (hS : StrsAre ys (((50 :: cs1).flatMap encB ++ 10 :: rest).map one)) (hlen : ((50 :: cs1).flatMap encB ++ 10 :: rest).length ≤ 1000) (hcs : cs1.length ≤ 60) (hbl : ∀ c ∈ cs1, c ≠ 9 ∧ c ≠ 10 ∧ c ≠ 13) :
    Sp w p loose mean mg mb 450 42 [Value.ref Z.x] ((Z.pb, W.listOf #[] n) :: Z.led ln tl ys k)
      (fun _ v h' => ∃ r k' t ln' tl', StrsAre r (rest.map one) ∧ v = Value.str (toS (50 :: cs1)) t ∧ h'.get? Z.pb = some (W.listOf #[] n) ∧ ∀ q ∈ Z.led ln' tl' r k', h'.get? q.1 = some q.2) := by
  k_with_none
  k_with "TB" => (repeat' (first | (k_unfold; (try dsimp only)) | (k_end; wrow_close) | ((fail_if_success (with_reducible show wpAny _ _ (pyIter _) _ _ _)); (fail_if_success (with_reducible show wpAny _ _ (call (Value.ref 35) _) _ _ _)); walk1) | (dsimp only; (fail_if_success (with_reducible show wpAny _ _ (pyIter _) _ _ _)); (fail_if_success (with_reducible show wpAny _ _ (call (Value.ref 35) _) _ _ _)); walk1) | (leave1; walk_say "STEP leave1"; try dsimp only) | fail "no step"))
  unfold Sp
  simp only [Lx.led]
  k_fill
  intro base b' outer s R st B X T N hret
  have ok' := ok
  obtain ⟨o1, o2, o3, o4, o5, o6, o7, o8⟩ := ok'
  ktr_unf
  clear st B X T N
  k_extra "TB"
  refine cit_iter (by k_asm) (by k_mem) ?_
  refine cit_ind (fun n s' => n = 0 ∧ s' = _) ?_ 0 ⟨rfl, rfl⟩
  rintro n0 s0 ⟨rfl, rfl⟩
  refine' next_use (pre := [(Z.pb, W.listOf #[] n)]) R0 ok hS (by rw [List.length_map]; exact hlen) (by k_asm) (by k_asm) (by k_asm) (by k_asm) ?kN rfl rfl rfl rfl (Nat.le_of_ble_eq_true rfl) (Nat.le_of_ble_eq_true rfl) ?hq ?kp ?hZ ?ko ?item ?done
  case kN =>
    rename News _ _ _ _ => NN
    exact NN
  case hq => omega
  case hZ => omega
  case kp => intro r hr; cases List.mem_singleton.mp hr; dsimp only; omega
  case ko => exact off_led ok
  case item =>
    intro r k' t' ln' tl' h' tk' c hc hne hr F' N'
    have hc' : c = Str.ofString "2" := (Option.some.inj hc).symm
    subst hc'
    refine turn_item (by rfl) (by rfl) F' N' ?_
    clear F' N' h'
    intro h' tk2 F' N'
    dsimp only [Lx.led, List.cons_append, List.nil_append] at N'
    have hr0 : StrsAre r ((cs1.flatMap encB ++ 10 :: rest).map one) := hr
    k_extra "TB"
    · refine cit_iter (by k_asm) (by k_mem) ?_
      refine' cit_lex (pre := [(Z.pb, W.listOf #[] n)]) encB (50 :: cs1) 10 rest [50] cs1 R0 ok (by k_asm) ?kN ?kt hr0 rfl ?kl (by k_asm) (by k_asm) (by k_asm) rfl rfl rfl rfl (Nat.le_of_ble_eq_true rfl) (Nat.le_of_ble_eq_true rfl) ?hq ?kp ?hZ ?ko (by rfl) (by rfl) ?item
      case kN => rename News _ _ _ _ => NN; exact NN
      case kt => exact rfl
      case kl => exact hlen
      case hq => omega
      case hZ => omega
      case kp => intro r hr; cases List.mem_singleton.mp hr; dsimp only; omega
      case ko => intro _ _ _ _; exact off_led ok
      case item =>
        clear hr hr0 hS F' N' hc hne
        intro don cs' u tt r k ln tl h tk t' c xs hcx hxl hr hdc F' N'
        have hdl : (toS don).length ≤ 1000 := by
          have := congrArg List.length hdc
          rw [List.length_append] at this
          rw [List.length_cons] at this; rw [toS_len]; omega
        have hol : (one c).length ≤ 1000 := (by decide : 1 ≤ 1000)
        cases cs' with
        | nil =>
          obtain ⟨rfl, rfl⟩ := List.cons.inj hcx
          rw [List.append_nil] at hdc
          have e34 : one 10 = Str.ofString "\n" := rfl
          simp only [e34] at F'
          dsimp only [gLex, Lx.led, List.cons_append, List.nil_append] at N'
          k_extra "TB"
          · rename (List.isEmpty _ = true) => hx; exact absurd hx (by decide +kernel)
          show R (Except.ok (Flow.ret (Value.str (toS don) tt))) _
          exact hret _ _ _ (Gr.kept (by assumption) (by k_asm)) ⟨r, k, tt, ln, tl, hr, by rw [hdc], News.get N' (by k_mem), fun q hq => (N' q (List.mem_cons_of_mem _ (List.mem_cons_of_mem _ (List.mem_cons_of_mem _ hq)))).1⟩
        | cons c0 cs2 =>
          have hdc2 : don ++ [c0] ++ cs2 = 50 :: cs1 := by rw [← hdc]; simp
          by_cases hesc : c0 = 92 ∨ c0 = 34 ∨ c0 = 32
          · rw [List.flatMap_cons, show encB c0 = [92, c0] from if_pos hesc] at hcx
            obtain ⟨rfl, hxs⟩ := List.cons.inj hcx
            have e92 : one 92 = Str.ofString "\\" := rfl
            simp only [e92] at F'
            dsimp only [gLex, Lx.led, List.cons_append, List.nil_append] at N'
            k_extra "TB"
            rotate_left
            · exact absurd (by assumption) (by decide +kernel)
            refine' char_lex (xs := xs.map one) (pre := [(Z.pb, W.listOf #[] n)]) R0 ok hr (by rw [List.length_map]; exact hxl) (by k_asm) (by k_asm) (by k_asm) ?kN (by k_asm) rfl rfl rfl rfl (Nat.le_of_ble_eq_true rfl) (Nat.le_of_ble_eq_true rfl) ?hq ?hZ ?ko ?nx
            case kN => rename News _ _ _ _ => NN; exact NN
            case hq => omega
            case hZ => omega
            case ko => intro _ _ _ _; exact off_led ok
            case nx =>
              clear F' N' hr
              intro r k t ln tl h' tk' hr F' N'
              rw [← hxs] at hr
              have hh0 : (xs.map one).headD Str.empty = one c0 := by rw [← hxs]; rfl
              simp only [hh0]
              dsimp only [gLex, Lx.led, List.cons_append, List.nil_append] at N'
              have hol : (one c0).length ≤ 1000 := (by decide : 1 ≤ 1000)
              k_extra "TB"
              refine' ⟨cs2.length, rfl, TokP.intro (don := don ++ [c0]) (cs' := cs2) (by k_asm) ?hm (by rename News _ _ _ _ => NN; exact NN) hr hdc2 rfl⟩
              case hm =>
                rewrite [← toS_snoc]
                exact tok_next2
          · rw [List.flatMap_cons, show encB c0 = [c0] from if_neg hesc] at hcx
            obtain ⟨rfl, hxs⟩ := List.cons.inj hcx
            have hm0 : c0 ∈ 50 :: cs1 := by rw [← hdc]; simp
            have hb0 := hbl c0
            have hb1 := ws_free (c := c0) (by
              rcases List.mem_cons.mp hm0 with h | h
              · omega
              · have := hbl c0 h; omega)
            have hb2 : (one c0 == Str.ofString "\\") = false := by
              show (one c0 == one 92) = false
              rw [one_beq]; simp; omega
            dsimp only [gLex, Lx.led, List.cons_append, List.nil_append] at N'
            k_extra "TB"
            refine' ⟨cs2.length, rfl, TokP.intro (don := don ++ [c0]) (cs' := cs2) (by k_asm) ?hm (by rename News _ _ _ _ => NN; exact NN) (by subst hxs; exact hr) hdc2 rfl⟩
            case hm =>
              rewrite [← toS_snoc]
              exact tok_next
    · exact absurd (by assumption) (by decide +kernel)
  case done =>
    intro r k' ln' tl' h' tk' hc
    exact absurd hc (one_ne 50)
end

section
open PySem PySem.W PySem.Calls PyProof.Rows
set_option Elab.async false
set_option maxRecDepth 100000
set_option maxHeartbeats 8000000
-- a step that does not enter a loop
theorem lexE_spec (w p loose mean mg mb) (Z : Lx) (ln : Int) (tl : Tok) (ys : List Value) (k n : Nat)
   (R0 : Z.Rd w p loose mean mg mb) (ok : Z.Ok) (hS : StrsAre ys []) :
    Sp w p loose mean mg mb 450 42 [Value.ref Z.x] ((Z.pb, W.listOf #[] n) :: Z.led ln tl ys k)
      (fun _ v h' => ∃ r k' t ln' tl', StrsAre r [] ∧ v = Value.str Str.empty t ∧ h'.get? Z.pb = some (W.listOf #[] n) ∧ ∀ q ∈ Z.led ln' tl' r k', h'.get? q.1 = some q.2) := by
  k_with_none
  k_with "TB" => (repeat' (first | (k_unfold; (try dsimp only)) | (k_end; wrow_close) | ((fail_if_success (with_reducible show wpAny _ _ (pyIter _) _ _ _)); (fail_if_success (with_reducible show wpAny _ _ (call (Value.ref 35) _) _ _ _)); walk1) | (dsimp only; (fail_if_success (with_reducible show wpAny _ _ (pyIter _) _ _ _)); (fail_if_success (with_reducible show wpAny _ _ (call (Value.ref 35) _) _ _ _)); walk1) | (leave1; walk_say "STEP leave1"; try dsimp only) | fail "no step"))
  unfold Sp
  simp only [Lx.led]
  k_fill
  intro base b' outer s R st B X T N hret
  have ok' := ok
  obtain ⟨o1, o2, o3, o4, o5, o6, o7, o8⟩ := ok'
  ktr_unf
  clear st B X T N
  k_extra "TB"
  refine cit_iter (by k_asm) (by k_mem) ?_
  refine cit_ind (fun n s' => n = 0 ∧ s' = _) ?_ 0 ⟨rfl, rfl⟩
  rintro n0 s0 ⟨rfl, rfl⟩
  refine' next_use (pre := [(Z.pb, W.listOf #[] n)]) R0 ok hS (by decide) (by k_asm) (by k_asm) (by k_asm) (by k_asm) ?kN rfl rfl rfl rfl (Nat.le_of_ble_eq_true rfl) (Nat.le_of_ble_eq_true rfl) ?hq ?kp ?hZ ?ko ?item ?done
  case kN =>
    rename News _ _ _ _ => NN
    exact NN
  case hq => omega
  case hZ => omega
  case kp => intro r hr; cases List.mem_singleton.mp hr; dsimp only; omega
  case ko => exact off_led ok
  case item =>
    intro r k' t' ln' tl' h' tk' c hc
    cases hc
  case done =>
    intro r k ln tl h' tk' hc hr F' N'
    dsimp only [Lx.led, List.cons_append, List.nil_append] at N'
    unfold CitTurn
    dsimp only
    k_extra "TB"
    refine hret _ _ _ (Gr.kept (by assumption) (by k_asm)) ⟨r, k, _, ln, tl, hr, rfl, News.get N' (by k_mem), fun q hq => (N' q (List.mem_cons_of_mem _ hq)).1⟩
end

end
section
open PySem PySem.W PySem.Calls PySem.Spec PyProof.Rows
set_option Elab.async false
set_option maxRecDepth 100000
set_option linter.unusedSectionVars false
section
variable {prog : Program} {w : World} {s : Shared} {base b : Heap} {outer : List Env} {K : Frag} {d : Nat} {sub : Led}
  {p : Program} {loose : List Str} {mean : ExcName → Option Value} {mg mb : Str → Option Value} {R : Result → Shared → Prop}
  {name qual : Str} {params : Arguments} {body : PySem.Expr} {scope : Scope} {cl : List (Str × Addr)} {pm ctv : Value} {c' f : Addr} {args : Args} {binds : List (Str × Value)}
theorem enter_lam (st : b.StaysIn s.heap) (B : Below (ar d outer) base outer b) (X : K.In b) (T : Top p loose mean mg mb b) (N : ∀ q ∈ sub, s.heap.get? q.1 = some q.2 ∧ b.get? q.1 = none)
    (ho : (f, kla_obj name qual params body scope cl pm c' ctv) ∈ sub) (hcd : s.heap.CodeRec (.ref c') qual) (hroom : d < recursionLimit)
    (hbind : bindArgs (kla_fn name qual params body scope cl pm (.ref c') ctv) args = pure binds) (hloc : ∀ y ∈ binds, scope.names.lookup y.1 = some .local)
    (h : ∀ g L' h₁, Gr sub s.heap g → Fr g L' h₁ (fun y => binds.reverse.lookup y) → News g L' h₁ sub → Below (ar d outer) base outer g → K.In g → Top p loose mean mg mb g → (∀ q ∈ sub, q.1 < L') →
      wpAny (model prog w) ((ar d outer).deeper (envX qual scope L' f (.ref c') cl)) (eval body (envX qual scope L' f (.ref c') cl))
        (fun v s' => R (.ok (.ret v)) s')
        (fun e s' => wpAny (model prog w) ((ar d outer).deeper (envX qual scope L' f (.ref c') cl)) (leaving (envX qual scope L' f (.ref c') cl) e) (fun _ s'' => R (.error e) s'') (fun e' s'' => R (.error e') s'') s')
        { s with heap := h₁, toks := s.toks + binds.length })
    (hco : scope.isCoroutine = false := by rfl) (hgen : scope.isGenerator = false := by rfl) (hk : scope.kind = .function := by rfl)
    (hcell : ∀ x ∈ scope.names, x.2 ≠ .cell := by decide) : codeAny (model prog w) (ar d outer) (.call (.ref f) args) R s := by
  obtain ⟨g, rfl, G, BG, XG, TG⟩ := ground st B X T N
  refine kla_callFunE hroom (N _ ho).1 rfl hco hgen rfl hcd ?_
  rw [hbind]
  refine wpAny_pure (wpAny_newFunctionEnv hcell hloc (fun h₁ hns hsb => ⟨T.nolimit.keeps (fun b o e => st b o e) |>.fresh _ hsb, ?_⟩) hk)
  show codeAny _ _ (.expr body (envX qual scope s.heap.objs.size f (.ref c') cl)) _ _
  have hk₁ : ∀ b o, s.heap.get? b = some o → h₁.get? b = some o := fun b o e => hsb.extBut b o (Nat.ne_of_lt (Heap.lt_size e)) (Heap.get?_push_of_some _ e)
  exact kla_codeExpr (h _ s.heap.objs.size h₁ G ⟨hns, fun b o e => hk₁ b o (G.back b o e), Nat.le_of_eq (hideAll_size _ _)⟩
    (fun q hq => ⟨hk₁ _ _ (N q hq).1, Nat.ne_of_lt (Heap.lt_size (N q hq).1), G.hid q hq⟩) BG XG TG (fun q hq => Heap.lt_size (N q hq).1))
end
theorem with_reader {w : World} {p : Program} {loose : List Str} {mean : ExcName → Option Value} {mg mb : Str → Option Value} {f fc cl : Addr} {name qual : Str} {params : Arguments} {body : PySem.Expr} {scope : Scope} {nm : Str} {pm ctv : Value} {co lo : Obj} {news : Led} {goal : Prop} {h₀ h : Heap} {L : Addr} (_N : News h₀ L h news)
    (_m1 : (f, kla_obj name qual params body scope [(nm, cl)] pm fc ctv) ∈ news) (_m2 : (fc, co) ∈ news) (_m3 : (cl, lo) ∈ news)
    (RD : ∀ D, lo.data = .cell (some (.ref D)) → Reader w p loose mean mg mb f fc cl D (kla_obj name qual params body scope [(nm, cl)] pm fc ctv) co lo)
    (k : (∀ D, lo.data = .cell (some (.ref D)) → Reader w p loose mean mg mb f fc cl D (kla_obj name qual params body scope [(nm, cl)] pm fc ctv) co lo) → goal) : goal := k RD
end

section
open PySem PySem.W PySem.Calls PySem.Spec PyProof.Rows PySem.SeqAt
set_option Elab.async false
set_option maxRecDepth 100000
set_option linter.unusedSectionVars false
section
variable {prog : Program} {w : World} {A : Around} {E : Value → Shared → Prop} {s : Shared} {h₀ : Heap} {L a b : Addr} {m : Str → Option Value} {news : Led} {Q : Value → Shared → Prop}
theorem ne_cons_nil {v : Value} {vs : List Value} {n k : Nat} (N : News h₀ L s.heap news) (ha : (a, W.listOf (v :: vs).toArray n) ∈ news) (hb : (b, W.listOf ([] : List Value).toArray k) ∈ news) (hu : A.units + 64 < cLine) (h : Q (.bool true) s) :
    wpAny (model prog w) A (compareOp .NotEq (.ref a) (.ref b)) Q E s :=
  RcNeAt.lists_lengths (is_list N ha) (is_list N hb) (by simp) (by omega) prog w E Q h
theorem ne_nil_nil {n k : Nat} (N : News h₀ L s.heap news) (ha : (a, W.listOf ([] : List Value).toArray n) ∈ news) (hb : (b, W.listOf ([] : List Value).toArray k) ∈ news) (hu : A.units + 64 < cLine) (h : Q (.bool false) s) :
    wpAny (model prog w) A (compareOp .NotEq (.ref a) (.ref b)) Q E s :=
  RcNeAt.lists (e := fun _ => true) (is_list N ha) (is_list N hb) rfl (by omega) (fun j j1 _ => absurd j1 (by simp)) prog w E Q h
theorem depth_strs : ∀ rs : List Str, PyData.depthAll (rs.map PyData.str) = 0
  | [] => rfl
  | _ :: r => by simp [PyData.depthAll, PyData.depth, depth_strs r]
theorem eqv_strs : ∀ xs ys : List Str, PyData.eqvAll (xs.map PyData.str) (ys.map PyData.str) = decide (xs = ys)
  | [], [] => by simp [PyData.eqvAll]
  | [], _ :: _ => by simp [PyData.eqvAll]
  | _ :: _, [] => by simp [PyData.eqvAll]
  | a :: r, b :: t => by
    simp only [List.map_cons, PyData.eqvAll, PyData.eqv, eqv_strs r t]
    by_cases h : a = b <;> by_cases h' : r = t <;> simp [h, h']
theorem strs_carry : ∀ {vs : List Value} {xs : List Str}, StrsAre vs xs → CarriedAll vs (xs.map PyData.str)
  | _, _, .nil => .nil
  | _, _, .cons _ t r => .cons (.str _ t) (strs_carry r)
theorem shaped_strs {rs : List Str} (h : ∀ r ∈ rs, PyData.strOk r = true) : shaped (.list (rs.map PyData.str)) = true := by
  unfold shaped
  rw [Bool.and_eq_true_iff]
  refine ⟨?_, ?_⟩
  · show PyData.canLayAll0 (rs.map PyData.str) = true
    rw [canLayAll_strs', List.all_eq_true]; exact h
  · simp [PyData.depth, depth_strs]
theorem ne_strs {xs ys : List Value} {rs ts : List Str} (ha : s.heap.IsList a xs.toArray) (hb : s.heap.IsList b ys.toArray) (hi : StrsAre xs rs) (hj : StrsAre ys ts) (o1 : ∀ r ∈ rs, PyData.strOk r = true) (o2 : ∀ r ∈ ts, PyData.strOk r = true) (hu : A.units + 64 < cLine) (h : Q (.bool (!decide (rs = ts))) s) :
    wpAny (model prog w) A (compareOp .NotEq (.ref a) (.ref b)) Q E s :=
  ne_dataH (reads_newData ha (strs_carry hi)) (reads_newData hb (strs_carry hj)) (shaped_strs o1) (shaped_strs o2) hu (by
    show Q (.bool (!PyData.eqvAll _ _)) s
    rw [eqv_strs]; exact h)
end
end

section
open PySem PySem.W PySem.Calls PySem.Spec PyProof.Rows
set_option Elab.async false
set_option maxRecDepth 100000
set_option linter.unusedSectionVars false
/-- a reply, plainly -/
noncomputable def Rep (r : Str) : Prop := ∃ m k, m ∈ marks ∧ 0 ≤ k ∧ k < 10 ^ 10 ∧ r.cps.toList = [50, 50, 57, 32, 40] ++ (bodyOf m k ++ 41 :: [])
theorem Rep.len {r : Str} (h : Rep r) : r.cps.toList.length ≤ 21 := by
  obtain ⟨m, k, hm, h0, h1, e⟩ := h
  have := reply_len e
  have := digits_len h0 h1
  rw [len_list] at *
  omega
theorem Rep.code {r : Str} (h : Rep r) : ∀ c ∈ r.cps.toList, 32 ≤ c ∧ c ≤ 124 := by
  obtain ⟨m, k, hm, h0, h1, e⟩ := h
  intro c hc
  rw [e] at hc
  unfold bodyOf at hc
  simp only [List.mem_append, List.mem_cons, List.not_mem_nil, or_false] at hc
  have hmm := mark_cases hm
  have hdd := digits_range h0 c
  by_cases hcd : c ∈ digitsOf k
  · have := hdd hcd; omega
  · simp only [hcd, false_or] at hc
    omega
theorem Rep.head {r : Str} (h : Rep r) : ∃ cs1, r.cps.toList = 50 :: cs1 := by
  obtain ⟨m, k, hm, h0, h1, e⟩ := h
  exact ⟨_, e⟩
theorem Rep.ok {r : Str} (h : Rep r) : PyData.strOk r = true := by
  unfold PyData.strOk
  rw [← Array.all_toList, List.all_eq_true]
  intro c hc
  have := h.code c hc
  simp only [decide_eq_true_eq]; omega
theorem Rep.ne {r : Str} (h : Rep r) : r ≠ Str.empty := by
  obtain ⟨cs1, e⟩ := h.head
  intro h2
  subst h2
  cases e
theorem written_ne {r : Str} {b : Int} (hb : b ≠ 0) : (writtenF r b).cps.toList = r.cps.toList.flatMap encB ++ [10] := by
  rw [← written1]
  unfold writtenF
  rw [if_neg hb, if_neg (by decide)]
theorem enc_len2 (f : Nat → List Nat) (hf : ∀ c, (f c).length ≤ 2) : ∀ l : List Nat, (l.flatMap f).length ≤ 2 * l.length
  | [] => Nat.le_refl _
  | k :: r => by
    have ih := enc_len2 f hf r
    have := hf k
    rw [List.flatMap_cons, List.length_append, List.length_cons]
    omega
theorem encQ_len (c : Nat) : (encQ c).length ≤ 2 := by unfold encQ; split <;> simp
theorem encB_len (c : Nat) : (encB c).length ≤ 2 := by unfold encB; split <;> simp
theorem Rep.written_len {r : Str} (h : Rep r) (b : Int) : (writtenF r b).cps.toList.length ≤ 44 := by
  have := h.len
  by_cases hb : b = 0
  · subst hb
    rw [written0]
    have := enc_len2 encQ encQ_len r.cps.toList
    simp only [List.length_cons, List.length_append, List.length_nil]; omega
  · rw [written_ne hb]
    have := enc_len2 encB encB_len r.cps.toList
    simp only [List.length_cons, List.length_append, List.length_nil]; omega
noncomputable def TokSpec (w : World) (p : Program) (loose : List Str) (mean : ExcName → Option Value) (mg mb : Str → Option Value) (Z : Lx) (ln : Int) (tl : Tok) (ys : List Value) (k n : Nat) (v : Str) (rest : List Nat) : Prop :=
  Sp w p loose mean mg mb 450 42 [Value.ref Z.x] ((Z.pb, W.listOf #[] n) :: Z.led ln tl ys k)
    (fun _ v' h' => ∃ r k' t ln' tl', StrsAre r (rest.map one) ∧ v' = Value.str v t ∧ h'.get? Z.pb = some (W.listOf #[] n) ∧ ∀ q ∈ Z.led ln' tl' r k', h'.get? q.1 = some q.2)
section
variable {w : World} {p : Program} {loose : List Str} {mean : ExcName → Option Value} {mg mb : Str → Option Value} {Z : Lx} {ln : Int} {tl : Tok} {ys : List Value} {k n : Nat}
theorem tok_reply {r : Str} {b : Int} {rest : List Nat} (hr : Rep r) (R0 : Z.Rd w p loose mean mg mb) (ok : Z.Ok) (hS : StrsAre ys (((writtenF r b).cps.toList ++ rest).map one)) (hlen : ((writtenF r b).cps.toList ++ rest).length ≤ 1000) :
    TokSpec w p loose mean mg mb Z ln tl ys k n r rest := by
  have h1 := hr.len
  by_cases hb : b = 0
  · subst hb
    have e : (writtenF r 0).cps.toList ++ rest = 34 :: (r.cps.toList.flatMap encQ ++ 34 :: rest) := by rw [written0]; simp
    rw [e] at hS hlen
    have := lexQ_spec w p loose mean mg mb Z r.cps.toList rest ln tl ys k n R0 ok hS hlen (by omega)
    simpa only [TokSpec, Array.toArray_toList] using this
  · obtain ⟨cs1, e1⟩ := hr.head
    have e : (writtenF r b).cps.toList ++ rest = (50 :: cs1).flatMap encB ++ 10 :: rest := by rw [written_ne hb, e1]; simp
    rw [e] at hS hlen
    have e2 : toS (50 :: cs1) = r := by rw [← e1]; exact str_ext rfl
    have := lexB_spec w p loose mean mg mb Z cs1 rest ln tl ys k n R0 ok hS hlen (by rw [e1] at h1; rw [List.length_cons] at h1; omega) (fun c hc => by
      have := hr.code c (by rw [e1]; exact List.mem_cons_of_mem _ hc)
      omega)
    rw [e2] at this
    exact this
theorem tok_end (R0 : Z.Rd w p loose mean mg mb) (ok : Z.Ok) (hS : StrsAre ys []) : TokSpec w p loose mean mg mb Z ln tl ys k n Str.empty [] :=
  lexE_spec w p loose mean mg mb Z ln tl ys k n R0 ok hS
/-- what is left of the text ahead of the i-th token -/
noncomputable def remF (ps : List (Str × Int)) (i : Nat) : List Nat := (ps.drop i).flatMap fun q => (writtenF q.1 q.2).cps.toList
theorem remF_succ {ps : List (Str × Int)} {i : Nat} {q : Str × Int} (h : ps[i]? = some q) : remF ps i = (writtenF q.1 q.2).cps.toList ++ remF ps (i + 1) := by
  unfold remF
  obtain ⟨hl, he⟩ := List.getElem?_eq_some_iff.mp h
  rw [List.drop_eq_getElem_cons hl, he, List.flatMap_cons]
theorem remF_end {ps : List (Str × Int)} {i : Nat} (h : ps.length ≤ i) : remF ps i = [] := by
  unfold remF
  rw [List.drop_eq_nil_of_le h]; rfl
theorem remF_len {ps : List (Str × Int)} (h : ∀ q ∈ ps, Rep q.1) (hl : ps.length ≤ 6) (i : Nat) : (remF ps i).length ≤ 1000 := by
  have key : ∀ l : List (Str × Int), (∀ q ∈ l, Rep q.1) → (l.flatMap fun q => (writtenF q.1 q.2).cps.toList).length ≤ 44 * l.length := by
    intro l
    induction l with
    | nil => intro _; exact Nat.le_refl _
    | cons q r ih =>
      intro h
      have h1 := ih fun q hq => h q (List.mem_cons_of_mem _ hq)
      have h2 := (h q List.mem_cons_self).written_len q.2
      rw [List.flatMap_cons, List.length_append, List.length_cons]
      omega
  have := key (ps.drop i) fun q hq => h q (List.mem_of_mem_drop hq)
  rw [List.length_drop] at this
  unfold remF
  omega
theorem tok_at {ps : List (Str × Int)} (h : ∀ q ∈ ps, Rep q.1) (hl : ps.length ≤ 6) {i : Nat} (hi : i ≤ ps.length) (R0 : Z.Rd w p loose mean mg mb) (ok : Z.Ok) (hS : StrsAre ys ((remF ps i).map one)) :
    TokSpec w p loose mean mg mb Z ln tl ys k n ((ps.map (·.1) ++ [Str.empty]).getD i Str.empty) (remF ps (i + 1)) := by
  by_cases hlt : i < ps.length
  · have e := List.getElem?_eq_getElem hlt
    have hr := remF_len h hl i
    rw [remF_succ e] at hS hr
    have e2 : (ps.map (·.1) ++ [Str.empty]).getD i Str.empty = ps[i].1 := by
      rw [List.getD_eq_getElem?_getD, List.getElem?_append_left (by rw [List.length_map]; exact hlt)]
      simp [hlt]
    rw [e2]
    exact tok_reply (h _ (List.getElem_mem hlt)) R0 ok hS hr
  · have hi' : i = ps.length := by omega
    subst hi'
    rw [remF_end (Nat.le_refl _)] at hS
    rw [remF_end (Nat.le_succ _)]
    have e2 : (ps.map (·.1) ++ [Str.empty]).getD ps.length Str.empty = Str.empty := by
      rw [List.getD_eq_getElem?_getD, List.getElem?_append_right (by rw [List.length_map]; exact Nat.le_refl _)]
      simp
    rw [e2]
    exact tok_end R0 ok hS
end
section
variable {w : World} {A₀ A : Around} {s : Shared} {base b h₀ : Heap} {outer : List Env} {L : Addr} {m : Str → Option Value} {env : Env} {pre : Led}
  {p : Program} {loose : List Str} {mean : ExcName → Option Value} {mg mb : Str → Option Value} {Z : Lx} {ln : Int} {tl : Tok} {ys : List Value} {k n : Nat} {Q : Value → Shared → Prop} {E : Value → Shared → Prop}
theorem tok_use {v : Str} {rest : List Nat} (S : TokSpec w p loose mean mg mb Z ln tl ys k n v rest) (B : Below A₀ base outer h₀) (F : Fr h₀ L s.heap m) (X : (hd.heap_1 w.params).In h₀) (N : News h₀ L s.heap (pre ++ (Z.pb, W.listOf #[] n) :: Z.led ln tl ys k)) (T : Top p loose mean mg mb h₀)
    (hA : A.frames = some (env :: outer)) (hh : A.handled = none) (hf : env.frame = some L) (hke : env.scope.kind = .function) (hd : A.depth ≤ 450) (hu : A.units ≤ 450) (off : ∀ q ∈ pre, ∀ r ∈ (Z.pb, W.listOf #[] n) :: Z.led ln tl ys k, r.1 ≠ q.1)
    (h : ∀ r k' t ln' tl' h' tk', StrsAre r (rest.map one) → Fr h₀ L h' m → News h₀ L h' (pre ++ (Z.pb, W.listOf #[] n) :: Z.led ln' tl' r k') → Q (.str v t) { s with heap := h', toks := tk' }) :
    wpAny (model PySem.Challenge.rw_wn0036_01.row.prog w) A (call (.ref 42) [.ref Z.x]) Q E s := by
  have S' := S
  unfold TokSpec at S'
  refine use_spec S' B F X N T hA hh hf hke hd hu (fun q hq => List.mem_append_right _ hq) fun v h' tk' F' hk hp => ?_
  obtain ⟨r, k', t, ln', tl', hr, rfl, e0, e1⟩ := hp
  refine h r k' t ln' tl' h' tk' hr F' fun q hq => ?_
  rcases List.mem_append.mp hq with hq | hq
  · have z := N q (List.mem_append_left _ hq)
    exact ⟨hk _ _ z.1 fun r hr => off q hq r hr, z.2⟩
  · have old : ∀ o, (q.1, o) ∈ (Z.pb, W.listOf #[] n) :: Z.led ln tl ys k → q.1 ≠ L ∧ h₀.get? q.1 = none := fun o ho => (N _ (List.mem_append_right _ ho)).2
    rcases List.mem_cons.mp hq with rfl | hq
    · exact ⟨e0, old _ (.head _)⟩
    refine ⟨e1 q hq, ?_⟩
    simp only [List.mem_cons, List.not_mem_nil, or_false] at hq
    rcases hq with rfl | rfl | rfl | rfl | rfl | rfl | rfl | rfl
    · exact old _ (.tail _ (.head _))
    · exact old _ (.tail _ (.tail _ (.head _)))
    · exact old _ (.tail _ (.tail _ (.tail _ (.head _))))
    · exact old _ (.tail _ (.tail _ (.tail _ (.tail _ (.head _)))))
    · exact old _ (.tail _ (.tail _ (.tail _ (.tail _ (.tail _ (.head _))))))
    · exact old _ (.tail _ (.tail _ (.tail _ (.tail _ (.tail _ (.tail _ (.head _)))))))
    · exact old _ (.tail _ (.tail _ (.tail _ (.tail _ (.tail _ (.tail _ (.tail _ (.head _))))))))
    · exact old _ (.tail _ (.tail _ (.tail _ (.tail _ (.tail _ (.tail _ (.tail _ (.tail _ (.head _)))))))))
end
section
variable {prog : Program} {w : World} {A : Around} {E : Value → Shared → Prop} {s : Shared} {h₀ : Heap} {L : Addr} {m : Str → Option Value} {env : Env}
theorem restL_ind {elt : PySem.Expr} {x : Str} {scope : Scope} {cl : List (Str × Addr)} {S : Led → Prop} {PP : Nat → Value → Prop} {Fin : List Value → Led → Prop} {nw : Led} {n : Nat} (P : Nat → List Value → Led → Prop) (h0 : P 0 [] nw)
    (hstep : ∀ r i ys nw, i < n → P i ys nw → (∀ ys' nw', P (i + 1) ys' nw' → LCg.CompRest prog w A h₀ L m env elt x scope cl s S PP Fin r (i + 1) ys' nw') → LCg.CompRest prog w A h₀ L m env elt x scope cl s S PP Fin (r + 1) i ys nw)
    (hfin : ∀ ys nw, P n ys nw → Fin ys nw) : LCg.CompRest prog w A h₀ L m env elt x scope cl s S PP Fin n 0 [] nw := by
  have key : ∀ r i ys nw, i + r = n → P i ys nw → LCg.CompRest prog w A h₀ L m env elt x scope cl s S PP Fin r i ys nw := by
    intro r
    induction r with
    | zero => intro i ys nw e hp; exact LCg.CompRest.zero (hfin ys nw (by rw [← e]; exact hp))
    | succ r ih => intro i ys nw e hp; exact hstep r i ys nw (by omega) hp fun ys' nw' hp' => ih (i + 1) ys' nw' (by omega) hp'
  exact key n 0 [] nw (Nat.zero_add n) h0
theorem with_reader2 {p : Program} {loose : List Str} {mean : ExcName → Option Value} {mg mb : Str → Option Value} {f fc cl D : Addr} {name qual : Str} {params : Arguments} {body : PySem.Expr} {scope : Scope} {nm : Str} {pm ctv : Value} {co lo : Obj} {news : Led} {goal : Prop} {h : Heap} (_N : News h₀ L h news)
    (_m1 : (f, kla_obj name qual params body scope [(nm, cl)] pm fc ctv) ∈ news) (_m2 : (fc, co) ∈ news) (_m3 : (cl, lo) ∈ news) (_hlo : lo.data = .cell (some (.ref D)))
    (RD : Reader w p loose mean mg mb f fc cl D (kla_obj name qual params body scope [(nm, cl)] pm fc ctv) co lo)
    (k : Reader w p loose mean mg mb f fc cl D (kla_obj name qual params body scope [(nm, cl)] pm fc ctv) co lo → goal) : goal := k RD
end
end

section
open PySem PySem.W PySem.Calls PySem.Spec PyProof.Rows
set_option Elab.async false
set_option maxRecDepth 100000
set_option linter.unusedSectionVars false
noncomputable abbrev Lx.all (Z : Lx) (oP : Obj) (cc : Addr) (o' : Obj) (ln : Int) (tl : Tok) (ys : List Value) (k : Nat) : Led := (cc, o') :: (163, oP) :: (Z.pb, W.listOf #[] 0) :: Z.led ln tl ys k
theorem lx_pack {w : World} {p : Program} {loose : List Str} {mean : ExcName → Option Value} {mg mb : Str → Option Value} {news : Led} {x dx st ds pb f fc cl D cc : Addr} {oc : Value} {od : Option Addr} {fd : FuncData} {sl : Array (Option Value)} {co lo o' oP : Obj}
    {h1 h2 h3 h4 i1 i2 i3 i4 i5 ln : Int} {t1 t2 t3 t4 u1 u2 u3 u4 u5 tw tl : Tok} {w1 w2 w3 w4 : Value} {ys : List Value} {k : Nat} {goal : Prop} {h₀ h : Heap} {L : Addr} (_N : News h₀ L h news)
    (RD : Reader w p loose mean mg mb f fc cl D ⟨oc, od, .func fd, sl⟩ co lo)
    (m1 : (x, instObj 52 dx) ∈ news) (m2 : (dx, dictOf (lexD h1 h2 h3 h4 t1 t2 t3 t4 (Value.int ln tl) (Value.ref st) (Value.str (Str.ofString "\n\t\r ") tw) (Value.ref pb)) 4) ∈ news)
    (m3 : (st, instObj 52 ds) ∈ news) (m4 : (ds, dictOf (streamD i1 i2 i3 i4 i5 u1 u2 u3 u4 u5 w1 w2 w3 w4 (Value.ref f)) 5) ∈ news)
    (m5 : (f, (⟨oc, od, .func fd, sl⟩ : Obj)) ∈ news) (m6 : (fc, co) ∈ news) (m7 : (cl, lo) ∈ news) (m8 : (D, W.listOf ys.toArray k) ∈ news) (m9 : (pb, W.listOf #[] 0) ∈ news) (hc : o'.data = .cell (some (.ref x))) (mc : (cc, o') ∈ news) (mP : (163, oP) ∈ news)
    (ok : @LT.lt Nat _ 163 cc ∧ @LT.lt Nat _ cc cl ∧ @LT.lt Nat _ cl D ∧ @LT.lt Nat _ D ds ∧ @LT.lt Nat _ ds st ∧ @LT.lt Nat _ st fc ∧ @LT.lt Nat _ fc f ∧ @LT.lt Nat _ f dx ∧ @LT.lt Nat _ dx x ∧ @LT.lt Nat _ x pb)
    (kk : ∀ (Z : Lx) (ln : Int) (tl : Tok), Z.Rd w p loose mean mg mb → Z.Ok → @LT.lt Nat _ 163 cc → @LT.lt Nat _ cc Z.cl → o'.data = .cell (some (.ref Z.x)) → (∀ q ∈ Z.all oP cc o' ln tl ys k, q ∈ news) → goal) : goal := by
  refine kk ⟨x, dx, st, ds, pb, f, fc, cl, D, oc, od, fd, sl, co, lo, h1, h2, h3, h4, i1, i2, i3, i4, i5, t1, t2, t3, t4, u1, u2, u3, u4, u5, tw, w1, w2, w3, w4⟩ ln tl RD ok.2.2 ok.1 ok.2.1 hc ?_
  intro q hq
  simp only [List.mem_cons, List.not_mem_nil, or_false] at hq
  rcases hq with rfl | rfl | rfl | rfl | rfl | rfl | rfl | rfl | rfl | rfl | rfl
  · exact mc
  · exact mP
  · exact m9
  · exact m1
  · exact m2
  · exact m3
  · exact m4
  · exact m5
  · exact m6
  · exact m7
  · exact m8
theorem Lx.all_lt {Z : Lx} (ok : Z.Ok) {cc : Addr} (hc : @LT.lt Nat _ cc Z.cl) {n : Nat} {ln : Int} {tl : Tok} {ys : List Value} {k : Nat} : ∀ r ∈ ((Z.pb, W.listOf #[] n) :: Z.led ln tl ys k : Led), r.1 ≠ cc := by
  obtain ⟨o1, o2, o3, o4, o5, o6, o7, o8⟩ := ok
  intro r hr
  simp only [List.mem_cons, List.not_mem_nil, or_false] at hr
  rcases hr with rfl | rfl | rfl | rfl | rfl | rfl | rfl | rfl | rfl <;> dsimp only <;> refine Ne.symm (Nat.ne_of_lt ?_) <;> omega
theorem take_words {W : List Str} {zs : List Value} {i : Nat} {v : Str} {t : Tok} (hi : i < W.length) (hz : StrsAre zs (W.take i)) (hv : v = W.getD i Str.empty) : StrsAre (zs ++ [Value.str v t]) (W.take (i + 1)) := by
  rw [List.take_add_one, List.getElem?_eq_getElem hi]
  refine strs_append hz ?_
  rw [hv, List.getD_eq_getElem?_getD, List.getElem?_eq_getElem hi]
  exact .cons _ _ .nil
theorem off_five {I C D cc : Addr} {oI oC oD o' oP : Obj} {l : Led} (h : LCg.Off3 I C D l) (hc : ∀ r ∈ l, r.1 ≠ cc) (hP : ∀ r ∈ l, r.1 ≠ 163) : ∀ q ∈ ([(I, oI), (C, oC), (D, oD), (cc, o'), (163, oP)] : Led), ∀ r ∈ l, r.1 ≠ q.1 := by
  intro q hq r hr
  have := h.mem r hr
  simp only [List.mem_cons, List.not_mem_nil, or_false] at hq
  rcases hq with rfl | rfl | rfl | rfl | rfl
  · exact this.1
  · exact this.2.1
  · exact this.2.2
  · exact hc r hr
  · exact hP r hr
section
variable {prog : Program} {w : World} {A : Around} {E : Value → Shared → Prop} {s : Shared} {h₀ : Heap} {L : Addr} {m : Str → Option Value} {env : Env}
theorem readZ_ind {elt : PySem.Expr} {x : Str} {scope : Scope} {cl : List (Str × Addr)} {S : Led → Prop} {PP : Nat → Value → Prop} {Fin : List Value → Led → Prop} {n : Nat} {Z : Lx} {cc : Addr} {o' oP : Obj} {ln0 : Int} {tl0 : Tok} {ys0 : List Value} {k0 : Nat} (rem : Nat → List Nat) (W : List Str)
    (h0 : StrsAre ys0 ((rem 0).map one))
    (hstep : ∀ r i zs ln tl ys k, i < n → StrsAre ys ((rem i).map one) → StrsAre zs (W.take i) →
      (∀ zs' ln tl ys k, StrsAre ys ((rem (i + 1)).map one) → StrsAre zs' (W.take (i + 1)) → LCg.CompRest prog w A h₀ L m env elt x scope cl s S PP Fin r (i + 1) zs' (Z.all oP cc o' ln tl ys k)) →
      LCg.CompRest prog w A h₀ L m env elt x scope cl s S PP Fin (r + 1) i zs (Z.all oP cc o' ln tl ys k))
    (hfin : ∀ zs ln tl ys k, StrsAre zs (W.take n) → Fin zs (Z.all oP cc o' ln tl ys k)) : LCg.CompRest prog w A h₀ L m env elt x scope cl s S PP Fin n 0 [] (Z.all oP cc o' ln0 tl0 ys0 k0) := by
  refine restL_ind (fun i zs nw => ∃ ln tl ys k, nw = Z.all oP cc o' ln tl ys k ∧ StrsAre ys ((rem i).map one) ∧ StrsAre zs (W.take i)) ⟨_, _, _, _, rfl, h0, .nil⟩ ?_ ?_
  · rintro r i zs nw hi ⟨ln, tl, ys, k, rfl, hS, hz⟩ ih
    exact hstep r i zs ln tl ys k hi hS hz fun zs' ln tl ys k hS hz => ih zs' _ ⟨ln, tl, ys, k, rfl, hS, hz⟩
  · rintro zs nw ⟨ln, tl, ys, k, rfl, hS, hz⟩
    exact hfin zs ln tl ys k hz
end
end

section
open PySem PySem.W PySem.Calls PyProof.Rows
set_option Elab.async false
set_option maxRecDepth 100000
set_option maxHeartbeats 8000000
-- a step that does not enter a loop
local macro_rules | `(tactic| walk_at "call type:list") => `(tactic| (k_here; (with_reducible show wpAny _ _ (call (Value.type "list") [Value.str _ _]) _ _ _); k_dflt (refine' list_str_t ?kh ?kF ?kN ?kz ?_; (case kh => exact rfl); (case kF => k_asm); (case kN => k_asm); (case kz => omega)); intro D' ys' k' h' tk' F' N' l1 S'; (try k_lt l1); (try k_sweep)))
local macro_rules | `(tactic| walk_at "compareOp NotEq ref ref") => `(tactic| (k_here; first | (refine ne_cons_nil (by k_asm) (by k_mem) (by k_mem) (Nat.le_of_ble_eq_true rfl) ?_) | (refine ne_nil_nil (by k_asm) (by k_mem) (by k_mem) (Nat.le_of_ble_eq_true rfl) ?_)))
theorem read_spec (w : World) (p : Program) (loose : List Str) (mean : ExcName → Option Value) (mg mb : Str → Option Value) (txt : Str) (ps : List (Str × Int)) (t u : Tok) (hps : ∀ q ∈ ps, Rep q.1) (hn : ps.length ≤ 6) (hx : txt.cps.toList = remF ps 0) :
   Sp w p loose mean mg mb 400 166 [Value.str txt t, Value.int ps.length u] [(163, tabObj #[])] (fun h v h' => ∃ q zs k, v = .ref q ∧ h.get? q = none ∧ h'.get? q = some (W.listOf zs.toArray k) ∧ StrsAre zs (ps.map (·.1) ++ [Str.empty]) ∧ ∃ ps', h'.get? 163 = some (tabObj ps')) := by
  k_with_none
  k_with "TB" => (repeat' (first | (k_unfold; (try dsimp only)) | (k_end; wrow_close) | ((fail_if_success (with_reducible show wpAny _ _ (pyIter _) _ _ _)); (fail_if_success (with_reducible show wpAny _ _ (eval (Expr.ListComp _ _ _ _) _) _ _ _)); (fail_if_success (with_reducible show LCg.CompSrc _ _ _ _ _ _ _ _ _ _ _ _ _ _)); (fail_if_success (with_reducible show LCg.CompEnd _ _ _ _ _ _ _ _ _ _ _ _ _ _)); (fail_if_success (with_reducible show wpAny _ _ (call (Value.ref 42) _) _ _ _)); walk1) | (dsimp only; (fail_if_success (with_reducible show wpAny _ _ (pyIter _) _ _ _)); (fail_if_success (with_reducible show wpAny _ _ (eval (Expr.ListComp _ _ _ _) _) _ _ _)); (fail_if_success (with_reducible show LCg.CompSrc _ _ _ _ _ _ _ _ _ _ _ _ _ _)); (fail_if_success (with_reducible show LCg.CompEnd _ _ _ _ _ _ _ _ _ _ _ _ _ _)); (fail_if_success (with_reducible show wpAny _ _ (call (Value.ref 42) _) _ _ _)); walk1) | (leave1; walk_say "STEP leave1"; try dsimp only) | fail "no step"))
  unfold Sp
  have hxl : txt.length ≤ 1000 := by rw [len_list, hx]; exact remF_len hps hn 0
  have hsg : signs txt = (remF ps 0).map one := by rw [signs_one, hx]
  k_fill
  intro base b' outer s R st B X T N hret
  ktr_rel
  have hC := codeHd_of_K (c := 165) (P := 163) (by assumption : (hd.heap_1 w.params).In _) (by exact rfl)
  clear st B X T N
  k_extra "TB"
  rename News _ _ _ _ => NN
  refine with_reader2 (w := w) (p := p) (loose := loose) (mean := mean) (mg := mg) (mb := mb) NN (by k_mem) (by k_mem) (by k_mem) (by assumption) ?RD ?k
  case RD =>
    clear NN hret
    intro ys xs k u hS hlen
    unfold Sp
    cases hS with
    | nil =>
      k_fill
      intro base b' outer s R st B X T N hret
      refine' enter_lam (by assumption) (by assumption) (by assumption) (by assumption) (by assumption) ?k6 ?k7 ?k8 ?k9 ?kB ?_ ?c2 ?c3 ?c4 ?c5
      case k6 => k_mem
      case k7 => exact ⟨_, _, _, _, rfl, (N _ (.tail _ (.head _))).1, by assumption, by assumption⟩
      case k8 => decide
      case k9 => exact rfl
      case kB => exact locs rfl
      case c2 => exact rfl
      case c3 => exact rfl
      case c4 => exact rfl
      case c5 => decide
      intro g' L' h' G' F' N' B' X' T' l1
      clear B X T N
      k_extra "TB"
      refine hret _ _ _ (Gr.kept (by assumption) (by k_asm)) ⟨News.get (by k_asm) (by k_mem), News.get (by k_asm) (by k_mem), News.get (by k_asm) (by k_mem), _, _, _, .nil, rfl, News.get (by k_asm) (by k_mem)⟩
    | cons x t hr =>
      rename_i r xs
      k_fill
      intro base b' outer s R st B X T N hret
      refine' enter_lam (by assumption) (by assumption) (by assumption) (by assumption) (by assumption) ?k6 ?k7 ?k8 ?k9 ?kB ?_ ?c2 ?c3 ?c4 ?c5
      case k6 => k_mem
      case k7 => exact ⟨_, _, _, _, rfl, (N _ (.tail _ (.head _))).1, by assumption, by assumption⟩
      case k8 => decide
      case k9 => exact rfl
      case kB => exact locs rfl
      case c2 => exact rfl
      case c3 => exact rfl
      case c4 => exact rfl
      case c5 => decide
      intro g' L' h' G' F' N' B' X' T' l1
      clear B X T N
      have hrl := hr.length
      rw [List.length_cons] at hlen
      k_extra "TB"
      refine hret _ _ _ (Gr.kept (by assumption) (by k_asm)) ⟨News.get (by k_asm) (by k_mem), News.get (by k_asm) (by k_mem), News.get (by k_asm) (by k_mem), _, _, _, hr, rfl, News.get (by k_asm) (by k_mem)⟩
  case k =>
    intro RDR
    refine LCg.ListComp_U (F₀ := by k_asm) (by with_unfolding_all rfl) (by decide) (by rfl) (by decide) (by rfl) ?_
    k_extra "TB"
    rename News _ _ _ _ => NN2
    have NN3 := NN2
    refine lx_pack NN2 RDR (by k_mem) (by k_mem) (by k_mem) (by k_mem) (by k_mem) (by k_mem) (by k_mem) (by k_mem) (by k_mem) (by assumption) (by k_mem) (by k_mem) (by omega) ?kk
    intro Z ln0 tl0 R0 ok h163 hcc hcell hsub
    replace NN3 : News _ _ _ (Z.all _ _ _ _ _ _ _) := fun q hq => NN3 q (hsub q hq)
    clear NN2 hsub
    refine' LCg.CompSrc.range (n := ps.length + 1) rfl (by k_asm) NN3 (by assumption) ?q1 ?q2 ?q3 ?_
    case q1 => exact (range_facts (n := ps.length + 1) (by omega)).1
    case q2 => exact (range_facts (n := ps.length + 1) (by omega)).2
    case q3 => rw [sizeLine_eq]; omega
    intro gg
    refine' readZ_ind (remF ps) (ps.map (·.1) ++ [Str.empty]) ?h0 ?st ?fi
    case h0 => rw [← hsg]; assumption
    case st =>
      intro r i zs ln tl ys k hi hS hz ih
      refine LCg.CompRest.succ ?_
      intro v' I oI C oC D m' h' tk' E' hv' hC' hx' F' N' off' ne'
      have offl := Lx.all_lt (n := 0) (ln := ln) (tl := tl) (ys := ys) (k := k) ok hcc
      have offP := Lx.all_lt (n := 0) (ln := ln) (tl := tl) (ys := ys) (k := k) (cc := 163) ok (Nat.lt_trans h163 hcc)
      have offc := off'.1
      dsimp only at offc
      k_extra "TB"
      rename News _ _ _ _ => NN4
      refine tok_use (pre := [_, _, _, _, _]) (tok_at hps hn (by omega) R0 ok hS) (by k_asm) (by k_asm) (by k_asm) NN4 (by k_asm) rfl rfl rfl rfl (Nat.le_of_ble_eq_true rfl) (Nat.le_of_ble_eq_true rfl) (off_five off'.2.2 offl offP) ?_
      intro r' k' t' ln' tl' h'' tk'' hr' F'' N''
      dsimp only
      k_extra "TB"
      refine LCg.CompEnd.intro (by k_asm) N'' (Z.all _ _ _ ln' tl' r' k') ?ks off' trivial (ih _ _ _ _ _ hr' (take_words (by rw [List.length_append, List.length_map]; exact hi) hz rfl))
      case ks => exact fun q hq => hq
    case fi =>
      intro zs ln tl ys k hz
      intro D₂ hp₂ tk₂ F₂ N₂ off₂
      have off3 := off₂.2.1
      dsimp only at off3
      k_extra "TB"
      exact hret _ _ _ (Gr.kept (by assumption) (by k_asm)) ⟨_, zs, _, rfl, Gr.fresh (by assumption) (by k_asm) (by k_mem) (by intro q hq; cases List.mem_singleton.mp hq; dsimp only; omega), News.get (by k_asm) (by k_mem), by rw [List.take_of_length_le (by simp)] at hz; exact hz, _, News.get (by k_asm) (.tail _ (.tail _ (.head _)))⟩
end

section
open PySem PySem.W PySem.Calls PyProof.Rows
set_option Elab.async false
set_option maxRecDepth 100000
set_option linter.unusedSectionVars false
section
variable {prog : Program} {w : World} {A₀ A : Around} {s : Shared} {base b h₀ h' : Heap} {outer : List Env} {L : Addr} {m : Str → Option Value} {env : Env} {news sub : Led} {K : Frag}
  {p : Program} {loose : List Str} {mean : ExcName → Option Value} {mg mb : Str → Option Value} {d : Nat} {f : Addr} {vs : List Value} {post : Heap → Value → Heap → Prop}
  {Q : Value → Shared → Prop} {E : Value → Shared → Prop}
theorem news_fresh {q : Addr} {o : Obj} (F : Fr h₀ L s.heap m) (N : News h₀ L s.heap news) (N' : News h₀ L h' news) (G : Gw s.heap h') (hq : s.heap.get? q = none) (e : h'.get? q = some o) :
    News h₀ L h' ((q, o) :: news) ∧ ∀ r ∈ news, r.1 < q := by
  have hge := G.above hq e
  refine ⟨fun r hr => ?_, fun r hr => Nat.lt_of_lt_of_le (Heap.lt_size (N r hr).1) hge⟩
  rcases List.mem_cons.mp hr with rfl | hr
  · refine ⟨e, fun z => ?_, ?_⟩
    · obtain ⟨oL, _, _, hL, _⟩ := F.ns
      dsimp only at z; rw [z, hL] at hq; cases hq
    · cases e : h₀.get? q with
      | none => rfl
      | some o => rw [F.keep _ _ e] at hq; cases hq
  · exact N' r hr
theorem use_gw (S : Spec prog w K p loose mean mg mb d f vs sub post) (B : Below A₀ base outer h₀) (F : Fr h₀ L s.heap m) (X : K.In h₀) (N : News h₀ L s.heap news) (T : Top p loose mean mg mb h₀)
    (hA : A.frames = some (env :: outer)) (hh : A.handled = none) (hf : env.frame = some L) (hke : env.scope.kind = .function) (hd : A.depth ≤ d) (hu : A.units ≤ d)
    (hsub : ∀ q ∈ sub, q ∈ news)
    (h : ∀ v h' tk', Fr h₀ L h' m → Kept sub s.heap h' → Gw s.heap h' → post s.heap v h' → Q v { s with heap := h', toks := tk' }) :
    wpAny (model prog w) A (call (.ref f) vs) Q E s :=
  any_gw (use_spec S B F X N T hA hh hf hke hd hu hsub fun v h' tk' F' hk hp g => h v h' tk' F' hk g hp)
theorem use_keep (S : Spec prog w K p loose mean mg mb d f vs sub post) (B : Below A₀ base outer h₀) (F : Fr h₀ L s.heap m) (X : K.In h₀) (N : News h₀ L s.heap news) (T : Top p loose mean mg mb h₀)
    (hA : A.frames = some (env :: outer)) (hh : A.handled = none) (hf : env.frame = some L) (hke : env.scope.kind = .function) (hd : A.depth ≤ d) (hu : A.units ≤ d)
    (hsub : ∀ q ∈ sub, q ∈ news) (hs : ∀ v h h', post h v h' → ∀ q ∈ sub, h'.get? q.1 = some q.2)
    (h : ∀ v h' tk', Fr h₀ L h' m → News h₀ L h' news → Gw s.heap h' → post s.heap v h' → Q v { s with heap := h', toks := tk' }) :
    wpAny (model prog w) A (call (.ref f) vs) Q E s :=
  use_gw S B F X N T hA hh hf hke hd hu hsub fun v h' tk' F' hk g hp => h v h' tk' F' (news_same N hk hsub (hs _ _ _ hp)) g hp
theorem sub_one {a : Addr} {o : Obj} (hm : (a, o) ∈ news) : ∀ q ∈ ([(a, o)] : Led), q ∈ news := fun q hq => by rw [List.mem_singleton.mp hq]; exact hm
theorem sub_two {a c : Addr} {o o' : Obj} (hm : (a, o) ∈ news) (hm' : (c, o') ∈ news) : ∀ q ∈ ([(a, o), (c, o')] : Led), q ∈ news := fun q hq => by
  rcases List.mem_cons.mp hq with rfl | hq
  · exact hm
  · rw [List.mem_singleton.mp hq]; exact hm'
end
section
variable {w : World} {A₀ A : Around} {s : Shared} {base b h₀ h' : Heap} {outer : List Env} {L : Addr} {m : Str → Option Value} {env : Env} {news sub : Led}
  {p : Program} {loose : List Str} {mean : ExcName → Option Value} {mg mb : Str → Option Value}
  {Q : Value → Shared → Prop} {E : Value → Shared → Prop}
  (B : Below A₀ base outer h₀) (F : Fr h₀ L s.heap m) (X : (hd.heap_1 w.params).In h₀) (N : News h₀ L s.heap news) (T : Top p loose mean mg mb h₀)
  (hA : A.frames = some (env :: outer)) (hh : A.handled = none) (hf : env.frame = some L) (hke : env.scope.kind = .function) (hd : A.depth ≤ 400) (hu : A.units ≤ 400)
include B F X N T hA hh hf hke hd hu
theorem draws_use {l : Addr} {vs : List Value} {ns : List Int} (hl : h₀.IsList l vs.toArray) (hI : IntsAre vs ns) (hlen : ns.length ≤ 63)
    (h : ∀ q zs k ds h' tk', Fr h₀ L h' m → News h₀ L h' ((q, W.listOf zs.toArray k) :: news) → (∀ r ∈ news, r.1 < q) → IntsAre zs ds → ds.length = 3 + ns.length % 4 → Q (.ref q) { s with heap := h', toks := tk' }) :
    wpAny (model PySem.Challenge.rw_wn0036_01.row.prog w) A (call (.ref 140) [.ref l]) Q E s := by
  refine any_gw ?_
  obtain ⟨FG, BG, st, _⟩ := groundX (R := fun _ _ => True) B F N hA hf hke
  refine wpAny_call (ar_le (draws_spec w p loose mean mg mb l vs ns hI hlen base _ (env :: outer) s _ (fun b o e => of_hideAll _ e) ⟨rfl, BG.stays, BG.frames⟩ (X.keeps st) (T.keeps st) (hl.at fun o e => st _ _ e) fun v h' tk' hk hp => ?_) hh hA hd hu)
  obtain ⟨q, zs, ds, rfl, hq, e, hz, hds⟩ := hp
  have F' : Fr h₀ L h' m := by
    obtain ⟨oL, es, ep, hL, hLd, hLk, hLf⟩ := F.ns
    have hL' : h'.get? L = some oL := hk L oL hL fun q hq => nomatch hq
    exact ⟨⟨oL, es, ep, hL', hLd, hLk, hLf⟩, fun x o e => hk x o (F.keep x o e) (fun q hq => nomatch hq), F.above⟩
  intro G
  have N' : News h₀ L h' news := fun r hr => ⟨hk _ _ (N r hr).1 (fun q hq => nomatch hq), (N r hr).2⟩
  obtain ⟨N2, l1⟩ := news_fresh F N N' G hq e
  exact h q zs zs.length ds h' tk' F' N2 l1 hz hds
theorem order_use {l : Addr} {vs : List Value} {ds : List Int} {k : Nat} (hm : (l, W.listOf vs.toArray k) ∈ news) (hI : IntsAre vs ds) (hlen : ds.length ≤ 6)
    (h : ∀ q zs k' h' tk', Fr h₀ L h' m → News h₀ L h' ((q, W.listOf zs.toArray k') :: news) → (∀ r ∈ news, r.1 < q) → IntsAre zs (orderF ds) → Q (.ref q) { s with heap := h', toks := tk' }) :
    wpAny (model PySem.Challenge.rw_wn0036_01.row.prog w) A (call (.ref 147) [.ref l]) Q E s := by
  refine use_keep (order_spec w p loose mean mg mb l vs ds k hI hlen) B F X N T hA hh hf hke hd hu (sub_one hm) (fun v h h' hp q hq => by rw [List.mem_singleton.mp hq]; exact hp.1) fun v h' tk' F' N' G hp => ?_
  obtain ⟨_, q, zs, k', rfl, hq, e, hz⟩ := hp
  obtain ⟨N2, l1⟩ := news_fresh F N N' G hq e
  exact h q zs k' h' tk' F' N2 l1 hz
theorem reply_use {l : Addr} {vs : List Value} {ds : List Int} {k : Nat} {i : Int} {t : Tok} (hm : (l, W.listOf vs.toArray k) ∈ news) (hI : IntsAre vs ds) (hlen : ds.length ≤ 6) (hi0 : 0 ≤ i) (hi : i < ds.length)
    (h : ∀ t' h' tk', Fr h₀ L h' m → News h₀ L h' news → Q (.str (replyF ds i) t') { s with heap := h', toks := tk' }) :
    wpAny (model PySem.Challenge.rw_wn0036_01.row.prog w) A (call (.ref 154) [.ref l, .int i t]) Q E s := by
  refine use_keep (reply_spec w p loose mean mg mb l vs ds k i t hI hlen hi0 hi) B F X N T hA hh hf hke hd hu (sub_one hm) (fun v h h' hp q hq => by rw [List.mem_singleton.mp hq]; exact hp.2) fun v h' tk' F' N' G hp => ?_
  obtain ⟨⟨t', rfl⟩, _⟩ := hp
  exact h t' h' tk' F' N'
theorem written_use {r : Str} {t t2 : Tok} {b : Int} (hr : r.length ≤ 40)
    (h : ∀ t' h' tk', Fr h₀ L h' m → News h₀ L h' news → Q (.str (writtenF r b) t') { s with heap := h', toks := tk' }) :
    wpAny (model PySem.Challenge.rw_wn0036_01.row.prog w) A (call (.ref 161) [.str r t, .int b t2]) Q E s := by
  refine use_keep (written_spec w p loose mean mg mb r t t2 b hr) B F X N T hA hh hf hke hd hu (fun q hq => nomatch hq) (fun v h h' hp q hq => nomatch hq) fun v h' tk' F' N' G hp => ?_
  obtain ⟨t', rfl⟩ := hp
  exact h t' h' tk' F' N'
theorem parse_use {r : Str} {t t1 t2 : Tok} {pr : Addr} {n m' : Nat} {k : Int} (hm : (pr, ({ cls := .type "tuple", data := .seq #[.str (Str.ofString "host") t1, .int 21 t2] n } : Obj)) ∈ news)
    (hr : r.cps.toList = [50, 50, 57, 32, 40] ++ (bodyOf m' k ++ 41 :: [])) (hmk : m' ∈ marks) (h0 : 0 ≤ k) (hk : k < 10 ^ 10)
    (h : ∀ q t3 t4 n' h' tk', Fr h₀ L h' m → News h₀ L h' ((q, { cls := .type "tuple", data := .seq #[.str (Str.ofString "host") t3, .int k t4] n' }) :: news) → (∀ r ∈ news, r.1 < q) → Q (.ref q) { s with heap := h', toks := tk' }) :
    wpAny (model PySem.Challenge.rw_wn0036_01.row.prog w) A (call (.ref 100) [.str r t, .ref pr]) Q E s := by
  refine use_keep (parse_spec w p loose mean mg mb r t pr n t1 t2 m' k hr hmk h0 hk) B F X N T hA hh hf hke hd hu (sub_one hm) (fun v h h' hp q hq => by rw [List.mem_singleton.mp hq]; exact hp.1) fun v h' tk' F' N' G hp => ?_
  obtain ⟨_, q, t3, t4, n', rfl, hq, e⟩ := hp
  obtain ⟨N2, l1⟩ := news_fresh F N N' G hq e
  exact h q t3 t4 n' h' tk' F' N2 l1
theorem unlike_use {l : Addr} {vs : List Value} {ds : List Int} {k : Nat} {j : Int} {u : Tok} (hm : (l, W.listOf vs.toArray k) ∈ news) (hj : 0 < j) (hI : IntsAre vs ds) (hlen : ds.length ≤ 6)
    (h : ∀ h' tk', Fr h₀ L h' m → News h₀ L h' news → Q (.bool (decide (∀ d ∈ ds, (ds.map (·.fmod j)).count (d.fmod j) = 1))) { s with heap := h', toks := tk' }) :
    wpAny (model PySem.Challenge.rw_wn0036_01.row.prog w) A (call (.ref 178) [.ref l, .int j u]) Q E s := by
  refine use_keep (unlike_spec w p loose mean mg mb l vs ds k j u hj hI hlen) B F X N T hA hh hf hke hd hu (sub_one hm) (fun v h h' hp q hq => by rw [List.mem_singleton.mp hq]; exact hp.1) fun v h' tk' F' N' G hp => ?_
  obtain ⟨_, rfl⟩ := hp
  exact h h' tk' F' N'
end
end

section
open PySem PySem.W PySem.Calls PyProof.Rows
set_option Elab.async false
set_option maxRecDepth 100000
set_option linter.unusedSectionVars false
section
variable {w : World} {A₀ A : Around} {s : Shared} {base b h₀ h' : Heap} {outer : List Env} {L : Addr} {m : Str → Option Value} {env : Env} {news sub : Led}
  {p : Program} {loose : List Str} {mean : ExcName → Option Value} {mg mb : Str → Option Value}
  {Q : Value → Shared → Prop} {E : Value → Shared → Prop}
  (B : Below A₀ base outer h₀) (F : Fr h₀ L s.heap m) (X : (hd.heap_1 w.params).In h₀) (N : News h₀ L s.heap news) (T : Top p loose mean mg mb h₀)
  (hA : A.frames = some (env :: outer)) (hh : A.handled = none) (hf : env.frame = some L) (hke : env.scope.kind = .function) (hd : A.depth ≤ 400) (hu : A.units ≤ 400)
include B F X N T hA hh hf hke hd hu
theorem comes_use {lw lo : Addr} {ws os : List Value} {rs : List Str} {ns : List Int} {kw ko : Nat} {cut : Int} {tc : Tok} (hmw : (lw, W.listOf ws.toArray kw) ∈ news) (hmo : (lo, W.listOf os.toArray ko) ∈ news)
    (hW : StrsAre ws rs) (hO : IntsAre os ns) (hlen : rs.length ≤ 6) (hlo : ns.length ≤ 6) (hn : ∀ i ∈ ns, 0 ≤ i ∧ i < rs.length) (hne : Str.empty ∉ rs) (hc0 : 0 ≤ cut) (hc1 : cut ≤ rs.length) (ne1 : @Ne Nat lw lo)
    (h : ∀ h' tk', Fr h₀ L h' m → News h₀ L h' news → Q (.bool (comesG rs ns ((rs.take cut.toNat).reverse ++ [Str.empty]) (rs.drop cut.toNat ++ [Str.empty]))) { s with heap := h', toks := tk' }) :
    wpAny (model PySem.Challenge.rw_wn0036_01.row.prog w) A (call (.ref 173) [.ref lw, .int cut tc, .ref lo]) Q E s := by
  refine use_keep (comes_spec w p loose mean mg mb lw lo ws os rs ns kw ko cut tc hW hO hlen hlo hn hne hc0 hc1 ne1) B F X N T hA hh hf hke hd hu (sub_two hmw hmo) (fun v h h' hp q hq => by
    rcases List.mem_cons.mp hq with rfl | hq
    · exact hp.2.1
    · rw [List.mem_singleton.mp hq]; exact hp.2.2) fun v h' tk' F' N' G hp => ?_
  obtain ⟨rfl, _⟩ := hp
  exact h h' tk' F' N'
end
end

section
open PySem PySem.W PySem.Calls PyProof.Rows
set_option Elab.async false
set_option maxRecDepth 100000
set_option linter.unusedSectionVars false
section
variable {w : World} {A₀ A : Around} {s : Shared} {base b h₀ h' : Heap} {outer : List Env} {L : Addr} {m : Str → Option Value} {env : Env} {news sub : Led}
  {p : Program} {loose : List Str} {mean : ExcName → Option Value} {mg mb : Str → Option Value}
  {Q : Value → Shared → Prop} {E : Value → Shared → Prop}
  (B : Below A₀ base outer h₀) (F : Fr h₀ L s.heap m) (X : (hd.heap_1 w.params).In h₀) (N : News h₀ L s.heap news) (T : Top p loose mean mg mb h₀)
  (hA : A.frames = some (env :: outer)) (hh : A.handled = none) (hf : env.frame = some L) (hke : env.scope.kind = .function) (hd : A.depth ≤ 400) (hu : A.units ≤ 400)
include B F X N T hA hh hf hke hd hu
theorem read_use {txt : Str} {ps : List (Str × Int)} {t u : Tok} {n : Int} {g : Obj → Led} (hps : ∀ q ∈ ps, Rep q.1) (hn : ps.length ≤ 6) (hx : txt.cps.toList = remF ps 0) (hnn : n = ((ps.length : Nat) : Int)) (U : UpdF 163 (tabObj #[]) news g)
    (h : ∀ q zs k (oP : Array Value) h' tk', Fr h₀ L h' m → News h₀ L h' ((q, W.listOf zs.toArray k) :: g (tabObj oP)) → (∀ r ∈ news, r.1 < q) → StrsAre zs (ps.map (·.1) ++ [Str.empty]) → Q (.ref q) { s with heap := h', toks := tk' }) :
    wpAny (model PySem.Challenge.rw_wn0036_01.row.prog w) A (call (.ref 166) [.str txt t, .int n u]) Q E s := by
  subst hnn
  have m163 := updF_in U
  refine use_gw (read_spec w p loose mean mg mb txt ps t u hps hn hx) B F X N T hA hh hf hke hd hu (sub_one m163) fun v h' tk' F' hk G hp => ?_
  obtain ⟨q, zs, k, rfl, hq, e, hz, oP, eP⟩ := hp
  have N' : News h₀ L h' (g (tabObj oP)) := news_upd1 N hk (sub_one m163) (fun r hr hne => absurd (by rw [List.mem_singleton.mp hr]) hne) eP (updF_upd U)
  have hge := G.above hq e
  refine h q zs k oP h' tk' F' (fun r hr => ?_) (fun r hr => Nat.lt_of_lt_of_le (Heap.lt_size (N r hr).1) hge) hz
  rcases List.mem_cons.mp hr with rfl | hr
  · refine ⟨e, fun z => ?_, ?_⟩
    · obtain ⟨oL, _, _, hL, _⟩ := F.ns
      dsimp only at z; rw [z, hL] at hq; cases hq
    · cases e : h₀.get? q with
      | none => rfl
      | some o => rw [F.keep _ _ e] at hq; cases hq
  · exact N' r hr
end
end

section
open PySem PySem.W PySem.Calls PyProof.Rows
set_option Elab.async false
set_option maxRecDepth 100000
set_option linter.unusedSectionVars false
theorem baseF_range (ns : List Int) : 0 ≤ baseF ns ∧ baseF ns < 65000 := by
  unfold baseF
  rw [Int.fmod_eq_emod_of_nonneg _ (by decide)]
  exact ⟨Int.emod_nonneg _ (by decide), Int.emod_lt_of_pos _ (by decide)⟩
theorem rep_parts (ns : List Int) {i : Int} (h0 : 0 ≤ i) (h1 : i ≤ 6) : ∃ m, m ∈ marks ∧ (replyF ns i).cps.toList = [50, 50, 57, 32, 40] ++ (bodyOf m (baseF ns + i) ++ 41 :: []) ∧ 0 ≤ baseF ns + i ∧ baseF ns + i < 10 ^ 10 := by
  obtain ⟨m, hm, e⟩ := markF_is (((ns.getD i.toNat 0).fdiv 8 + i).fmod 4)
  have hb := baseF_range ns
  refine ⟨m, hm, ?_, by omega, by omega⟩
  unfold replyF
  rw [e]
  exact reply_codes m _
theorem rep_reply (ns : List Int) {i : Int} (h0 : 0 ≤ i) (h1 : i ≤ 6) : Rep (replyF ns i) := by
  obtain ⟨m, hm, e, a, b⟩ := rep_parts ns h0 h1
  exact ⟨m, _, hm, a, b, e⟩
theorem strs_snoc {zs : List Value} {i : Nat} {f : Nat → Str} {t : Tok} (h : StrsAre zs ((List.range i).map f)) : StrsAre (zs ++ [Value.str (f i) t]) ((List.range (i + 1)).map f) := by
  rw [List.range_succ, List.map_append]
  exact strs_append h (.cons _ _ .nil)
/-- the replies; how each is written -/
noncomputable abbrev repliesF (ds : List Int) (n : Nat) : List Str := (List.range n).map fun (i : Nat) => replyF ds (i : Int)
noncomputable abbrev mannerF (ds : List Int) (i : Nat) : Int := ((ds.getD i 0).fdiv 32 + (i : Int)).fmod 2
noncomputable abbrev psF (ds : List Int) (n : Nat) : List (Str × Int) := (List.range n).map fun (i : Nat) => (replyF ds (i : Int), mannerF ds i)
theorem replies_get {ds : List Int} {n i : Nat} (h : i < n) : (repliesF ds n).getD i Str.empty = replyF ds (i : Int) := by
  unfold repliesF
  rw [List.getD_eq_getElem?_getD, List.getElem?_map, List.getElem?_range h]
  rfl
theorem ps_fst (ds : List Int) (n : Nat) : (psF ds n).map (·.1) = repliesF ds n := by
  unfold psF repliesF
  rw [List.map_map]; rfl
theorem ps_rep {ds : List Int} {n : Nat} (hn : n ≤ 6) : ∀ q ∈ psF ds n, Rep q.1 := by
  intro q hq
  obtain ⟨i, hi, rfl⟩ := List.mem_map.mp hq
  have := List.mem_range.mp hi
  exact rep_reply ds (by omega) (by omega)
theorem joinS_codes : ∀ ts : List Str, (Str.join (Str.ofString "") ts).cps.toList = ts.flatMap fun q => q.cps.toList
  | [] => rfl
  | [p] => by simp only [List.flatMap_cons, List.flatMap_nil, List.append_nil]; rfl
  | p :: q :: r => by
    have ih := joinS_codes (q :: r)
    show (p ++ Str.ofString "" ++ Str.join (Str.ofString "") (q :: r)).cps.toList = _
    simp only [Str.cps_append, Array.toList_append, ih, List.flatMap_cons]
    rw [show (Str.ofString "").cps.toList = [] from rfl, List.append_nil]
theorem join_codes (ts : List Str) : (Txt.join (Str.ofString "") ts).cps.toList = ts.flatMap fun q => q.cps.toList := by
  rw [← joinS_codes]
  show (Builtin.Str.glued (Str.ofString "") ts).cps.toList = _
  rw [StrLaws.glued_eq_join]
theorem text_is (ds : List Int) (n : Nat) : (Txt.join (Str.ofString "") ((List.range n).map fun (i : Nat) => writtenF (replyF ds (i : Int)) (mannerF ds i))).cps.toList = remF (psF ds n) 0 := by
  rw [join_codes]
  unfold remF psF
  rw [List.drop_zero, List.flatMap_map, List.flatMap_map]
section
variable {prog : Program} {w : World} {A : Around} {E : Value → Shared → Prop} {s : Shared} {h₀ : Heap} {L D : Addr} {news : Led} {zs : List Value} {k : Nat} {t : Tok} {Q : Value → Shared → Prop}
theorem join_t {ys : List Str} (N : News h₀ L s.heap news) (hm : (D, W.listOf zs.toArray k) ∈ news) (hs : StrsAre zs ys) (hn : ys.length ≤ 6) (hl : ∀ y ∈ ys, y.length ≤ 44)
    (h : ∀ t' k, Q (.str (Txt.join (Str.ofString "") ys) t') { s with toks := k }) : wpAny (model prog w) A (call (.builtin "str.join") [.str (Str.ofString "") t, .ref D]) Q E s := by
  have key : ∀ l : List Str, (∀ y ∈ l, y.length ≤ 44) → (l.map (·.length)).sum ≤ 44 * l.length := by
    intro l
    induction l with
    | nil => intro _; exact Nat.le_refl _
    | cons q r ih =>
      intro h
      have h1 := ih fun q hq => h q (List.mem_cons_of_mem _ hq)
      have h2 := h q List.mem_cons_self
      rw [List.map_cons, List.sum_cons, List.length_cons]
      omega
  have := key ys hl
  exact join_listW (is_list N hm) hs (by decide) (by omega) fun t' k => h t' k
end
theorem written_lens {ds : List Int} {n : Nat} (hn : n ≤ 6) : ∀ y ∈ (List.range n).map (fun (i : Nat) => writtenF (replyF ds (i : Int)) (mannerF ds i)), y.length ≤ 44 := by
  intro y hy
  obtain ⟨i, hi, rfl⟩ := List.mem_map.mp hy
  have := List.mem_range.mp hi
  rw [len_list]
  exact (rep_reply ds (by omega) (by omega)).written_len _
theorem words_ok {ds : List Int} {n : Nat} (hn : n ≤ 6) : ∀ r ∈ repliesF ds n ++ [Str.empty], PyData.strOk r = true := by
  intro r hr
  rcases List.mem_append.mp hr with hr | hr
  · obtain ⟨i, hi, rfl⟩ := List.mem_map.mp hr
    have := List.mem_range.mp hi
    exact (rep_reply ds (by omega) (by omega)).ok
  · rw [List.mem_singleton.mp hr]; decide +kernel
section
variable {prog : Program} {w : World} {A : Around} {E : Value → Shared → Prop} {s : Shared} {h₀ : Heap} {L a b : Addr} {news : Led} {xs ys : List Value} {k k2 : Nat} {Q : Value → Shared → Prop}
theorem ne_strs_same {rs : List Str} (N : News h₀ L s.heap news) (ha : (a, W.listOf xs.toArray k) ∈ news) (hb : (b, W.listOf ys.toArray k2) ∈ news) (hi : StrsAre xs rs) (hj : StrsAre ys rs) (o1 : ∀ r ∈ rs, PyData.strOk r = true) (hu : A.units + 64 < cLine) (h : Q (.bool false) s) :
    wpAny (model prog w) A (compareOp .NotEq (.ref a) (.ref b)) Q E s :=
  ne_strs (is_list N ha) (is_list N hb) hi hj o1 o1 hu (by simpa using h)
end
end

section
open PySem PySem.W PySem.Calls PySem.Spec PyProof.Rows PySem.SeqAt
set_option Elab.async false
set_option maxRecDepth 100000
set_option linter.unusedSectionVars false
/-- a pair (host, number) of the ledger -/
structure TupR where
  (q : Addr) (t3 : Tok) (k : Int) (t4 : Tok) (n : Nat)
noncomputable abbrev TupR.o (x : TupR) : Obj := { cls := .type "tuple", data := .seq #[.str (Str.ofString "host") x.t3, .int x.k x.t4] x.n }
noncomputable abbrev TupR.e (x : TupR) : Addr × Obj := (x.q, x.o)
noncomputable abbrev TupR.v (x : TupR) : Value := .ref x.q
section
variable {prog : Program} {w : World} {A : Around} {E : Value → Shared → Prop} {s : Shared} {h₀ h : Heap} {L a b : Addr} {m : Str → Option Value} {env : Env} {Q : Value → Shared → Prop}
theorem tup_ind {elt : PySem.Expr} {x' : Str} {scope : Scope} {cl : List (Str × Addr)} {S : Led → Prop} {PP : Nat → Value → Prop} {Fin : List Value → Led → Prop} {n : Nat} {base0 : Led} (K : Nat → List Int) (lo : Nat) (hK : K 0 = [])
    (hstep : ∀ r i (l : List TupR), i < n → l.map (·.k) = K i → (∀ x ∈ l, @LT.lt Nat _ lo x.q) →
      (∀ x : TupR, K i ++ [x.k] = K (i + 1) → @LT.lt Nat _ lo x.q → LCg.CompRest prog w A h₀ L m env elt x' scope cl s S PP Fin r (i + 1) (l.map (·.v) ++ [x.v]) (base0 ++ (l ++ [x]).map (·.e))) →
      LCg.CompRest prog w A h₀ L m env elt x' scope cl s S PP Fin (r + 1) i (l.map (·.v)) (base0 ++ l.map (·.e)))
    (hfin : ∀ l : List TupR, l.map (·.k) = K n → (∀ x ∈ l, @LT.lt Nat _ lo x.q) → Fin (l.map (·.v)) (base0 ++ l.map (·.e))) : LCg.CompRest prog w A h₀ L m env elt x' scope cl s S PP Fin n 0 [] base0 := by
  refine restL_ind (fun i ys nw => ∃ l : List TupR, ys = l.map (·.v) ∧ nw = base0 ++ l.map (·.e) ∧ l.map (·.k) = K i ∧ ∀ x ∈ l, @LT.lt Nat _ lo x.q) ⟨[], rfl, by simp, by rw [hK]; rfl, fun _ hx => nomatch hx⟩ ?_ ?_
  · rintro r i ys nw hi ⟨l, rfl, rfl, hk, hl⟩ ih
    refine hstep r i l hi hk hl fun x hx hlo => ih _ _ ⟨l ++ [x], by simp, rfl, by rw [List.map_append, hk]; exact hx, fun y hy => ?_⟩
    rcases List.mem_append.mp hy with hy | hy
    · exact hl y hy
    · rw [List.mem_singleton.mp hy]; exact hlo
  · rintro ys nw ⟨l, rfl, rfl, hk, hl⟩
    exact hfin l hk hl
theorem off3_snoc {I C D : Addr} {b : Led} {l : List TupR} {x : TupR} (h : LCg.Off3 I C D (b ++ l.map (·.e))) (h1 : @Ne Nat x.q I) (h2 : @Ne Nat x.q C) (h3 : @Ne Nat x.q D) : LCg.Off3 I C D (b ++ (l ++ [x]).map (·.e)) := by
  refine LCg.Off3.of fun p hp => ?_
  rw [List.map_append, ← List.append_assoc] at hp
  rcases List.mem_append.mp hp with hp | hp
  · exact h.mem p hp
  · have hp' : p = x.e := by simpa using hp
    rw [hp']; exact ⟨h1, h2, h3⟩
theorem sub_snoc {all : Led} {c1 c2 c3 : Addr × Obj} {b : Led} {l : List TupR} {x : TupR} (hb : ∀ p ∈ c1 :: c2 :: c3 :: (b ++ l.map (·.e)), p ∈ all) (hx : x.e ∈ all) : ∀ p ∈ c1 :: c2 :: c3 :: (b ++ (l ++ [x]).map (·.e)), p ∈ all := by
  intro p hp
  rw [List.map_append, ← List.append_assoc] at hp
  simp only [List.mem_cons, List.mem_append, List.map_cons, List.map_nil, List.not_mem_nil, or_false] at hp hb
  rcases hp with hp | hp | hp | (hp | hp) | hp
  · exact hb p (.inl hp)
  · exact hb p (.inr (.inl hp))
  · exact hb p (.inr (.inr (.inl hp)))
  · exact hb p (.inr (.inr (.inr (.inl hp))))
  · exact hb p (.inr (.inr (.inr (.inr hp))))
  · rw [hp]; exact hx
noncomputable abbrev tupD (k : Int) : PyData := .tuple [.str (Str.ofString "host"), .int k]
theorem depth_tups : ∀ ks : List Int, PyData.depthAll (ks.map tupD) ≤ 1
  | [] => by simp [PyData.depthAll]
  | k :: r => by
    have := depth_tups r
    simp only [List.map_cons, PyData.depthAll, PyData.depth]
    omega
theorem lay_tups : ∀ ks : List Int, PyData.canLayAll0 (ks.map tupD) = true
  | [] => rfl
  | k :: r => by
    have := lay_tups r
    have e : PyData.strOk (Str.ofString "host") = true := by decide +kernel
    simp only [List.map_cons, PyData.canLayAll0, PyData.canLay0, this, e, Bool.and_true]
theorem shaped_tups (ks : List Int) : shaped (.list (ks.map tupD)) = true := by
  unfold shaped
  rw [Bool.and_eq_true_iff]
  refine ⟨lay_tups ks, ?_⟩
  have := depth_tups ks
  refine decide_eq_true ?_
  rw [PyData.depth]
  exact Nat.le_trans (Nat.succ_le_succ this) (by decide)
theorem eqv_tups : ∀ xs ys : List Int, PyData.eqvAll (xs.map tupD) (ys.map tupD) = decide (xs = ys)
  | [], [] => by simp [PyData.eqvAll]
  | [], _ :: _ => by simp [PyData.eqvAll]
  | _ :: _, [] => by simp [PyData.eqvAll]
  | a :: r, b :: t => by
    simp only [List.map_cons, PyData.eqvAll, PyData.eqv, eqv_tups r t]
    by_cases h : a = b <;> by_cases h' : r = t <;> simp [h, h']
theorem reads_tups {l : List TupR} {news : Led} (N : News h₀ L h news) : (∀ x ∈ l, x.e ∈ news) → ∃ as, ReadsAll h (l.map (·.v)) ((l.map (·.k)).map tupD) as := by
  induction l with
  | nil => exact fun _ => ⟨[], .nil⟩
  | cons x r ih =>
    intro hm
    obtain ⟨as, ha⟩ := ih fun y hy => hm y (List.mem_cons_of_mem _ hy)
    exact ⟨_, .cons (.tuple (N _ (hm x List.mem_cons_self)).1 rfl rfl (.cons (.str _ _) (.cons (.int _ _) .nil))) ha⟩
theorem ne_tups {l1 l2 : List TupR} {news : Led} {n1 n2 : Nat} (N : News h₀ L s.heap news) (ha : (a, W.listOf (l1.map (·.v)).toArray n1) ∈ news) (hb : (b, W.listOf (l2.map (·.v)).toArray n2) ∈ news) (m1 : ∀ x ∈ l1, x.e ∈ news) (m2 : ∀ x ∈ l2, x.e ∈ news)
    (hu : A.units + 64 < cLine) (he : l1.map (·.k) = l2.map (·.k)) (h : Q (.bool false) s) : wpAny (model prog w) A (compareOp .NotEq (.ref a) (.ref b)) Q E s := by
  obtain ⟨as, r1⟩ := reads_tups N m1
  obtain ⟨bs, r2⟩ := reads_tups N m2
  refine ne_dataH (reads_list_at (N _ ha).1 rfl rfl r1) (reads_list_at (N _ hb).1 rfl rfl r2) (shaped_tups _) (shaped_tups _) hu ?_
  show Q (.bool (!PyData.eqvAll _ _)) s
  rw [eqv_tups, he]
  simpa using h
/-- an entry of the ledger that is told once more, ahead -/
theorem News.dup {news : Led} {q : Addr × Obj} (N : News h₀ L h news) (hq : q ∈ news) : News h₀ L h (q :: news) := fun r hr => by
  rcases List.mem_cons.mp hr with rfl | hr
  · exact N _ hq
  · exact N r hr
theorem News.less {news news' : Led} (N : News h₀ L h news) (hs : ∀ q ∈ news', q ∈ news) : News h₀ L h news' := fun q hq => N q (hs q hq)
theorem News.cut {news : Led} (N : News h₀ L h news) (n : Nat) : News h₀ L h (news.eraseIdx n) := fun q hq => N q (List.mem_of_mem_eraseIdx hq)
theorem News.upto {news : Led} (N : News h₀ L h news) (n : Nat) : News h₀ L h (news.take n) := fun q hq => N q (List.mem_of_mem_take hq)
theorem tups_all {l : List TupR} {lo c : Nat} (h : ∀ x ∈ l, @LT.lt Nat _ lo x.q) (hc : c ≤ lo) : ∀ p ∈ l.map (·.e), p.1 ≠ c := fun p hp => by
  obtain ⟨x, hx, rfl⟩ := List.mem_map.mp hp
  have := h x hx
  dsimp only
  exact fun e => Nat.lt_irrefl c (Nat.lt_of_le_of_lt hc (e ▸ this))
end
end

section
open PySem PySem.W PySem.Calls PySem.Spec PyProof.Rows
set_option Elab.async false
set_option maxRecDepth 100000
theorem orderN (ns : List Int) : ∀ n, ((List.range n).foldl (fun o i => insF o (placeF ns i) (i : Int)) []).length = n ∧ ∀ d ∈ (List.range n).foldl (fun o i => insF o (placeF ns i) (i : Int)) [], 0 ≤ d ∧ d < (n : Int) := by
  intro n
  induction n with
  | zero => exact ⟨rfl, fun d hd => nomatch hd⟩
  | succ n ih =>
    rw [List.range_succ, List.foldl_append]
    simp only [List.foldl_cons, List.foldl_nil]
    generalize (List.range n).foldl (fun o i => insF o (placeF ns i) (i : Int)) [] = o at ih
    obtain ⟨h1, h2⟩ := ih
    unfold insF
    refine ⟨?_, fun d hd => ?_⟩
    · simp only [List.length_append, List.length_take, List.length_cons, List.length_nil, List.length_drop]
      omega
    · simp only [List.mem_append, List.mem_cons, List.not_mem_nil, or_false] at hd
      rcases hd with (hd | hd) | hd
      · have := h2 d (List.mem_of_mem_take hd); omega
      · omega
      · have := h2 d (List.mem_of_mem_drop hd); omega
theorem order_len (ns : List Int) : (orderF ns).length = ns.length := (orderN ns _).1
theorem order_range (ns : List Int) : ∀ d ∈ orderF ns, 0 ≤ d ∧ d < ((ns.length : Nat) : Int) := (orderN ns _).2
noncomputable abbrev portsF (ds : List Int) : List Int := (orderF ds).map fun i => baseF ds + i
theorem portsF_succ {ds : List Int} {i : Nat} {o : Int} (h : (orderF ds)[i]? = some o) : ((orderF ds).take i).map (fun i => baseF ds + i) ++ [baseF ds + o] = ((orderF ds).take (i + 1)).map fun i => baseF ds + i := by
  rw [List.take_add_one, h, List.map_append]; rfl
theorem word_at {ds : List Int} {n : Nat} {o : Int} (h0 : 0 ≤ o) (h1 : o < (n : Int)) : (repliesF ds n ++ [Str.empty]).getD o.toNat Str.empty = replyF ds o := by
  obtain ⟨k, rfl⟩ := Int.eq_ofNat_of_zero_le h0
  have hk : k < n := by omega
  show (repliesF ds n ++ [Str.empty]).getD k Str.empty = _
  rw [List.getD_eq_getElem?_getD, List.getElem?_append_left (by rw [List.length_map, List.length_range]; exact hk), ← List.getD_eq_getElem?_getD]
  exact replies_get hk
theorem tup_at {l : List TupR} {i : Nat} {v : Value} (e : (l.map (·.v)).toArray[i]? = some v) : ∃ x, x ∈ l ∧ l[i]? = some x ∧ v = x.v := by
  rw [List.getElem?_toArray, List.getElem?_map] at e
  cases h : l[i]? with
  | none => rw [h] at e; cases e
  | some x => rw [h] at e; exact ⟨x, List.mem_of_getElem? h, rfl, (Option.some.inj e).symm⟩
theorem tup_full {l : List TupR} {ds : List Int} {zs : List Value} (h : l.map (·.k) = ((orderF ds).take zs.toArray.size).map fun i => baseF ds + i) (hO : IntsAre zs (orderF ds)) : l.map (·.k) = portsF ds := by
  rw [h, List.size_toArray, hO.length, List.take_of_length_le (Nat.le_refl _)]
theorem ports_snoc {l : List TupR} {ps : List Int} (h : l.map (·.k) = ps) {i : Nat} {x : TupR} (hx : l[i]? = some x) {zs : List Value} {t : Tok} (hz : IntsAre zs (ps.take i)) : IntsAre (zs ++ [Value.int x.k t]) (ps.take (i + 1)) := by
  rw [List.take_add_one, ← h, List.getElem?_map, hx]
  rw [← h] at hz
  exact IntsAre.append hz (.cons _ _ .nil)
theorem range1_facts {n : Nat} (h : n ≤ 6) : Builtin.Range.small 1 ((n : Int) + 1) 1 = true ∧ Builtin.Range.rangeSize 1 ((n : Int) + 1) 1 = (n : Int) := by
  have : n = 0 ∨ n = 1 ∨ n = 2 ∨ n = 3 ∨ n = 4 ∨ n = 5 ∨ n = 6 := by omega
  rcases this with rfl | rfl | rfl | rfl | rfl | rfl | rfl <;> decide +kernel
end

section
open PySem PySem.W PySem.Calls PySem.Spec PyProof.Rows
set_option Elab.async false
set_option maxRecDepth 100000
/-- greatest less least -/
noncomputable def gapF (l : List Int) : Int := l.foldl max (l.headD 0) - l.foldl min (l.headD 0)
theorem foldl_max {M : Int} : ∀ (l : List Int) (a : Int), (∀ x ∈ l, x ≤ M) → a ≤ M → (a = M ∨ M ∈ l) → l.foldl max a = M
  | [], a, _, _, h => by rcases h with h | h; exact h; cases h
  | x :: r, a, hl, ha, h => by
    have hx := hl x List.mem_cons_self
    refine foldl_max r (max a x) (fun y hy => hl y (List.mem_cons_of_mem _ hy)) (by omega) ?_
    rcases h with h | h
    · exact .inl (by omega)
    · rcases List.mem_cons.mp h with h | h
      · exact .inl (by omega)
      · exact .inr h
theorem foldl_min {M : Int} : ∀ (l : List Int) (a : Int), (∀ x ∈ l, M ≤ x) → M ≤ a → (a = M ∨ M ∈ l) → l.foldl min a = M
  | [], a, _, _, h => by rcases h with h | h; exact h; cases h
  | x :: r, a, hl, ha, h => by
    have hx := hl x List.mem_cons_self
    refine foldl_min r (min a x) (fun y hy => hl y (List.mem_cons_of_mem _ hy)) (by omega) ?_
    rcases h with h | h
    · exact .inl (by omega)
    · rcases List.mem_cons.mp h with h | h
      · exact .inl (by omega)
      · exact .inr h
theorem gap_is {l : List Int} {M m : Int} (hM : M ∈ l) (bM : ∀ a ∈ l, a ≤ M) (hm : m ∈ l) (bm : ∀ a ∈ l, m ≤ a) : gapF l = M - m := by
  unfold gapF
  have hh : l.headD 0 ∈ l := by
    cases l with
    | nil => cases hM
    | cons x r => exact List.mem_cons_self
  rw [foldl_max l _ bM (bM _ hh) (.inr hM), foldl_min l _ bm (bm _ hh) (.inr hm)]
noncomputable abbrev nearP (ps : List Int) (j : Int) : Bool := gapF (ps.take j.toNat) != j - 1
theorem near_yes {ps : List Int} {j M m : Int} (h : M - m ≠ j - 1) (hM : M ∈ ps.take j.toNat) (hm : m ∈ ps.take j.toNat) (bM : ∀ a ∈ ps.take j.toNat, a ≤ M) (bm : ∀ a ∈ ps.take j.toNat, m ≤ a) : nearP ps j = true := by
  unfold nearP
  rw [gap_is hM bM hm bm]
  simpa using h
theorem near_no {ps : List Int} {j M m : Int} (h : M - m = j - 1) (hM : M ∈ ps.take j.toNat) (hm : m ∈ ps.take j.toNat) (bM : ∀ a ∈ ps.take j.toNat, a ≤ M) (bm : ∀ a ∈ ps.take j.toNat, m ≤ a) : nearP ps j = false := by
  unfold nearP
  rw [gap_is hM bM hm bm]
  simpa using h
/-- the numbers a, a + 1 .. that a test lets through -/
noncomputable def filtR (a : Int) (p : Int → Bool) (i : Nat) : List Int := ((List.range i).map fun (k : Nat) => a + (k : Int)).filter p
theorem filt_yes {a : Int} {p : Int → Bool} {i : Nat} {zs : List Value} {t : Tok} (h : IntsAre zs (filtR a p i)) (hp : p (a + (i : Int)) = true) : IntsAre (zs ++ [Value.int (a + (i : Int)) t]) (filtR a p (i + 1)) := by
  unfold filtR
  rw [List.range_succ, List.map_append, List.filter_append]
  refine IntsAre.append h ?_
  simp only [List.map_cons, List.map_nil, List.filter_cons, List.filter_nil, hp, if_true]
  exact .cons _ _ .nil
theorem filt_no {a : Int} {p : Int → Bool} {i : Nat} {zs : List Value} (h : IntsAre zs (filtR a p i)) (hp : p (a + (i : Int)) = false) : IntsAre zs (filtR a p (i + 1)) := by
  unfold filtR
  rw [List.range_succ, List.map_append, List.filter_append]
  simp only [List.map_cons, List.map_nil, List.filter_cons, List.filter_nil, hp]
  rw [if_neg (by decide), List.append_nil]
  exact h
theorem filt_zero {a : Int} {p : Int → Bool} : IntsAre [] (filtR a p 0) := .nil
noncomputable def unlikeF (ps : List Int) (j : Int) : Bool := decide (∀ d ∈ ps, (ps.map (·.fmod j)).count (d.fmod j) = 1)
noncomputable abbrev frontP (ps : List Int) (j : Int) : Bool := !unlikeF (ps.take j.toNat) j
theorem front_no {ps : List Int} {j : Int} (h : ∀ d ∈ ps.take j.toNat, ((ps.take j.toNat).map (·.fmod j)).count (d.fmod j) = 1) : frontP ps j = false := by
  unfold frontP unlikeF
  rw [decide_eq_true h]; rfl
theorem front_yes {ps : List Int} {j : Int} (h : ¬ ∀ d ∈ ps.take j.toNat, ((ps.take j.toNat).map (·.fmod j)).count (d.fmod j) = 1) : frontP ps j = true := by
  unfold frontP unlikeF
  rw [decide_eq_false h]; rfl
noncomputable abbrev comesP (ds : List Int) (cut : Int) : Bool := comesG (repliesF ds ds.length) (orderF ds) (((repliesF ds ds.length).take cut.toNat).reverse ++ [Str.empty]) ((repliesF ds ds.length).drop cut.toNat ++ [Str.empty])
section
variable {prog : Program} {w : World} {A : Around} {E : Value → Shared → Prop} {s : Shared} {h₀ : Heap} {L : Addr} {m : Str → Option Value} {news : Led}
theorem ne_ints_same {a b : Addr} {xs ys : List Value} {k k2 : Nat} {ns ms : List Int} {Q : Value → Shared → Prop} (N : News h₀ L s.heap news) (ha : (a, W.listOf xs.toArray k) ∈ news) (hb : (b, W.listOf ys.toArray k2) ∈ news) (hi : IntsAre xs ns) (hj : IntsAre ys ms) (e : ns = ms) (hu : A.units + 64 < cLine) (h : Q (.bool false) s) :
    wpAny (model prog w) A (compareOp .NotEq (.ref a) (.ref b)) Q E s :=
  ke_ne_ints (is_list N ha) (is_list N hb) hi hj hu (by subst e; simpa using h)
/-- a test whose ways meet again -/
theorem join_here {α : Type} {t : Sem α} (v : α) {Q : α → Shared → Prop} (_F : Fr h₀ L s.heap m) (_N : News h₀ L s.heap news)
    (h1 : wpAny (model prog w) A t (fun f s' => f = v ∧ ∃ h' tk', s' = { s with heap := h', toks := tk' } ∧ Fr h₀ L h' m ∧ News h₀ L h' news) E s)
    (h2 : ∀ h' tk', Fr h₀ L h' m → News h₀ L h' news → Q v { s with heap := h', toks := tk' }) : wpAny (model prog w) A t Q E s :=
  wpAny_mono h1 (fun f s' ⟨e, h', tk', e2, F', N'⟩ => by subst e; subst e2; exact h2 h' tk' F' N') fun _ _ e => e
end
end

section
open PySem PySem.W PySem.Calls PySem.Spec PyProof.Rows
set_option Elab.async false
set_option maxRecDepth 100000
set_option linter.unusedSectionVars false
section
variable {prog : Program} {w : World} {A : Around} {E : Value → Shared → Prop} {R : Result → Shared → Prop} {s : Shared}
  {elt iter1 iter2 ct : PySem.Expr} {x y : Str} {px py : Pos} {scope : Scope} {pos : Pos} {it acc : Value} {env : Env}
noncomputable abbrev twoE (elt iter1 iter2 ct : PySem.Expr) (x y : Str) (px py : Pos) (scope : Scope) (pos : Pos) : PySem.Expr := .ListComp elt [⟨.Name x px, iter1, [], 0⟩, ⟨.Name y py, iter2, [ct], 0⟩] scope pos
theorem turn_two0 : compTurn (twoE elt iter1 iter2 ct x y px py scope pos) 0 it acc env = (do
      standAt iter1.pos
      match ← pyNext it with
      | none => pure (.done .next)
      | some v =>
        letOwnedTupleGo (.Name x px) it v
        assign (.Name x px) env v
        let xv ← eval iter2 env
        standAt iter2.pos
        let xv2 ← foldedSetIterable iter2 env xv
        let i2 ← holding [xv2] (pyIter xv2)
        let _ ← runOwn (.compStart (twoE elt iter1 iter2 ct x y px py scope pos) 1 i2 acc env) env
        again (.compLoop (twoE elt iter1 iter2 ct x y px py scope pos) 0 it acc env)) := by rfl
theorem turn_two1 : compTurn (twoE elt iter1 iter2 ct x y px py scope pos) 1 it acc env = (do
      standAt iter2.pos
      match ← pyNext it with
      | none => pure (.done .next)
      | some v =>
        letOwnedTupleGo (.Name y py) it v
        assign (.Name y py) env v
        let mut ok := true
        for c in [ct] do
          if ok then ok ← isTrue c env (eval c env)
        if ok then
          (do let _ ← call (.builtin "list.append") [acc, ← eval elt env])
        again (.compLoop (twoE elt iter1 iter2 ct x y px py scope pos) 1 it acc env)) := by rfl
theorem mark_none : A.mark none = A := by cases A; rfl
noncomputable abbrev EN (prog : Program) (w : World) (A : Around) (env : Env) (R : Result → Shared → Prop) : Value → Shared → Prop := notedBy (model prog w) A env fun e s' => R (.error e) s'
theorem loop_two1 (I : Nat → Shared → Prop)
    (turn : ∀ n s, I n s → wpAny (model prog w) A (pyNext it) (fun r s₁ => match r with
      | none => R (.ok .next) s₁
      | some v => wpAny (model prog w) A (assign (.Name y py) env v) (fun _ s₂ =>
          wpAny (model prog w) A (isTrue ct env (eval ct env)) (fun ok s₃ =>
            if ok = true then wpAny (model prog w) A (eval elt env) (fun x s₄ =>
              wpAny (model prog w) A (call (.builtin "list.append") [acc, x]) (fun _ s₅ => ∃ m, m < n ∧ I m s₅) (EN prog w A env R) s₄) (EN prog w A env R) s₃
            else ∃ m, m < n ∧ I m s₃) (EN prog w A env R) s₂) (EN prog w A env R) s₁) (EN prog w A env R) s)
    (n : Nat) (h : I n s) : codeAny (model prog w) A (.compLoop (twoE elt iter1 iter2 ct x y px py scope pos) 1 it acc env) R s := by
  refine codeAny_loop rfl I (fun n s hI => ?_) n h
  show wpAny _ A ((compTurn (twoE elt iter1 iter2 ct x y px py scope pos) 1 it acc env).onRaise (fun x => do noteFrame x env; theTreesLotGoes x)) _ _ s
  refine wpAny_noted ?_
  rw [turn_two1]
  refine wpAny_bind (wpAny_standAt (wpAny_bind (wpAny_mono (turn n s hI) (fun r s₁ h₁ => ?_) fun _ _ h' => h')))
  cases r with
  | none => exact wpAny_pure h₁
  | some v =>
    refine wpAny_bind (wpAny_of_eq (a := ()) rfl ?_)
    refine wpAny_bind (wpAny_mono h₁ (fun _ s₂ h₂ => wpAny_bind (wpAny_tests_one (wpAny_mono h₂ (fun ok s₃ h₃ => ?_) fun _ _ h' => h'))) fun _ _ h' => h')
    cases ok with
    | false => exact wpAny_pure ⟨rfl, h₃⟩
    | true =>
      exact wpAny_bind (wpAny_bind (wpAny_mono h₃ (fun x s₄ h₄ => wpAny_bind (wpAny_mono h₄ (fun _ s₅ h₅ => wpAny_pure (wpAny_pure ⟨rfl, h₅⟩)) fun _ _ h' => h')) fun _ _ h' => h'))
theorem start_two1 (h0 : codeAny (model prog w) A (.compLoop (twoE elt iter1 iter2 ct x y px py scope pos) 1 it acc env) R s)
    (h : wpAny (model prog w) A (pyIter it) (fun it' s' => codeAny (model prog w) A (.compLoop (twoE elt iter1 iter2 ct x y px py scope pos) 1 it' acc env) R s') (EN prog w A env R) s) :
    codeAny (model prog w) A (.compStart (twoE elt iter1 iter2 ct x y px py scope pos) 1 it acc env) R s := by
  refine codeAny_of_tree ?_
  show wpAny _ _ ((compStart (twoE elt iter1 iter2 ct x y px py scope pos) 1 it acc env).onRaise (fun x => do noteFrame x env; standAt theWindowsPlace)) _ _ s
  refine wpAny_notedAt ?_
  unfold compStart
  show wpAny _ _ (ask >>= _) _ _ s
  refine wpAny_bind (wpAny_askSetting (wpAny_ite ?_))
  split
  · first
      | exact wpAny_bind (wpAny_pure (wpAny_pure (And.intro rfl h0)))
      | exact wpAny_pure (And.intro rfl h0)
  · refine wpAny_bind (wpAny_rule ?_)
    show wpAny _ _ (standAt iter2.pos >>= _) _ _ s
    exact wpAny_bind (wpAny_standAt (wpAny_bind (wpAny_mono h (fun it' s' h' => wpAny_pure (And.intro rfl h')) fun _ _ x => x)))
theorem loop_two0 (I : Nat → Shared → Prop) (hs2 : ∀ v, foldedSetIterable iter2 env v = pure v)
    (turn : ∀ n s, I n s → wpAny (model prog w) A (pyNext it) (fun r s₁ => match r with
      | none => R (.ok .next) s₁
      | some v => wpAny (model prog w) A (assign (.Name x px) env v) (fun _ s₂ =>
          wpAny (model prog w) A (eval iter2 env) (fun xv s₃ =>
            wpAny (model prog w) A (pyIter xv) (fun i2 s₄ =>
              codeAny (model prog w) A (.compStart (twoE elt iter1 iter2 ct x y px py scope pos) 1 i2 acc env) (fun r s₅ => (∃ f, r = .ok f) ∧ ∃ m, m < n ∧ I m s₅) s₄) (EN prog w A env R) s₃) (EN prog w A env R) s₂) (EN prog w A env R) s₁) (EN prog w A env R) s)
    (n : Nat) (h : I n s) : codeAny (model prog w) A (.compLoop (twoE elt iter1 iter2 ct x y px py scope pos) 0 it acc env) R s := by
  refine codeAny_loop rfl I (fun n s hI => ?_) n h
  show wpAny _ A ((compTurn (twoE elt iter1 iter2 ct x y px py scope pos) 0 it acc env).onRaise (fun x => do noteFrame x env; theTreesLotGoes x)) _ _ s
  refine wpAny_noted ?_
  rw [turn_two0]
  refine wpAny_bind (wpAny_standAt (wpAny_bind (wpAny_mono (turn n s hI) (fun r s₁ h₁ => ?_) fun _ _ h' => h')))
  cases r with
  | none => exact wpAny_pure h₁
  | some v =>
    refine wpAny_bind (wpAny_of_eq (a := ()) rfl ?_)
    refine wpAny_bind (wpAny_mono h₁ (fun _ s₂ h₂ => ?_) fun _ _ h' => h')
    refine wpAny_bind (wpAny_mono h₂ (fun xv s₃ h₃ => ?_) fun _ _ h' => h')
    refine wpAny_bind (wpAny_standAt ?_)
    refine wpAny_bind (wpAny_of_eq (hs2 xv) ?_)
    refine wpAny_bind (wpAny_holding (wpAny_mono h₃ (fun i2 s₄ h₄ => ?_) fun _ _ h' => h'))
    refine wpAny_bind (wpAny_runOwn ?_)
    rw [mark_none]
    refine codeAny_mono h₄ fun r s₅ h₅ => ?_
    obtain ⟨⟨f, rfl⟩, h₅⟩ := h₅
    exact wpAny_pure ⟨rfl, h₅⟩
end
end

section
open PySem PySem.W PySem.Calls PySem.Spec PyProof.Rows
set_option Elab.async false
set_option maxRecDepth 100000
set_option linter.unusedSectionVars false
section
variable {prog : Program} {w : World} {A : Around} {E : Value → Shared → Prop} {s : Shared} {h₀ : Heap} {L : Addr} {m : Str → Option Value} {env : Env}
noncomputable def End2 (h₀ : Heap) (L : Addr) (m : Str → Option Value) (s₁ : Shared) (all : Led) (P : Value → Prop) (y : Value) (s' : Shared) : Prop :=
  ∃ h' tk', s' = { s₁ with heap := h', toks := tk' } ∧ Fr h₀ L h' m ∧ News h₀ L h' all ∧ P y
theorem End2.intro {s₁ : Shared} {all big : Led} {P : Value → Prop} {y : Value} {h' : Heap} {tk' : Nat} (F : Fr h₀ L h' m) (N : News h₀ L h' big) (sub : ∀ q ∈ all, q ∈ big) (p : P y) : End2 h₀ L m s₁ all P y { s₁ with heap := h', toks := tk' } :=
  ⟨h', tk', rfl, F, fun q hq => N q (sub q hq), p⟩
noncomputable def InTurns (prog : Program) (w : World) (A : Around) (h₀ : Heap) (L : Addr) (m : Str → Option Value) (env : Env) (elt ct : PySem.Expr) (x y : Str) (scope : Scope) (cl : List (Str × Addr)) (s₁ : Shared) (news : Led) (I : Addr) (oI : Obj) (C D : Addr) (vx : Value) (a2 c2 : Int) (n2 : Nat) (JJ : Nat → List Value → Prop) : Prop :=
  ∀ k ys, k < n2 → JJ k ys → ∀ I2 oI2 oC m₃ h tk t (E' : Value → Shared → Prop), LCg.NsObj oC m₃ → m₃ x = some vx → m₃ y = some (.int (a2 + (k : Int) * c2) t) → Fr h₀ L h m → News h₀ L h ((I2, oI2) :: (I, oI) :: (C, oC) :: (D, LCg.lst ys) :: news) →
    wpAny (model prog w) A (isTrue ct (compEnvC scope cl C env) (eval ct (compEnvC scope cl C env))) (fun ok s' => if ok = true then
      wpAny (model prog w) A (eval elt (compEnvC scope cl C env)) (End2 h₀ L m s₁ ((I2, oI2) :: (I, oI) :: (C, oC) :: (D, LCg.lst ys) :: news) fun v => JJ (k + 1) (ys ++ [v])) E' s'
      else End2 h₀ L m s₁ ((I2, oI2) :: (I, oI) :: (C, oC) :: (D, LCg.lst ys) :: news) (fun _ => JJ (k + 1) ys) Value.none s') E' { s₁ with heap := h, toks := tk }
noncomputable def InSrc (prog : Program) (w : World) (A : Around) (h₀ : Heap) (L : Addr) (m : Str → Option Value) (env : Env) (elt ct : PySem.Expr) (x y : Str) (scope : Scope) (cl : List (Str × Addr)) (s₁ : Shared) (news : Led) (I : Addr) (oI : Obj) (C : Addr) (oC : Obj) (D : Addr) (ys : List Value) (vx : Value) (J : List Value → Prop) (xv : Value) (s₂ : Shared) : Prop :=
  ∃ r2 a2 b2 c2 t2 u2 v2 n2, ∃ JJ : Nat → List Value → Prop, ∃ h' tk', xv = .ref r2 ∧ s₂ = { s₁ with heap := h', toks := tk' } ∧ Fr h₀ L h' m ∧ News h₀ L h' ((I, oI) :: (C, oC) :: (D, LCg.lst ys) :: news) ∧ IsRange h' r2 a2 b2 c2 t2 u2 v2 ∧ Builtin.Range.small a2 b2 c2 = true ∧
    Builtin.Range.rangeSize a2 b2 c2 = ((n2 : Nat) : Int) ∧ JJ 0 ys ∧ (∀ k ys, JJ k ys → ys.length ≤ 1000) ∧ (∀ ys, JJ n2 ys → J ys) ∧ InTurns prog w A h₀ L m env elt ct x y scope cl s₁ news I oI C D vx a2 c2 n2 JJ
theorem InSrc.intro {elt ct : PySem.Expr} {x y : Str} {scope : Scope} {cl : List (Str × Addr)} {s₁ : Shared} {news big : Led} {I : Addr} {oI : Obj} {C : Addr} {oC : Obj} {D : Addr} {ys : List Value} {vx : Value} {J : List Value → Prop} {r2 : Addr} {a2 b2 c2 : Int} {t2 u2 v2 : Tok} {n2 : Nat} {h' : Heap} {tk' : Nat}
    (JJ : Nat → List Value → Prop) (F : Fr h₀ L h' m) (N : News h₀ L h' big) (sub : ∀ q ∈ (I, oI) :: (C, oC) :: (D, LCg.lst ys) :: news, q ∈ big) (hr : IsRange h' r2 a2 b2 c2 t2 u2 v2) (hsm : Builtin.Range.small a2 b2 c2 = true) (hn : Builtin.Range.rangeSize a2 b2 c2 = ((n2 : Nat) : Int))
    (j0 : JJ 0 ys) (jl : ∀ k ys, JJ k ys → ys.length ≤ 1000) (je : ∀ ys, JJ n2 ys → J ys) (turns : InTurns prog w A h₀ L m env elt ct x y scope cl s₁ news I oI C D vx a2 c2 n2 JJ) :
    InSrc prog w A h₀ L m env elt ct x y scope cl s₁ news I oI C oC D ys vx J (.ref r2) { s₁ with heap := h', toks := tk' } :=
  ⟨r2, a2, b2, c2, t2, u2, v2, n2, JJ, h', tk', rfl, rfl, F, fun q hq => N q (sub q hq), hr, hsm, hn, j0, jl, je, turns⟩
noncomputable def TwoSrc (prog : Program) (w : World) (A : Around) (h₀ : Heap) (L : Addr) (m : Str → Option Value) (env : Env) (elt iter2 ct : PySem.Expr) (x y : Str) (scope : Scope) (cl : List (Str × Addr)) (Q : Value → Shared → Prop) (xv : Value) (s₁ : Shared) : Prop :=
  ∃ r a b t u v n news, ∃ J : Nat → List Value → Prop, xv = .ref r ∧ A.handled = none ∧ Fr h₀ L s₁.heap m ∧ News h₀ L s₁.heap news ∧ IsRange s₁.heap r a b 1 t u v ∧ Builtin.Range.small a b 1 = true ∧ Builtin.Range.rangeSize a b 1 = ((n : Nat) : Int) ∧ J 0 [] ∧
    (∀ i ys, i < n → J i ys → ∀ I oI C oC D m₂ h tk t (E' : Value → Shared → Prop), LCg.NsObj oC m₂ → m₂ x = some (.int (a + (i : Int)) t) → Fr h₀ L h m → News h₀ L h ((I, oI) :: (C, oC) :: (D, LCg.lst ys) :: news) →
      wpAny (model prog w) A (eval iter2 (compEnvC scope cl C env)) (InSrc prog w A h₀ L m env elt ct x y scope cl s₁ news I oI C oC D ys (.int (a + (i : Int)) t) (J (i + 1))) E' { s₁ with heap := h, toks := tk }) ∧
    ∀ ys, J n ys → LCg.FinE h₀ L m s₁ Q ys news
theorem TwoSrc.intro {elt iter2 ct : PySem.Expr} {x y : Str} {scope : Scope} {cl : List (Str × Addr)} {Q : Value → Shared → Prop} {r : Addr} {a b : Int} {t u v : Tok} {n : Nat} {news : Led} {s₁ : Shared} (J : Nat → List Value → Prop)
    (hh : A.handled = none) (F : Fr h₀ L s₁.heap m) (N : News h₀ L s₁.heap news) (hr : IsRange s₁.heap r a b 1 t u v) (hsm : Builtin.Range.small a b 1 = true) (hn : Builtin.Range.rangeSize a b 1 = ((n : Nat) : Int)) (j0 : J 0 [])
    (turn : ∀ i ys, i < n → J i ys → ∀ I oI C oC D m₂ h tk t (E' : Value → Shared → Prop), LCg.NsObj oC m₂ → m₂ x = some (.int (a + (i : Int)) t) → Fr h₀ L h m → News h₀ L h ((I, oI) :: (C, oC) :: (D, LCg.lst ys) :: news) →
      wpAny (model prog w) A (eval iter2 (compEnvC scope cl C env)) (InSrc prog w A h₀ L m env elt ct x y scope cl s₁ news I oI C oC D ys (.int (a + (i : Int)) t) (J (i + 1))) E' { s₁ with heap := h, toks := tk })
    (fin : ∀ ys, J n ys → LCg.FinE h₀ L m s₁ Q ys news) : TwoSrc prog w A h₀ L m env elt iter2 ct x y scope cl Q (.ref r) s₁ := ⟨r, a, b, t, u, v, n, news, J, rfl, hh, F, N, hr, hsm, hn, j0, turn, fin⟩

theorem inner_block {elt iter1 iter2 ct : PySem.Expr} {x y : Str} {px py : Pos} {scope : Scope} {cl : List (Str × Addr)} {pos : Pos} {R : Result → Shared → Prop} {s₁ : Shared} {news : Led} {I C D : Addr} {oI : Obj} {vx : Value} {a2 b2 c2 : Int} {n2 : Nat} {JJ : Nat → List Value → Prop} {h' : Heap} {tk' : Nat} {m₂ : Str → Option Value} {ys : List Value} {r2 : Addr} {t2 u2 v2 : Tok}
    (hkind : scope.kind = .function) (hy : scope.names.lookup y = some .local) (hxy : x ≠ y) (hh : A.handled = none)
    (F : Fr h₀ L h' m) (N : News h₀ L h' ((I, oI) :: (D, LCg.lst ys) :: news)) (hns : h'.Ns C m₂) (hvx : m₂ x = some vx) (hr : IsRange h' r2 a2 b2 c2 t2 u2 v2) (hsm : Builtin.Range.small a2 b2 c2 = true) (hn2 : Builtin.Range.rangeSize a2 b2 c2 = ((n2 : Nat) : Int))
    (hCL : C ≠ L) (hC₀ : h₀.get? C = none) (hIC : I ≠ C) (hID : I ≠ D) (hDC : D ≠ C) (off : ∀ p ∈ news, p.1 ≠ C ∧ p.1 ≠ D)
    (j0 : JJ 0 ys) (jl : ∀ k ys, JJ k ys → ys.length ≤ 1000) (turns : InTurns prog w A h₀ L m env elt ct x y scope cl s₁ news I oI C D vx a2 c2 n2 JJ)
    (fin : ∀ ys h tk m₃, JJ n2 ys → Fr h₀ L h m → News h₀ L h ((I, oI) :: (D, LCg.lst ys) :: news) → h.Ns C m₃ → R (.ok .next) { s₁ with heap := h, toks := tk }) :
    wpAny (model prog w) A (pyIter (.ref r2)) (fun i2 s₄ => codeAny (model prog w) A (.compStart (twoE elt iter1 iter2 ct x y px py scope pos) 1 i2 (.ref D) (compEnvC scope cl C env)) R s₄) E { s₁ with heap := h', toks := tk' } := by
  refine wpAny_pyIter_range (s := { s₁ with heap := h', toks := tk' }) hr hsm ?_
  dsimp only
  have up : ∀ b o, h'.get? b = some o → (h'.push { cls := .type "range_iterator", data := .fields #[rawInt a2, rawInt (Builtin.Range.rangeSize a2 b2 c2), rawInt c2] }).get? b = some o := fun b o e => Heap.get?_push_of_some _ e
  have hit : IsRangeIter (h'.push { cls := .type "range_iterator", data := .fields #[rawInt a2, rawInt (Builtin.Range.rangeSize a2 b2 c2), rawInt c2] }) h'.objs.size (a2 + ((0 : Nat) : Int) * c2) ((n2 : Int) - ((0 : Nat) : Int)) c2 := by
    show (h'.push _).get? _ = some _
    rw [hn2]
    simpa using Heap.get?_push_size h' rfl
  have F1 : Fr h₀ L (h'.push { cls := .type "range_iterator", data := .fields #[rawInt a2, rawInt (Builtin.Range.rangeSize a2 b2 c2), rawInt c2] }) m := F.keeps up
  have N1 := N.grown up
  have hns1 := hns.at' fun o e => up _ o e
  have lt : ∀ b o, h'.get? b = some o → b ≠ h'.objs.size := fun b o e => Nat.ne_of_lt (Heap.lt_size e)
  have hI2L : L ≠ h'.objs.size := Nat.ne_of_lt F.ns.lt
  have hI2₀ : h₀.get? h'.objs.size = none := by
    cases e : h₀.get? h'.objs.size with
    | none => rfl
    | some o => exact absurd (Heap.lt_size (F.keep _ o e)) (Nat.lt_irrefl _)
  have hCI2 : C ≠ h'.objs.size := Nat.ne_of_lt hns.lt
  have offI2 : ∀ p ∈ (I, oI) :: (D, LCg.lst ys) :: news, p.1 ≠ h'.objs.size := fun p hp => lt _ _ (N p hp).1
  generalize h'.push { cls := .type "range_iterator", data := .fields #[rawInt a2, rawInt (Builtin.Range.rangeSize a2 b2 c2), rawInt c2] } = H at hit F1 N1 hns1 ⊢
  generalize h'.objs.size = I2 at hit hI2L hI2₀ hCI2 offI2 ⊢
  have hII2 : I ≠ I2 := offI2 _ List.mem_cons_self
  have hDI2 : D ≠ I2 := offI2 _ (List.mem_cons_of_mem _ List.mem_cons_self)
  have offN : ∀ p ∈ news, p.1 ≠ I2 := fun p hp => offI2 p (List.mem_cons_of_mem _ (List.mem_cons_of_mem _ hp))
  have hD₀ : h₀.get? D = none := (N _ (List.mem_cons_of_mem _ List.mem_cons_self)).2.2
  have hDL : D ≠ L := (N _ (List.mem_cons_of_mem _ List.mem_cons_self)).2.1
  clear hr up lt N F hns
  have W2 := Walks.range (prog := prog) (w := w) hh I2 a2 c2 n2
  have loop2 : codeAny (model prog w) A (.compLoop (twoE elt iter1 iter2 ct x y px py scope pos) 1 (.ref I2) (.ref D) (compEnvC scope cl C env)) R { s₁ with heap := H, toks := tk' } := by
    refine loop_two1 (fun q s' => ∃ h tk k ys m₃, s' = { s₁ with heap := h, toks := tk } ∧ q = n2 + 1 - k ∧ k ≤ n2 ∧ IsRangeIter h I2 (a2 + (k : Nat) * c2) ((n2 : Int) - (k : Nat)) c2 ∧ Fr h₀ L h m ∧ h.Ns C m₃ ∧ m₃ x = some vx ∧
      News h₀ L h ((I, oI) :: (D, LCg.lst ys) :: news) ∧ JJ k ys) ?_ (n2 + 1) ⟨H, tk', 0, ys, m₂, rfl, rfl, Nat.zero_le _, hit, F1, hns1, hvx, N1, j0⟩
    rintro q s' ⟨h, tk, k, zs, m₃, rfl, rfl, hk, hst, Fh, hnC, hmx, Nh, hj⟩
    by_cases hlt : k < n2
    · refine W2.item k _ _ _ hlt hst fun v h₂ tk₂ hP hst₂ hk₂ => ?_
      obtain ⟨t, rfl⟩ := hP
      dsimp only
      refine wpAny_assign_Name (wpAny_storeName_local (lookup_relabel_local hy) (hnC.at' fun o e => hk₂ _ o (by simp [hCI2]) e) (fun h₃ hn₃ hs₃ => ?_) (by simp [compEnvC, relabel, hkind]))
      have hst₃ : IsRangeIter h₃ I2 (a2 + ((k + 1 : Nat) : Int) * c2) ((n2 : Int) - ((k + 1 : Nat) : Int)) c2 := W2.frame _ _ _ hst₂ fun b hb o e => hs₃.extBut b o (by rw [List.mem_singleton.mp hb]; exact Ne.symm hCI2) e
      obtain ⟨oC, heC, hoC⟩ := LCg.ns_obj hn₃
      have F₃ : Fr h₀ L h₃ m := (LCg.fr_but Fh hk₂ hI2L hI2₀).change hs₃ hCL hC₀
      have offI2' : ∀ p ∈ (I, oI) :: (D, LCg.lst zs) :: news, p.1 ≠ I2 := fun p hp => by
        rcases List.mem_cons.mp hp with rfl | hp
        · exact hII2
        · rcases List.mem_cons.mp hp with rfl | hp
          · exact hDI2
          · exact offN p hp
      have N₂ : News h₀ L h₂ ((I, oI) :: (D, LCg.lst zs) :: news) := LCg.news_but Nh hk₂ offI2'
      have N₃ : News h₀ L h₃ ((I, oI) :: (D, LCg.lst zs) :: news) := fun p hp => by
        have z := N₂ p hp
        refine ⟨hs₃.extBut _ _ ?_ z.1, z.2⟩
        rcases List.mem_cons.mp hp with rfl | hp
        · exact hIC
        · rcases List.mem_cons.mp hp with rfl | hp
          · exact hDC
          · exact (off p hp).1
      have N₄ : News h₀ L h₃ ((I2, _) :: (I, oI) :: (C, oC) :: (D, LCg.lst zs) :: news) := fun p hp => by
        rcases List.mem_cons.mp hp with rfl | hp
        · exact ⟨hst₃, Ne.symm hI2L, hI2₀⟩
        rcases List.mem_cons.mp hp with rfl | hp
        · exact N₃ _ List.mem_cons_self
        rcases List.mem_cons.mp hp with rfl | hp
        · exact ⟨heC, hCL, hC₀⟩
        · exact N₃ _ (List.mem_cons_of_mem _ hp)
      refine wpAny_mono (turns k zs hlt hj I2 _ oC _ h₃ _ t _ hoC (by rw [if_neg hxy]; exact hmx) (by simp) F₃ N₄) (fun ok s₅ h₅ => ?_) fun _ _ e => e
      cases ok with
      | false =>
        rw [if_neg (by decide)] at h₅ ⊢
        obtain ⟨h₆, tk₆, rfl, F₆, N₆, hj₆⟩ := h₅
        refine ⟨n2 + 1 - (k + 1), by omega, h₆, tk₆, k + 1, zs, _, rfl, rfl, hlt, (N₆ _ List.mem_cons_self).1, F₆, hoC.ns (N₆ _ (List.mem_cons_of_mem _ (List.mem_cons_of_mem _ List.mem_cons_self))).1, by rw [if_neg hxy]; exact hmx, fun p hp => N₆ p ?_, hj₆⟩
        rcases List.mem_cons.mp hp with rfl | hp
        · exact List.mem_cons_of_mem _ List.mem_cons_self
        · exact List.mem_cons_of_mem _ (List.mem_cons_of_mem _ (List.mem_cons_of_mem _ hp))
      | true =>
        rw [if_pos rfl] at h₅ ⊢
        refine wpAny_mono h₅ (fun yv s₆ h₆ => ?_) fun _ _ e => e
        obtain ⟨h₆, tk₆, rfl, F₆, N₆, hj₆⟩ := h₆
        have zD := (N₆ (D, LCg.lst zs) (List.mem_cons_of_mem _ (List.mem_cons_of_mem _ (List.mem_cons_of_mem _ List.mem_cons_self)))).1
        have zC := (N₆ (C, oC) (List.mem_cons_of_mem _ (List.mem_cons_of_mem _ List.mem_cons_self))).1
        refine append_at (hsz := by show zs.toArray.size ≤ sizeLine; rw [List.size_toArray, sizeLine_eq]; have := jl _ _ hj; omega) zD fun h₇ hs₇ hD₇ => ?_
        refine ⟨n2 + 1 - (k + 1), by omega, h₇, tk₆, k + 1, zs ++ [yv], _, rfl, rfl, hlt, hs₇.extBut _ _ (Ne.symm hDI2) (N₆ _ List.mem_cons_self).1, F₆.change hs₇ hDL hD₀, (hoC.ns zC).sameBut hs₇ (Ne.symm hDC), by rw [if_neg hxy]; exact hmx, fun p hp => ?_, hj₆⟩
        rcases List.mem_cons.mp hp with rfl | hp
        · have z := N₆ (I, oI) (List.mem_cons_of_mem _ List.mem_cons_self)
          exact ⟨hs₇.extBut _ _ hID z.1, z.2⟩
        · rcases List.mem_cons.mp hp with rfl | hp
          · exact ⟨hD₇.trans (congrArg some (LCg.lst_snoc zs yv)), hDL, hD₀⟩
          · have z := N₆ p (List.mem_cons_of_mem _ (List.mem_cons_of_mem _ (List.mem_cons_of_mem _ (List.mem_cons_of_mem _ hp))))
            exact ⟨hs₇.extBut _ _ (off p hp).2 z.1, z.2⟩
    · obtain rfl : k = n2 := Nat.le_antisymm hk (Nat.not_lt.mp hlt)
      refine W2.done _ _ _ hst fun h₂ tk₂ hk₂ => ?_
      refine fin zs h₂ tk₂ m₃ hj (LCg.fr_but Fh hk₂ hI2L hI2₀) (LCg.news_but Nh hk₂ fun p hp => ?_) (hnC.at' fun o e => hk₂ _ o (by simp [hCI2]) e)
      rcases List.mem_cons.mp hp with rfl | hp
      · exact hII2
      · rcases List.mem_cons.mp hp with rfl | hp
        · exact hDI2
        · exact offN p hp
  exact start_two1 loop2 (W2.self 0 _ _ _ hit loop2)
theorem listComp_two {elt iter1 iter2 ct : PySem.Expr} {x y : Str} {px py : Pos} {scope : Scope} {cl : List (Str × Addr)} {pos : Pos} {Q : Value → Shared → Prop} (_F₀ : Fr h₀ L s.heap m)
    (hclos : closureFor scope env = pure cl) (hcell : ∀ y ∈ scope.names, y.2 ≠ .cell) (hkind : scope.kind = .function)
    (hnames : ∀ y ∈ scope.names, y.2 = .local → scope.names.lookup y.1 = some .local) (hx : scope.names.lookup x = some .local) (hy : scope.names.lookup y = some .local) (hxy : x ≠ y)
    (h : wpAny (model prog w) A (eval iter1 env) (TwoSrc prog w A h₀ L m env elt iter2 ct x y scope cl Q) E s)
    (hs : ∀ x, foldedSetIterable iter1 env x = pure x := by intro _; rfl) (hs2 : ∀ C v, foldedSetIterable iter2 (compEnvC scope cl C env) v = pure v := by intro _ _; rfl) :
    wpAny (model prog w) A (eval (twoE elt iter1 iter2 ct x y px py scope pos) env) Q E s := by
  rw [eval_ListComp]
  refine wpAny_comprehension_free (use := none) rfl hs hclos hkind hnames (wpAny_mono h (fun xv s₁ h₁ => ?_) fun _ _ e => e)
  obtain ⟨r, a, b, t, u, v, n, news, J, rfl, hh, F, N, hr, hsm, hn, j0, turns, fin⟩ := h₁
  refine wpAny_pyIter_range hr hsm ?_
  have lt0 : ∀ b o, s₁.heap.get? b = some o → b < s₁.heap.objs.size := fun b o e => Heap.lt_size e
  have up1 : ∀ q o, s₁.heap.get? q = some o → (s₁.heap.push { cls := .type "range_iterator", data := .fields #[rawInt a, rawInt (Builtin.Range.rangeSize a b 1), rawInt 1] }).get? q = some o := fun q o e => Heap.get?_push_of_some _ e
  have hit1 : IsRangeIter (s₁.heap.push { cls := .type "range_iterator", data := .fields #[rawInt a, rawInt (Builtin.Range.rangeSize a b 1), rawInt 1] }) s₁.heap.objs.size (a + ((0 : Nat) : Int) * 1) ((n : Int) - ((0 : Nat) : Int)) 1 := by
    show (s₁.heap.push _).get? _ = some _
    rw [hn]
    simpa using Heap.get?_push_size s₁.heap rfl
  have hD1 : (s₁.heap.push { cls := .type "range_iterator", data := .fields #[rawInt a, rawInt (Builtin.Range.rangeSize a b 1), rawInt 1] }).objs.size = s₁.heap.objs.size + 1 := by rw [Heap.size_push]
  generalize s₁.heap.push { cls := .type "range_iterator", data := .fields #[rawInt a, rawInt (Builtin.Range.rangeSize a b 1), rawInt 1] } = H1 at up1 hit1 hD1 ⊢
  have hL : L < s₁.heap.objs.size := F.ns.lt
  have none₀ : ∀ q, s₁.heap.objs.size ≤ q → h₀.get? q = none := fun q hq => by
    cases e : h₀.get? q with
    | none => rfl
    | some o => exact absurd (lt0 _ _ (F.keep q o e)) (Nat.not_lt.mpr hq)
  generalize hI : s₁.heap.objs.size = I at lt0 hit1 hD1 hL none₀ ⊢
  refine wpAny_newObj_type (wpAny_newFunctionEnv hcell (by intro y hy; simp at hy) (fun h₁ hns₁ hsb₁ => ?_) hkind)
  dsimp only at hns₁ hsb₁ ⊢
  have up2 : ∀ b o, H1.get? b = some o → (H1.push { cls := .type "list", dict := none, data := .seq ([] : List Value).toArray }).get? b = some o := fun b o e => Heap.get?_push_of_some _ e
  have atD2 : (H1.push { cls := .type "list", dict := none, data := .seq ([] : List Value).toArray }).get? (I + 1) = some (LCg.lst []) := by rw [← hD1]; exact Heap.get?_push_size _ rfl
  have hC1 : (H1.push { cls := .type "list", dict := none, data := .seq ([] : List Value).toArray }).objs.size = I + 2 := by rw [Heap.size_push, hD1]
  generalize H1.push { cls := .type "list", dict := none, data := .seq ([] : List Value).toArray } = H2 at up2 atD2 hC1 hns₁ hsb₁ ⊢
  rw [hC1] at hns₁ hsb₁ ⊢
  rw [hD1]
  have up3 : ∀ b o, b ≠ I + 2 → H2.get? b = some o → h₁.get? b = some o := fun b o hb e => hsb₁.extBut b o hb (Heap.get?_push_of_some _ e)
  have old : ∀ b o, s₁.heap.get? b = some o → h₁.get? b = some o := fun b o e => up3 b o (Nat.ne_of_lt (Nat.lt_of_lt_of_le (lt0 b o e) (Nat.le_add_right _ _))) (up2 b o (up1 b o e))
  have hit₁ : IsRangeIter h₁ I (a + ((0 : Nat) : Int) * 1) ((n : Int) - ((0 : Nat) : Int)) 1 := up3 _ _ (Nat.ne_of_lt (Nat.lt_add_of_pos_right (by decide))) (up2 _ _ hit1)
  have atD : h₁.get? (I + 1) = some (LCg.lst []) := up3 _ _ (Nat.ne_of_lt (Nat.lt_succ_self _)) atD2
  have off₀ : ∀ q ∈ news, q.1 < I := fun q hq => lt0 _ _ (N q hq).1
  have F1 : Fr h₀ L h₁ m := F.keeps old
  have N1 : News h₀ L h₁ news := N.grown old
  clear up1 up2 up3 old hsb₁ hr lt0 hit1 atD2
  have hIL : L ≠ I := Nat.ne_of_lt hL
  have hDL : I + 1 ≠ L := Ne.symm (Nat.ne_of_lt (Nat.lt_succ_of_lt hL))
  have hCL : I + 2 ≠ L := Ne.symm (Nat.ne_of_lt (Nat.lt_of_lt_of_le hL (Nat.le_add_right _ _)))
  have hIC : I ≠ I + 2 := Nat.ne_of_lt (Nat.lt_add_of_pos_right (by decide))
  have hID : I ≠ I + 1 := Nat.ne_of_lt (Nat.lt_succ_self _)
  have hDC : I + 1 ≠ I + 2 := Nat.ne_of_lt (Nat.lt_succ_self _)
  have hI₀ := none₀ I (Nat.le_refl _)
  have hD₀ := none₀ (I + 1) (Nat.le_succ _)
  have hC₀ := none₀ (I + 2) (Nat.le_add_right _ _)
  have offI : ∀ q ∈ news, q.1 ≠ I := fun q hq => Nat.ne_of_lt (off₀ q hq)
  have offD : ∀ q ∈ news, q.1 ≠ I + 1 := fun q hq => Nat.ne_of_lt (Nat.lt_succ_of_lt (off₀ q hq))
  have offC : ∀ q ∈ news, q.1 ≠ I + 2 := fun q hq => Nat.ne_of_lt (Nat.lt_of_lt_of_le (off₀ q hq) (Nat.le_add_right _ _))
  have W := Walks.range (prog := prog) (w := w) hh I a 1 n
  have loop : ∀ s₃ : Shared, s₃ = { s₁ with heap := h₁, toks := s₁.toks + ([] : List (Str × Value)).length } →
      codeAny (model prog w) A (.compLoop (twoE elt iter1 iter2 ct x y px py scope pos) 0 (.ref I) (.ref (I + 1)) (compEnvC scope cl (I + 2) env)) (compPost (model prog w) A E none Q (.ref (I + 1)) (I + 2)) s₃ := by
    rintro s₃ rfl
    refine loop_two0 (fun q s' => ∃ h' tk i ys m', s' = { s₁ with heap := h', toks := tk } ∧ q = n + 1 - i ∧ i ≤ n ∧ IsRangeIter h' I (a + (i : Nat) * 1) ((n : Int) - (i : Nat)) 1 ∧ Fr h₀ L h' m ∧ h'.Ns (I + 2) m' ∧
      News h₀ L h' ((I + 1, LCg.lst ys) :: news) ∧ J i ys) (hs2 _) ?_ (n + 1) ⟨h₁, _, 0, [], _, rfl, rfl, Nat.zero_le _, hit₁, F1, hns₁, fun p hp => ?_, j0⟩
    · rintro q s' ⟨h', tk, i, ys, m', rfl, rfl, hi, hst, F', hn', N', hj⟩
      by_cases hlt : i < n
      · refine W.item i _ _ _ hlt hst fun v h₂ tk₂ hP hst₂ hk₂ => ?_
        obtain ⟨t, rfl⟩ := hP
        dsimp only
        rw [Int.mul_one]
        refine wpAny_assign_Name (wpAny_storeName_local (lookup_relabel_local hx) (hn'.at' fun o e => hk₂ _ o (by simpa using Ne.symm hIC) e) (fun h₃ hn₃ hs₃ => ?_) (by simp [compEnvC, relabel, hkind]))
        have hst₃ : IsRangeIter h₃ I (a + ((i + 1 : Nat) : Int) * 1) ((n : Int) - ((i + 1 : Nat) : Int)) 1 := W.frame _ _ _ hst₂ fun b hb o e => hs₃.extBut b o (by rw [List.mem_singleton.mp hb]; exact hIC) e
        obtain ⟨oC, heC, hoC⟩ := LCg.ns_obj hn₃
        have F₃ : Fr h₀ L h₃ m := (LCg.fr_but F' hk₂ hIL hI₀).change hs₃ hCL hC₀
        have N₂ : News h₀ L h₂ ((I + 1, LCg.lst ys) :: news) := LCg.news_but N' hk₂ fun p hp => by
          rcases List.mem_cons.mp hp with rfl | hp
          · exact Ne.symm hID
          · exact offI p hp
        have N₃ : News h₀ L h₃ ((I + 1, LCg.lst ys) :: news) := fun p hp => by
          have z := N₂ p hp
          refine ⟨hs₃.extBut _ _ ?_ z.1, z.2⟩
          rcases List.mem_cons.mp hp with rfl | hp
          · exact hDC
          · exact offC p hp
        have N₄ : News h₀ L h₃ ((I, _) :: (I + 2, oC) :: (I + 1, LCg.lst ys) :: news) := fun p hp => by
          rcases List.mem_cons.mp hp with rfl | hp
          · exact ⟨hst₃, Ne.symm hIL, hI₀⟩
          rcases List.mem_cons.mp hp with rfl | hp
          · exact ⟨heC, hCL, hC₀⟩
          · exact N₃ _ hp
        refine wpAny_mono (turns i ys hlt hj I _ (I + 2) oC (I + 1) _ h₃ _ t _ hoC (by simp) F₃ N₄) (fun xv s₄ h₄ => ?_) fun _ _ e => e
        obtain ⟨r2, a2, b2, c2, t2, u2, v2, n2, JJ, h₅, tk₅, rfl, rfl, F₅, N₅, hr2, hsm2, hn2, jj0, jjl, jje, inn⟩ := h₄
        refine inner_block (m₂ := fun z => if z = x then some (.int (a + (i : Int)) t) else m' z) hkind hy hxy hh F₅ (fun p hp => N₅ p ?_) (hoC.ns (N₅ _ (List.mem_cons_of_mem _ List.mem_cons_self)).1) (by simp) hr2 hsm2 hn2 hCL hC₀ hIC hID hDC (fun p hp => ⟨offC p hp, offD p hp⟩) jj0 jjl inn ?_
        · rcases List.mem_cons.mp hp with rfl | hp
          · exact List.mem_cons_self
          · exact List.mem_cons_of_mem _ (List.mem_cons_of_mem _ hp)
        · intro zs h₆ tk₆ m₃ hj₆ F₆ N₆ hn₆
          exact ⟨⟨_, rfl⟩, n + 1 - (i + 1), by omega, h₆, tk₆, i + 1, zs, m₃, rfl, rfl, hlt, (N₆ _ List.mem_cons_self).1, F₆, hn₆, fun p hp => N₆ p (List.mem_cons_of_mem _ hp), jje zs hj₆⟩
      · obtain rfl : i = n := Nat.le_antisymm hi (Nat.not_lt.mp hlt)
        refine W.done _ _ _ hst fun h₂ tk₂ hk₂ => ?_
        have F₂ := LCg.fr_but F' hk₂ hIL hI₀
        have N₂ : News h₀ L h₂ ((I + 1, LCg.lst ys) :: news) := LCg.news_but N' hk₂ fun p hp => by
          rcases List.mem_cons.mp hp with rfl | hp
          · exact Ne.symm hID
          · exact offI p hp
        refine ⟨m', hn'.at' fun o e => hk₂ _ o (by simpa using Ne.symm hIC) e, fun h'' hs'' => fin ys hj (I + 1) h'' tk₂ (F₂.change hs'' hCL hC₀) (fun p hp => ?_) ?_⟩
        · refine ⟨hs''.extBut _ _ ?_ (N₂ p hp).1, (N₂ p hp).2⟩
          rcases List.mem_cons.mp hp with rfl | hp
          · exact hDC
          · exact offC p hp
        · exact (LCg.Off3.of fun p hp => ⟨offD p hp, offD p hp, offD p hp⟩ : LCg.Off3 (I + 1) (I + 1) (I + 1) news).one
    · rcases List.mem_cons.mp hp with rfl | hp
      · exact ⟨atD, hDL, hD₀⟩
      · exact N1 p hp
  exact codeAny_compStart_list (loop _ rfl) (W.self 0 _ _ _ hit₁ (loop _ rfl))
end
end

section
open PySem PySem.W PySem.Calls PySem.Spec PyProof.Rows
set_option Elab.async false
set_option maxRecDepth 100000
theorem step_size2 {b c : Int} (hb : b ≤ 60) (hc : 1 ≤ c) : ∃ n : Nat, Builtin.Range.rangeSize 0 b c = (n : Int) ∧ ∀ i : Nat, i < n ↔ (0 : Int) + (i : Int) * c < b := by
  unfold Builtin.Range.rangeSize
  rw [if_pos (by omega : c > 0)]
  by_cases h : (0 : Int) < b
  · rw [if_pos h]
    have h1 : 0 ≤ (b - 0 - 1) / c := Int.ediv_nonneg (by omega) (by omega)
    refine ⟨((b - 0 - 1) / c + 1).toNat, by omega, fun i => ?_⟩
    have key : (i : Int) ≤ (b - 0 - 1) / c ↔ (i : Int) * c ≤ b - 0 - 1 := Int.le_ediv_iff_mul_le (by omega)
    constructor
    · intro hi
      have := key.mp (by omega); omega
    · intro hi
      have := key.mpr (by omega); omega
  · rw [if_neg h]
    refine ⟨0, rfl, fun i => ?_⟩
    have : 0 ≤ (i : Int) * c := Int.mul_nonneg (by omega) (by omega)
    omega
/-- the q-th row of j, from the front on, leaves different rests -/
noncomputable def rowOk (ps : List Int) (q : Nat) (j : Int) : Prop := unlikeF ((ps.drop ((q : Int) * j).toNat).take j.toNat) j = true
noncomputable def RowsOk (ps : List Int) (n : Nat) (i : Nat) : Prop := ∀ i', i' < i → ∀ q : Nat, (q : Int) * (1 + (i' : Int)) + (1 + (i' : Int)) ≤ (n : Int) → rowOk ps q (1 + (i' : Int))
noncomputable def JRow (ps : List Int) (n : Nat) (i : Nat) (ys : List Value) : Prop := ∃ es, IntsAre ys es ∧ es.length ≤ 6 * i ∧ (es = [] ↔ RowsOk ps n i)
noncomputable def JJRow (ps : List Int) (n : Nat) (i : Nat) (n2 : Nat) (k : Nat) (ys : List Value) : Prop := i < 6 ∧ k ≤ n2 ∧ n2 ≤ 6 ∧ ∃ es, IntsAre ys es ∧ es.length ≤ 6 * i + k ∧ (es = [] ↔ RowsOk ps n i ∧ ∀ q, q < k → rowOk ps q (1 + (i : Int)))
theorem jrow_zero {ps : List Int} {n : Nat} : JRow ps n 0 [] := ⟨[], .nil, Nat.zero_le _, fun _ i' h => absurd h (Nat.not_lt_zero _), fun _ => rfl⟩
theorem jj_zero {ps : List Int} {n i n2 : Nat} {ys : List Value} (hi : i < 6) (h2 : n2 ≤ 6) (h : JRow ps n i ys) : JJRow ps n i n2 0 ys := by
  obtain ⟨es, h1, hl, e⟩ := h
  exact ⟨hi, Nat.zero_le _, h2, es, h1, hl, e.trans ⟨fun z => ⟨z, fun q hq => absurd hq (Nat.not_lt_zero _)⟩, fun z => z.1⟩⟩
theorem jj_len {ps : List Int} {n i n2 k : Nat} {ys : List Value} (h : JJRow ps n i n2 k ys) : ys.length ≤ 1000 := by
  obtain ⟨hi, hk, h2, es, h1, hl, e⟩ := h
  rw [h1.length]; omega
theorem jj_end {ps : List Int} {n i n2 : Nat} {ys : List Value} (hn : ∀ q : Nat, q < n2 ↔ (0 : Int) + (q : Int) * (1 + (i : Int)) < (n : Int) - (1 + (i : Int)) + 1) (h : JJRow ps n i n2 n2 ys) : JRow ps n (i + 1) ys := by
  obtain ⟨hi, hk, h2, es, h1, hl, e⟩ := h
  refine ⟨es, h1, by omega, e.trans ⟨fun z i' hi' q hq => ?_, fun z => ⟨fun i' hi' => z i' (by omega), fun q hq => z i (Nat.lt_succ_self _) q (by have := (hn q).mp hq; omega)⟩⟩⟩
  by_cases c : i' = i
  · subst c
    exact z.2 q ((hn q).mpr (by omega))
  · exact z.1 i' (by omega) q hq
theorem row_cut {ps : List Int} {kk j : Int} (h0 : 0 ≤ kk) (hj : 0 ≤ j) (h1 : kk + j ≤ (ps.length : Int)) : min (kk + j).toNat ps.length - kk.toNat = j.toNat := by omega
theorem jj_keep {ps : List Int} {n i n2 k : Nat} {kk : Int} {ys : List Value} (hkk : 0 + (k : Int) * (1 + (i : Int)) = kk) (h0 : 0 ≤ kk) (hl : kk + (1 + (i : Int)) ≤ (ps.length : Int)) (hk : k < n2) (h : JJRow ps n i n2 k ys)
    (hr : ∀ d ∈ List.take (min (kk + (1 + (i : Int))).toNat ps.length - kk.toNat) (List.drop kk.toNat ps), List.count (d.fmod (1 + (i : Int))) (List.map (fun x => x.fmod (1 + (i : Int))) (List.take (min (kk + (1 + (i : Int))).toNat ps.length - kk.toNat) (List.drop kk.toNat ps))) = 1) : JJRow ps n i n2 (k + 1) ys := by
  rw [row_cut h0 (by omega) hl] at hr
  have hr' : rowOk ps k (1 + (i : Int)) := by
    unfold rowOk unlikeF
    rw [show (k : Int) * (1 + (i : Int)) = kk by omega]
    exact decide_eq_true hr
  obtain ⟨hi, _, h2, es, h1, hle, e⟩ := h
  refine ⟨hi, hk, h2, es, h1, by omega, e.trans ⟨fun z => ⟨z.1, fun q hq => ?_⟩, fun z => ⟨z.1, fun q hq => z.2 q (by omega)⟩⟩⟩
  by_cases c : q = k
  · subst c; exact hr'
  · exact z.2 q (by omega)
theorem jj_add {ps : List Int} {n i n2 k : Nat} {kk : Int} {ys : List Value} {t : Tok} (hkk : 0 + (k : Int) * (1 + (i : Int)) = kk) (h0 : 0 ≤ kk) (hl : kk + (1 + (i : Int)) ≤ (ps.length : Int)) (hk : k < n2) (h : JJRow ps n i n2 k ys)
    (hr : ¬ ∀ d ∈ List.take (min (kk + (1 + (i : Int))).toNat ps.length - kk.toNat) (List.drop kk.toNat ps), List.count (d.fmod (1 + (i : Int))) (List.map (fun x => x.fmod (1 + (i : Int))) (List.take (min (kk + (1 + (i : Int))).toNat ps.length - kk.toNat) (List.drop kk.toNat ps))) = 1) : JJRow ps n i n2 (k + 1) (ys ++ [Value.int (1 + (i : Int)) t]) := by
  rw [row_cut h0 (by omega) hl] at hr
  have hr' : ¬ rowOk ps k (1 + (i : Int)) := by
    unfold rowOk unlikeF
    rw [show (k : Int) * (1 + (i : Int)) = kk by omega]
    exact fun z => hr (of_decide_eq_true z)
  obtain ⟨hi, _, h2, es, h1, hle, e⟩ := h
  refine ⟨hi, hk, h2, es ++ [1 + (i : Int)], IntsAre.append h1 (.cons _ _ .nil), by rw [List.length_append, List.length_singleton]; omega, ⟨fun z => absurd z (by simp), fun z => absurd (z.2 k (Nat.lt_succ_self _)) hr'⟩⟩
section
variable {prog : Program} {w : World} {A : Around} {E : Value → Shared → Prop} {s : Shared} {h₀ : Heap} {L a b : Addr} {news : Led} {xs : List Value} {k k2 : Nat} {ns : List Int} {Q : Value → Shared → Prop}
theorem eq_ints_nil {P : Prop} [Decidable P] (N : News h₀ L s.heap news) (ha : (a, W.listOf xs.toArray k) ∈ news) (hb : (b, W.listOf ([] : List Value).toArray k2) ∈ news) (hi : IntsAre xs ns) (e : ns = [] ↔ P) (hu : A.units + 64 < cLine) (h : Q (.bool (decide P)) s) :
    wpAny (model prog w) A (compareOp .Eq (.ref a) (.ref b)) Q E s :=
  ke_eq_ints (is_list N ha) (is_list N hb) hi .nil hu (by rw [decide_eq_decide.mpr e]; exact h)
end
end

section
set_option Elab.async false
noncomputable def insN (o : List Nat) (p i : Nat) : List Nat := o.take p ++ i :: o.drop p
noncomputable def ordersN : Nat → List (List Nat)
  | 0 => [[]]
  | n + 1 => (ordersN n).flatMap fun o => (List.range (n + 1)).map fun p => insN o p n
noncomputable def maxN : List Nat → Nat
  | [] => 0
  | x :: r => cond (Nat.ble x (maxN r)) (maxN r) x
noncomputable def minN : List Nat → Nat
  | [] => 99
  | x :: r => cond (Nat.ble x (minN r)) x (minN r)
noncomputable def distN : List Nat → Bool
  | [] => true
  | x :: r => r.all (fun y => !(Nat.beq x y)) && distN r
noncomputable def comesN (n : Nat) : List Nat → List Nat → List Nat → Bool
  | [], _, _ => true
  | i :: os, tl, fl => cond (Nat.beq i (tl.headD n)) (comesN n os tl.tail fl) (cond (Nat.beq i (fl.headD n)) (comesN n os tl fl.tail) false)
noncomputable def nearN (o : List Nat) (n : Nat) : Bool := (List.range n).all fun k => Nat.beq (maxN (o.take (k + 1)) - minN (o.take (k + 1))) k
noncomputable def frontsN (o : List Nat) (n : Nat) : Bool := (List.range n).all fun k => distN ((o.take (k + 1)).map (· % (k + 1)))
noncomputable def rowsN (o : List Nat) (n : Nat) : Bool := (List.range n).all fun k => (List.range n).all fun q => cond (Nat.ble (q * (k + 1) + (k + 1)) n) (distN (((o.drop (q * (k + 1))).take (k + 1)).map (· % (k + 1)))) true
noncomputable def cutsN (o : List Nat) (n : Nat) : List Nat := (List.range (n + 1)).filter fun c => comesN n o ((List.range n).take c).reverse ((List.range n).drop c)
noncomputable def checkN (o : List Nat) (n : Nat) : Bool := (cutsN o n == cond (nearN o n) [o.headD 0, o.headD 0 + 1] []) && (frontsN o n == nearN o n) && (rowsN o n == nearN o n)
theorem check3 : (ordersN 3).all (checkN · 3) = true := by decide +kernel
theorem check4 : (ordersN 4).all (checkN · 4) = true := by decide +kernel
theorem check5 : (ordersN 5).all (checkN · 5) = true := by decide +kernel
theorem check6 : (ordersN 6).all (checkN · 6) = true := by decide +kernel
end

section
open PySem PySem.W PySem.Calls PySem.Spec PyProof.Rows
set_option Elab.async false
set_option maxRecDepth 100000
noncomputable abbrev up (l : List Nat) : List Int := l.map fun (i : Nat) => (i : Int)
/-- the order, in natural numbers -/
theorem ins_up (o : List Nat) (p i : Nat) (q : Int) (h : q.toNat = p) : insF (up o) q (i : Int) = up (insN o p i) := by
  unfold insF insN up
  rw [h]
  simp
theorem place_range (ns : List Int) (i : Nat) : 0 ≤ placeF ns i ∧ placeF ns i < (i : Int) + 1 := by
  unfold placeF
  rw [Int.fmod_eq_emod_of_nonneg _ (by omega)]
  exact ⟨Int.emod_nonneg _ (by omega), Int.emod_lt_of_pos _ (by omega)⟩
theorem order_up (ns : List Int) : ∀ n, ∃ o, o ∈ ordersN n ∧ (List.range n).foldl (fun o i => insF o (placeF ns i) (i : Int)) [] = up o := by
  intro n
  induction n with
  | zero => exact ⟨[], by decide, rfl⟩
  | succ n ih =>
    obtain ⟨o, ho, e⟩ := ih
    rw [List.range_succ, List.foldl_append, e]
    simp only [List.foldl_cons, List.foldl_nil]
    have h := place_range ns n
    refine ⟨insN o (placeF ns n).toNat n, ?_, ins_up o _ n _ rfl⟩
    rw [ordersN, List.mem_flatMap]
    exact ⟨o, ho, List.mem_map.mpr ⟨_, List.mem_range.mpr (by omega), rfl⟩⟩
theorem order_is (ds : List Int) : ∃ o, o ∈ ordersN ds.length ∧ orderF ds = up o := order_up ds ds.length
theorem up_len (o : List Nat) : (up o).length = o.length := List.length_map ..
theorem orders_len {ds : List Int} {o : List Nat} (e : orderF ds = up o) : o.length = ds.length := by
  rw [← order_len, e, up_len]
theorem orders_lt {ds : List Int} {o : List Nat} (e : orderF ds = up o) : ∀ i ∈ o, i < ds.length := fun i hi => by
  have := order_range ds (i : Int) (by rw [e]; exact List.mem_map.mpr ⟨i, hi, rfl⟩)
  omega
/-- the greatest and the least -/
theorem maxN_le : ∀ (l : List Nat), ∀ x ∈ l, x ≤ maxN l
  | y :: r, x, h => by
    have ih := maxN_le r
    rw [maxN]
    cases c : Nat.ble y (maxN r) with
    | true =>
      have := Nat.le_of_ble_eq_true c
      rcases List.mem_cons.mp h with rfl | h
      · exact this
      · exact ih x h
    | false =>
      have : ¬ y ≤ maxN r := fun z => by rw [Nat.ble_eq_true_of_le z] at c; cases c
      rcases List.mem_cons.mp h with rfl | h
      · exact Nat.le_refl _
      · have := ih x h; simp only [cond_false]; omega
theorem maxN_mem : ∀ (l : List Nat), l ≠ [] → maxN l ∈ l
  | [x], _ => by
    rw [maxN, maxN]
    cases c : Nat.ble x 0 with
    | true =>
      have := Nat.le_of_ble_eq_true c
      simp only [cond_true, List.mem_singleton]; omega
    | false => simp
  | x :: y :: r, _ => by
    have ih := maxN_mem (y :: r) (List.cons_ne_nil _ _)
    rw [maxN]
    cases Nat.ble x (maxN (y :: r)) with
    | true => exact List.mem_cons_of_mem _ ih
    | false => exact List.mem_cons_self
theorem minN_le : ∀ (l : List Nat), ∀ x ∈ l, minN l ≤ x
  | y :: r, x, h => by
    have ih := minN_le r
    rw [minN]
    cases c : Nat.ble y (minN r) with
    | true =>
      have := Nat.le_of_ble_eq_true c
      rcases List.mem_cons.mp h with rfl | h
      · exact Nat.le_refl _
      · exact Nat.le_trans this (ih x h)
    | false =>
      have : ¬ y ≤ minN r := fun z => by rw [Nat.ble_eq_true_of_le z] at c; cases c
      rcases List.mem_cons.mp h with rfl | h
      · simp only [cond_false]; omega
      · exact ih x h
theorem minN_mem : ∀ (l : List Nat), l ≠ [] → (∀ x ∈ l, x ≤ 99) → minN l ∈ l
  | [x], _, hl => by
    rw [minN, minN, Nat.ble_eq_true_of_le (hl x List.mem_cons_self)]
    exact List.mem_cons_self
  | x :: y :: r, _, hl => by
    have ih := minN_mem (y :: r) (List.cons_ne_nil _ _) fun z hz => hl z (List.mem_cons_of_mem _ hz)
    rw [minN]
    cases Nat.ble x (minN (y :: r)) with
    | true => exact List.mem_cons_self
    | false => exact List.mem_cons_of_mem _ ih
noncomputable abbrev shift (B : Int) (l : List Nat) : List Int := l.map fun (i : Nat) => B + (i : Int)
theorem gap_shift (B : Int) (l : List Nat) (h : l ≠ []) (h99 : ∀ x ∈ l, x ≤ 99) : gapF (shift B l) = ((maxN l - minN l : Nat) : Int) := by
  have h1 : minN l ≤ maxN l := minN_le l _ (maxN_mem l h)
  rw [gap_is (M := B + (maxN l : Int)) (m := B + (minN l : Int)) (List.mem_map.mpr ⟨_, maxN_mem l h, rfl⟩) ?_ (List.mem_map.mpr ⟨_, minN_mem l h h99, rfl⟩) ?_]
  · omega
  · intro a ha
    obtain ⟨x, hx, rfl⟩ := List.mem_map.mp ha
    have := maxN_le l x hx
    omega
  · intro a ha
    obtain ⟨x, hx, rfl⟩ := List.mem_map.mp ha
    have := minN_le l x hx
    omega
theorem ports_shift {ds : List Int} {o : List Nat} (e : orderF ds = up o) : portsF ds = shift (baseF ds) o := by
  unfold portsF
  rw [e, up, List.map_map]; rfl
theorem filtR_nil {a : Int} {p : Int → Bool} {n : Nat} : filtR a p n = [] ↔ ∀ k, k < n → p (a + (k : Int)) = false := by
  unfold filtR
  rw [List.filter_eq_nil_iff]
  constructor
  · intro h k hk
    have := h (a + (k : Int)) (List.mem_map.mpr ⟨k, List.mem_range.mpr hk, rfl⟩)
    simpa using this
  · intro h x hx
    obtain ⟨k, hk, rfl⟩ := List.mem_map.mp hx
    rw [h k (List.mem_range.mp hk)]; decide
theorem toNat_one_add (k : Nat) : (1 + (k : Int)).toNat = k + 1 := by omega
theorem take_ne {α : Type} {l : List α} {k : Nat} (h : k < l.length) : l.take (k + 1) ≠ [] := by
  cases l with
  | nil => cases h
  | cons a r => simp
theorem near_is {B : Int} {o : List Nat} {n : Nat} (hl : o.length = n) (h99 : ∀ x ∈ o, x ≤ 99) : filtR 1 (nearP (shift B o)) n = [] ↔ nearN o n = true := by
  rw [filtR_nil, nearN, List.all_eq_true]
  have key : ∀ k, k < n → (nearP (shift B o) (1 + (k : Int)) = false ↔ Nat.beq (maxN (o.take (k + 1)) - minN (o.take (k + 1))) k = true) := by
    intro k hk
    unfold nearP
    rw [toNat_one_add, ← List.map_take, gap_shift B (o.take (k + 1)) (take_ne (by omega)) fun x hx => h99 x (List.mem_of_mem_take hx)]
    rw [Nat.beq_eq]
    simp only [bne_eq_false_iff_eq]
    omega
  constructor
  · intro h k hk
    exact (key k (List.mem_range.mp hk)).mp (h k (List.mem_range.mp hk))
  · intro h k hk
    exact (key k hk).mpr (h k (List.mem_range.mpr hk))
/-- different rests -/
theorem dist_map {f : Nat → Int} {g : Nat → Nat} (hfg : ∀ a b, f a = f b ↔ g a = g b) : ∀ l : List Nat, (∀ i ∈ l, (l.map f).count (f i) = 1) ↔ distN (l.map g) = true
  | [] => by simp [distN]
  | x :: r => by
    have ih := dist_map hfg r
    rw [List.map_cons, List.map_cons, distN, Bool.and_eq_true, ← ih, List.all_eq_true]
    have e : ∀ y, y ∈ r → ((!(Nat.beq (g x) (g y))) = true ↔ f y ≠ f x) := by
      intro y _
      rw [Bool.not_eq_true', ← Bool.not_eq_true, Nat.beq_eq, Ne, hfg]
      exact ⟨fun h z => h z.symm, fun h z => h z.symm⟩
    constructor
    · intro h
      have h0 := h x List.mem_cons_self
      rw [List.count_cons_self] at h0
      have h1 : (r.map f).count (f x) = 0 := by omega
      have h2 : ∀ y ∈ r, f y ≠ f x := fun y hy z => by
        have := List.count_eq_zero.mp h1
        exact this (List.mem_map.mpr ⟨y, hy, z⟩)
      refine ⟨fun z hz => ?_, fun y hy => ?_⟩
      · obtain ⟨y, hy, rfl⟩ := List.mem_map.mp hz
        exact (e y hy).mpr (h2 y hy)
      · have h3 := h y (List.mem_cons_of_mem _ hy)
        rw [List.count_cons_of_ne (fun z => h2 y hy z.symm)] at h3
        exact h3
    · rintro ⟨h1, h2⟩ y hy
      have h3 : ∀ y ∈ r, f y ≠ f x := fun y hy => (e y hy).mp (h1 _ (List.mem_map.mpr ⟨y, hy, rfl⟩))
      rcases List.mem_cons.mp hy with rfl | hy
      · rw [List.count_cons_self]
        have : (r.map f).count (f y) = 0 := List.count_eq_zero.mpr fun z => by
          obtain ⟨w, hw, ew⟩ := List.mem_map.mp z
          exact h3 w hw ew
        omega
      · rw [List.count_cons_of_ne (fun z => h3 y hy z.symm)]
        exact h2 y hy
theorem rest_iff {B : Int} {k : Nat} (a b : Nat) : (B + (a : Int)).fmod (1 + (k : Int)) = (B + (b : Int)).fmod (1 + (k : Int)) ↔ a % (k + 1) = b % (k + 1) := by
  rw [Int.fmod_eq_emod_of_nonneg _ (by omega), Int.fmod_eq_emod_of_nonneg _ (by omega)]
  rw [show (1 : Int) + (k : Int) = ((k + 1 : Nat) : Int) by omega]
  rw [Int.add_comm B, Int.add_comm B, Int.emod_add_cancel_right]
  rw [← Int.natCast_emod, ← Int.natCast_emod]
  omega
theorem unlike_shift (B : Int) (l : List Nat) (k : Nat) : unlikeF (shift B l) (1 + (k : Int)) = distN (l.map (· % (k + 1))) := by
  rw [Bool.eq_iff_iff, ← dist_map (f := fun i => (B + (i : Int)).fmod (1 + (k : Int))) (g := (· % (k + 1))) (fun a b => rest_iff a b) l]
  unfold unlikeF shift
  rw [decide_eq_true_iff, List.map_map]
  constructor
  · intro h i hi
    exact h _ (List.mem_map.mpr ⟨i, hi, rfl⟩)
  · intro h d hd
    obtain ⟨i, hi, rfl⟩ := List.mem_map.mp hd
    exact h i hi
end

section
open PySem PySem.W PySem.Calls PySem.Spec PyProof.Rows
set_option Elab.async false
set_option maxRecDepth 100000
theorem fronts_is {B : Int} {o : List Nat} {n : Nat} : filtR 1 (frontP (shift B o)) n = [] ↔ frontsN o n = true := by
  rw [filtR_nil, frontsN, List.all_eq_true]
  have key : ∀ k : Nat, (frontP (shift B o) (1 + (k : Int)) = false ↔ distN ((o.take (k + 1)).map (· % (k + 1))) = true) := by
    intro k
    unfold frontP
    rw [toNat_one_add, ← List.map_take, unlike_shift, Bool.not_eq_false']
  constructor
  · intro h k hk
    exact (key k).mp (h k (List.mem_range.mp hk))
  · intro h k hk
    exact (key k).mpr (h k (List.mem_range.mpr hk))
theorem rows_is {B : Int} {o : List Nat} {n : Nat} : RowsOk (shift B o) n n ↔ rowsN o n = true := by
  unfold RowsOk
  rw [rowsN, List.all_eq_true]
  have key : ∀ k q : Nat, (rowOk (shift B o) q (1 + (k : Int)) ↔ distN (((o.drop (q * (k + 1))).take (k + 1)).map (· % (k + 1))) = true) := by
    intro k q
    unfold rowOk
    have e : ((q : Int) * (1 + (k : Int))).toNat = q * (k + 1) := by
      rw [show (q : Int) * (1 + (k : Int)) = ((q * (k + 1) : Nat) : Int) by rw [Int.natCast_mul]; congr 1; omega]
      omega
    rw [toNat_one_add, e, ← List.map_drop, ← List.map_take, unlike_shift]
  have cond : ∀ k q : Nat, ((q : Int) * (1 + (k : Int)) + (1 + (k : Int)) ≤ (n : Int) ↔ q * (k + 1) + (k + 1) ≤ n) := by
    intro k q
    rw [show (q : Int) * (1 + (k : Int)) = ((q * (k + 1) : Nat) : Int) by rw [Int.natCast_mul]; congr 1; omega]
    omega
  constructor
  · intro h k hk
    rw [List.all_eq_true]
    intro q _
    cases c : Nat.ble (q * (k + 1) + (k + 1)) n with
    | false => rfl
    | true => exact (key k q).mp (h k (List.mem_range.mp hk) q ((cond k q).mpr (Nat.le_of_ble_eq_true c)))
  · intro h k hk q hq
    have h1 := (cond k q).mp hq
    have hqn : q < n := by
      have : q * 1 ≤ q * (k + 1) := Nat.mul_le_mul_left q (by omega)
      omega
    have h2 := h k (List.mem_range.mpr hk)
    rw [List.all_eq_true] at h2
    have h3 := h2 q (List.mem_range.mpr hqn)
    rw [Nat.ble_eq_true_of_le h1] at h3
    exact (key k q).mpr h3
/-- the two lines, told by numbers -/
theorem comes_is {f : Nat → Str} {n : Nat} {rs : List Str} (hr : ∀ i, i < n → rs.getD i Str.empty = f i) (hinj : ∀ i j, i < n → j < n → f i = f j → i = j) (hne : ∀ i, i < n → f i ≠ Str.empty) :
    ∀ (o P H : List Nat), (∀ i ∈ o, i < n) → (∀ i ∈ P, i < n) → (∀ i ∈ H, i < n) → comesG rs (up o) (P.map f ++ [Str.empty]) (H.map f ++ [Str.empty]) = comesN n o P H
  | [], _, _, _, _, _ => rfl
  | i :: o, P, H, ho, hP, hH => by
    have hi := ho i List.mem_cons_self
    have ho' : ∀ j ∈ o, j < n := fun j hj => ho j (List.mem_cons_of_mem _ hj)
    have head : ∀ T : List Nat, (∀ j ∈ T, j < n) → ((rs.getD ((i : Int)).toNat Str.empty == (T.map f ++ [Str.empty]).headD Str.empty) = true ↔ Nat.beq i (T.headD n) = true) := by
      intro T hT
      rw [show ((i : Int)).toNat = i from rfl, hr i hi, Nat.beq_eq]
      cases T with
      | nil =>
        simp only [List.map_nil, List.nil_append, List.headD_cons, List.headD_nil, beq_iff_eq]
        exact ⟨fun h => absurd h (hne i hi), fun h => by omega⟩
      | cons a r =>
        simp only [List.map_cons, List.cons_append, List.headD_cons, beq_iff_eq]
        exact ⟨fun h => hinj i a hi (hT a List.mem_cons_self) h, fun h => by rw [h]⟩
    have tail : ∀ T : List Nat, Nat.beq i (T.headD n) = true → (T.map f ++ [Str.empty]).tail = T.tail.map f ++ [Str.empty] := by
      intro T h
      cases T with
      | nil =>
        rw [Nat.beq_eq] at h
        simp only [List.headD_nil] at h
        omega
      | cons a r => rfl
    have tl : ∀ T : List Nat, (∀ j ∈ T, j < n) → ∀ j ∈ T.tail, j < n := fun T hT j hj => hT j (List.mem_of_mem_tail hj)
    show (if (rs.getD ((i : Int)).toNat Str.empty == (P.map f ++ [Str.empty]).headD Str.empty) = true then comesG rs (up o) (P.map f ++ [Str.empty]).tail (H.map f ++ [Str.empty])
      else if (rs.getD ((i : Int)).toNat Str.empty == (H.map f ++ [Str.empty]).headD Str.empty) = true then comesG rs (up o) (P.map f ++ [Str.empty]) (H.map f ++ [Str.empty]).tail else false) = comesN n (i :: o) P H
    rw [comesN]
    cases c : Nat.beq i (P.headD n) with
    | true =>
      rw [if_pos ((head P hP).mpr c), tail P c, comes_is hr hinj hne o P.tail H ho' (tl P hP) hH]
      rfl
    | false =>
      rw [if_neg (fun z => by rw [(head P hP).mp z] at c; cases c)]
      cases d : Nat.beq i (H.headD n) with
      | true =>
        rw [if_pos ((head H hH).mpr d), tail H d, comes_is hr hinj hne o P H.tail ho' hP (tl H hH)]
        rfl
      | false =>
        rw [if_neg (fun z => by rw [(head H hH).mp z] at d; cases d)]
        rfl
theorem digits_inj {a b : Int} (ha : 0 ≤ a) (hb : 0 ≤ b) (h : digitsOf a = digitsOf b) : a = b := by
  obtain ⟨m, rfl⟩ := Int.eq_ofNat_of_zero_le ha
  obtain ⟨k, rfl⟩ := Int.eq_ofNat_of_zero_le hb
  unfold digitsOf at h
  rw [KIN.signs_num, KIN.signs_num] at h
  have := congrArg PySem.NumText.digitsVal h
  rw [KIN.val_back, KIN.val_back] at this
  rw [this]
theorem reply_inj {ds : List Int} {i j : Nat} (hi : i ≤ 6) (hj : j ≤ 6) (h : replyF ds (i : Int) = replyF ds (j : Int)) : i = j := by
  obtain ⟨m1, hm1, e1, a1, b1⟩ := rep_parts ds (i := (i : Int)) (by omega) (by omega)
  obtain ⟨m2, hm2, e2, a2, b2⟩ := rep_parts ds (i := (j : Int)) (by omega) (by omega)
  rw [h, e2] at e1
  unfold bodyOf at e1
  simp only [List.cons_append, List.nil_append, List.cons.injEq, true_and, List.append_assoc] at e1
  obtain ⟨rfl, _, _, e⟩ := e1
  have e3 : digitsOf (baseF ds + (j : Int)) = digitsOf (baseF ds + (i : Int)) := List.append_cancel_right e
  have := digits_inj a2 a1 e3
  omega
theorem cuts_is {ds : List Int} {o : List Nat} (h6 : ds.length ≤ 6) (e : orderF ds = up o) : filtR 0 (comesP ds) (ds.length + 1) = up (cutsN o ds.length) := by
  have hc : ∀ k : Nat, comesP ds (0 + (k : Int)) = comesN ds.length o ((List.range ds.length).take k).reverse ((List.range ds.length).drop k) := by
    intro k
    unfold comesP
    rw [e, show (0 + (k : Int)).toNat = k by omega, ← List.map_take, ← List.map_drop, ← List.map_reverse]
    refine comes_is (f := fun (i : Nat) => replyF ds (i : Int)) (fun i hi => replies_get hi) (fun i j hi hj h => reply_inj (by omega) (by omega) h) (fun i hi => (rep_reply ds (by omega) (by omega)).ne) o _ _ (orders_lt e) (fun i hi => ?_) (fun i hi => ?_)
    · exact List.mem_range.mp (List.mem_of_mem_take (List.mem_reverse.mp hi))
    · exact List.mem_range.mp (List.mem_of_mem_drop hi)
  unfold filtR cutsN up
  rw [List.filter_map]
  have e2 : (comesP ds ∘ fun (k : Nat) => (0 : Int) + (k : Int)) = fun k => comesN ds.length o ((List.range ds.length).take k).reverse ((List.range ds.length).drop k) := funext hc
  rw [e2]
  exact List.map_congr_left fun k _ => by omega
theorem check_all {n : Nat} {o : List Nat} (h3 : 3 ≤ n) (h6 : n ≤ 6) (ho : o ∈ ordersN n) : checkN o n = true := by
  have : n = 3 ∨ n = 4 ∨ n = 5 ∨ n = 6 := by omega
  rcases this with rfl | rfl | rfl | rfl
  · exact List.all_eq_true.mp check3 o ho
  · exact List.all_eq_true.mp check4 o ho
  · exact List.all_eq_true.mp check5 o ho
  · exact List.all_eq_true.mp check6 o ho
/-- all that the law asks of an order -/
theorem plain_all {ds : List Int} (h3 : 3 ≤ ds.length) (h6 : ds.length ≤ 6) : ∃ o, orderF ds = up o ∧ (filtR 1 (nearP (portsF ds)) ds.length = [] ↔ nearN o ds.length = true) ∧
    cutsN o ds.length = cond (nearN o ds.length) [o.headD 0, o.headD 0 + 1] [] ∧ (frontsN o ds.length = nearN o ds.length) ∧ (rowsN o ds.length = nearN o ds.length) := by
  obtain ⟨o, ho, e⟩ := order_is ds
  have c := check_all h3 h6 ho
  unfold checkN at c
  simp only [Bool.and_eq_true, beq_iff_eq] at c
  refine ⟨o, e, ?_, c.1.1, c.1.2, c.2⟩
  rw [ports_shift e]
  exact near_is (orders_len e) fun x hx => by have := orders_lt e x hx; omega
theorem head_up {o : List Nat} (h : o ≠ []) : (up o).getD (Int.toNat 0) 0 = ((o.headD 0 : Nat) : Int) := by
  cases o with
  | nil => exact absurd rfl h
  | cons a r => rfl
theorem plain_near {ds : List Int} (h3 : 3 ≤ ds.length) (h6 : ds.length ≤ 6) (h : filtR 1 (nearP (portsF ds)) ds.length = []) :
    filtR 0 (comesP ds) (ds.length + 1) = [(orderF ds).getD (Int.toNat 0) 0, (orderF ds).getD (Int.toNat 0) 0 + 1] := by
  obtain ⟨o, e, hn, hc, _⟩ := plain_all h3 h6
  have hne : o ≠ [] := fun z => by have := orders_len e; rw [z] at this; simp at this; omega
  rw [cuts_is h6 e, hc, hn.mp h, e, head_up hne]
  simp [up]
theorem plain_far {ds : List Int} (h3 : 3 ≤ ds.length) (h6 : ds.length ≤ 6) (h : ¬ filtR 1 (nearP (portsF ds)) ds.length = []) :
    filtR 0 (comesP ds) (ds.length + 1) = [] := by
  obtain ⟨o, e, hn, hc, _⟩ := plain_all h3 h6
  have hb : nearN o ds.length = false := Bool.eq_false_iff.mpr fun z => h (hn.mpr z)
  rw [cuts_is h6 e, hc, hb]
  rfl
theorem plain_fronts {ds : List Int} (h3 : 3 ≤ ds.length) (h6 : ds.length ≤ 6) : filtR 1 (frontP (portsF ds)) ds.length = [] ↔ filtR 1 (nearP (portsF ds)) ds.length = [] := by
  obtain ⟨o, e, hn, _, hf, _⟩ := plain_all h3 h6
  rw [hn, ← hf, ports_shift e]
  exact fronts_is
theorem plain_rows {ds : List Int} (h3 : 3 ≤ ds.length) (h6 : ds.length ≤ 6) : RowsOk (portsF ds) ds.length ds.length ↔ filtR 1 (nearP (portsF ds)) ds.length = [] := by
  obtain ⟨o, e, hn, _, _, hr⟩ := plain_all h3 h6
  rw [hn, ← hr, ports_shift e]
  exact rows_is
end

end
section
open PySem PySem.W PySem.Calls PyProof.Rows
set_option Elab.async false
set_option maxRecDepth 100000
set_option maxHeartbeats 8000000
local macro_rules | `(tactic| k_all) => `(tactic| exact tups_all (by assumption) (by omega))
local macro_rules | `(tactic| k_ne) => `(tactic| (refine neN ?_; (try dsimp only); first | exact Apart.l (by assumption) (by k_mem) | exact Apart.r (by assumption) (by k_mem) | omega))
theorem lawT : PySem.Challenge.rw_wn0036_01.Holds := hd (by
  k_go0
  (all_goals try k_fold)
  have h63 : List.length (α := Int) ‹List Int› ≤ 63 := by omega
  k_with_none
  k_with "MINE" => (with_reducible ((k_here; (with_reducible show wpAny _ _ (call (Value.ref 140) _) _ _ _); k_dflt (refine' draws_use ?k1 ?k2 ?k3 ?k4 ?k5 ?kA ?kh ?kF ?kK ?kd ?ku ?ka ?kI ?kn ?_; (case kA => exact rfl); (case kh => exact rfl); (case kF => exact rfl); (case kK => exact rfl); (case k1 => k_asm); (case k2 => k_asm); (case k3 => k_asm); (case k4 => k_asm); (case k5 => k_asm); (case kd => exact Nat.le_of_ble_eq_true rfl); (case ku => exact Nat.le_of_ble_eq_true rfl); (case ka => assumption); (case kI => assumption); (case kn => omega); k_whole; intro q' zs' k' ds' h' tk' F' N' l1 hI' hds'; k_lt l1; (try k_sweep)))))
  k_with "MINE" => (with_reducible ((k_here; (with_reducible show wpAny _ _ (call (Value.ref 147) _) _ _ _); k_dflt (refine' order_use ?k1 ?k2 ?k3 ?k4 ?k5 ?kA ?kh ?kF ?kK ?kd ?ku ?ka ?kI ?kn ?_; (case kA => exact rfl); (case kh => exact rfl); (case kF => exact rfl); (case kK => exact rfl); (case k1 => k_asm); (case k2 => k_asm); (case k3 => k_asm); (case k4 => k_asm); (case k5 => k_asm); (case kd => exact Nat.le_of_ble_eq_true rfl); (case ku => exact Nat.le_of_ble_eq_true rfl); (case ka => k_mem); (case kI => assumption); (case kn => omega); k_whole; intro q' zs' k' h' tk' F' N' l1 hI'; k_lt l1; (try k_sweep)))))
  k_with "MINE" => (with_reducible ((k_here; (with_reducible show wpAny _ _ (call (Value.ref 154) _) _ _ _); k_dflt (refine' reply_use ?k1 ?k2 ?k3 ?k4 ?k5 ?kA ?kh ?kF ?kK ?kd ?ku ?ka ?kI ?kn ?kp ?kq ?_; (case kA => exact rfl); (case kh => exact rfl); (case kF => exact rfl); (case kK => exact rfl); (case k1 => k_asm); (case k2 => k_asm); (case k3 => k_asm); (case k4 => k_asm); (case k5 => k_asm); (case kd => exact Nat.le_of_ble_eq_true rfl); (case ku => exact Nat.le_of_ble_eq_true rfl); (case ka => k_mem); (case kI => assumption); (case kn => omega); (case kp => omega); (case kq => omega); k_whole; intro t' h' tk' F' N'; (try k_sweep)))))
  k_with "MINE" => (with_reducible ((k_here; (with_reducible show wpAny _ _ (call (Value.ref 161) _) _ _ _); k_dflt (refine' written_use ?k1 ?k2 ?k3 ?k4 ?k5 ?kA ?kh ?kF ?kK ?kd ?ku ?ka ?_; (case kA => exact rfl); (case kh => exact rfl); (case kF => exact rfl); (case kK => exact rfl); (case k1 => k_asm); (case k2 => k_asm); (case k3 => k_asm); (case k4 => k_asm); (case k5 => k_asm); (case kd => exact Nat.le_of_ble_eq_true rfl); (case ku => exact Nat.le_of_ble_eq_true rfl); (case ka => first | assumption | omega); k_whole; intro t' h' tk' F' N'; (try k_sweep)))))
  k_with "MINE" => (with_reducible ((k_here; (with_reducible show wpAny _ _ (call (Value.ref 100) _) _ _ _); k_dflt (refine' parse_use ?k1 ?k2 ?k3 ?k4 ?k5 ?kA ?kh ?kF ?kK ?kd ?ku ?ka ?kr ?km ?kp ?kq ?_; (case kA => exact rfl); (case kh => exact rfl); (case kF => exact rfl); (case kK => exact rfl); (case k1 => k_asm); (case k2 => k_asm); (case k3 => k_asm); (case k4 => k_asm); (case k5 => k_asm); (case kd => exact Nat.le_of_ble_eq_true rfl); (case ku => exact Nat.le_of_ble_eq_true rfl); (case ka => k_mem); (case kr => assumption); (case km => assumption); (case kp => assumption); (case kq => assumption); k_whole; intro q' t3' t4' n' h' tk' F' N' l1; k_lt l1; (try k_sweep)))))
  k_with "MINE" => (with_reducible ((k_here; (with_reducible show wpAny _ _ (call (Value.ref 178) _) _ _ _); k_dflt (refine' unlike_use ?k1 ?k2 ?k3 ?k4 ?k5 ?kA ?kh ?kF ?kK ?kd ?ku ?ka ?kj ?kI ?kn ?_; (case kA => exact rfl); (case kh => exact rfl); (case kF => exact rfl); (case kK => exact rfl); (case k1 => k_asm); (case k2 => k_asm); (case k3 => k_asm); (case k4 => k_asm); (case k5 => k_asm); (case kd => exact Nat.le_of_ble_eq_true rfl); (case ku => exact Nat.le_of_ble_eq_true rfl); (case ka => k_mem); (case kj => omega); (case kI => assumption); (case kn => first | omega | (simp only [List.length_take, List.length_drop, List.length_map]; omega)); k_whole; intro h' tk' F' N'; (try k_sweep)))))
  k_with "MINE" => (with_reducible ((show wpAny _ _ (binaryOp Operator.Add (Value.ref _) (Value.ref _)) _ _ _); (k_here; k_dflt (refine' add_t ?kF ?kN ?ka ?kb ?kz ?_; (case kF => k_asm); (case kN => k_asm); (case ka => k_mem); (case kb => k_mem); (case kz => first | omega | (simp only [List.length_append, List.length_cons, List.length_nil]; omega)); k_whole; intro q' h' tk' F' N' l1; (try k_lt l1); (try k_sweep)))))
  k_with "MINE" => (with_reducible ((k_here; (with_reducible show wpAny _ _ (subscriptTail _ _ (Value.ref _) (Value.int _ _)) _ _ _); k_dflt (refine' item_words ?kN ?km ?ks ?k0 ?k1 ?kz ?_ ?kq; (case kN => k_asm); (case km => k_mem); (case ks => assumption); (case k0 => omega); (case k1 => first | omega | (simp only [List.length_map, List.length_range]; omega)); (case kz => first | omega | (simp only [List.length_map, List.length_range]; omega)); (case kq => with_unfolding_all rfl); intro t'))))
  k_with "MINE" => (with_reducible ((show wpAny _ _ (call (Value.builtin "str.join") _) _ _ _); (k_here; (with_reducible show wpAny _ _ (call (Value.builtin _) [Value.str _ _, Value.ref _]) _ _ _); k_dflt (refine' join_t ?kN ?km ?ks ?k1 ?kz ?_; (case kN => k_asm); (case km => k_mem); (case ks => assumption); (case k1 => assumption); (case kz => assumption); intro t' k'))))
  k_with "TB" => (repeat' (first | (k_unfold; (try dsimp only)) | (k_end; wrow_close) | ((fail_if_success (with_reducible show GoodW _ _ _ _ _ _ _)); (fail_if_success (with_reducible show wpAny _ _ (pyIter _) _ _ _)); (fail_if_success (with_reducible show wpAny _ _ (eval (Expr.ListComp _ _ _ _) _) _ _ _)); (fail_if_success (with_reducible show LCg.CompSrc _ _ _ _ _ _ _ _ _ _ _ _ _ _)); (fail_if_success (with_reducible show LCt.CompSrcT _ _ _ _ _ _ _ _ _ _ _ _ _ _ _)); (fail_if_success (with_reducible show LCg.CompEnd _ _ _ _ _ _ _ _ _ _ _ _ _ _)); (fail_if_success (with_reducible show TwoSrc _ _ _ _ _ _ _ _ _ _ _ _ _ _ _ _ _)); (fail_if_success (with_reducible show InSrc _ _ _ _ _ _ _ _ _ _ _ _ _ _ _ _ _ _ _ _ _ _ _ _ _)); (fail_if_success (with_reducible show End2 _ _ _ _ _ _ _ _)); (fail_if_success (with_reducible show wpAny _ _ (call (Value.ref 166) _) _ _ _)); (fail_if_success (with_reducible show wpAny _ _ (call (Value.ref 173) _) _ _ _)); (fail_if_success (with_reducible show wpAny _ _ (compareOp CmpOp.NotEq (Value.ref _) (Value.ref _)) _ _ _)); (fail_if_success (with_reducible show wpAny _ _ (exec (Stmt.Assign _ (Expr.ListComp _ _ _ _) _) _) _ _ _)); first | k_extra "MINE" | walk1) | (dsimp only; (fail_if_success (with_reducible show GoodW _ _ _ _ _ _ _)); (fail_if_success (with_reducible show wpAny _ _ (pyIter _) _ _ _)); (fail_if_success (with_reducible show wpAny _ _ (eval (Expr.ListComp _ _ _ _) _) _ _ _)); (fail_if_success (with_reducible show LCg.CompSrc _ _ _ _ _ _ _ _ _ _ _ _ _ _)); (fail_if_success (with_reducible show LCt.CompSrcT _ _ _ _ _ _ _ _ _ _ _ _ _ _ _)); (fail_if_success (with_reducible show LCg.CompEnd _ _ _ _ _ _ _ _ _ _ _ _ _ _)); (fail_if_success (with_reducible show TwoSrc _ _ _ _ _ _ _ _ _ _ _ _ _ _ _ _ _)); (fail_if_success (with_reducible show InSrc _ _ _ _ _ _ _ _ _ _ _ _ _ _ _ _ _ _ _ _ _ _ _ _ _)); (fail_if_success (with_reducible show End2 _ _ _ _ _ _ _ _)); (fail_if_success (with_reducible show wpAny _ _ (call (Value.ref 166) _) _ _ _)); (fail_if_success (with_reducible show wpAny _ _ (call (Value.ref 173) _) _ _ _)); (fail_if_success (with_reducible show wpAny _ _ (compareOp CmpOp.NotEq (Value.ref _) (Value.ref _)) _ _ _)); (fail_if_success (with_reducible show wpAny _ _ (exec (Stmt.Assign _ (Expr.ListComp _ _ _ _) _) _) _ _ _)); first | k_extra "MINE" | walk1) | (leave1; walk_say "STEP leave1"; try dsimp only) | fail "no step"))
  k_extra "TB"
  rename IntsAre _ (orderF _) => hO
  rename _ = 3 + _ => hn0
  have hol := hO.length
  walk1
  k_extra "TB"
  refine LCg.ListComp_U (F₀ := by k_asm) (by with_unfolding_all rfl) (by decide) (by rfl) (by decide) (by rfl) ?_
  k_extra "TB"
  refine' LCg.CompSrc.range rfl (by k_asm) (by k_asm) (by assumption) ?q1 ?q2 ?q3 ?_
  case q1 => exact (range_facts (by omega)).1
  case q2 => exact (range_facts (by omega)).2
  case q3 => rw [sizeLine_eq]; omega
  intro gg
  rename List Int => ds
  refine' restU_ind (fun i zs => StrsAre zs ((List.range i).map fun (i : Nat) => replyF ds (i : Int))) ?h0 ?st ?fi
  case h0 => exact .nil
  case st =>
    intro r i zs hi hp ih
    have hz := hp
    refine LCg.CompRest.succ ?_
    intro v' I oI C oC D' m' h' tk' E' hv' hC' hx' F' N' off' ne'
    obtain ⟨t, hv⟩ := hv'
    rw [Int.zero_add] at hv
    subst hv
    simp only [LCg.Off3, and_true] at off'
    k_extra "TB"
    refine LCg.CompEnd.intro (by k_asm) (by k_asm) _ ?_ (by simp only [LCg.Off3, and_true]; exact off') trivial (ih _ (strs_snoc (f := fun i : Nat => replyF ds (i : Int)) hz))
    exact fun q hq => hq
  case fi =>
    intro zs hp
    have hz := hp
    intro D₂ hp₂ tk₂ F₂ N₂ off₂
    have ap := apart_of off₂
    simp only [List.map_cons, List.map_nil] at ap
    clear off₂
    k_extra "TB"
    refine LCg.ListComp_U (F₀ := by k_asm) (by with_unfolding_all rfl) (by decide) (by rfl) (by decide) (by rfl) ?_
    k_extra "TB"
    refine' LCg.CompSrc.range rfl (by k_asm) (by k_asm) (by assumption) ?q1 ?q2 ?q3 ?_
    case q1 => exact (range_facts (by omega)).1
    case q2 => exact (range_facts (by omega)).2
    case q3 => rw [sizeLine_eq]; omega
    intro gg2
    refine' restU_ind (fun i zs => StrsAre zs ((List.range i).map fun (i : Nat) => writtenF (replyF ds (i : Int)) (mannerF ds i))) ?h0 ?st ?fi
    case h0 => exact .nil
    case st =>
      intro r i zs2 hi hp2 ih
      refine LCg.CompRest.succ ?_
      intro v' I oI C oC D' m' h' tk' E' hv' hC' hx' F' N' off' ne'
      obtain ⟨t, hv⟩ := hv'
      rw [Int.zero_add] at hv
      subst hv
      simp only [LCg.Off3, and_true] at off'
      have hwl : ((repliesF ds ds.length).getD ((i : Int)).toNat Str.empty).length ≤ 40 := by
        rw [show ((i : Int)).toNat = i from rfl, replies_get hi, len_list]
        exact Nat.le_trans (rep_reply ds (by omega) (by omega)).len (by decide)
      k_extra "TB"
      have e1 : (repliesF ds ds.length).getD ((i : Int)).toNat Str.empty = replyF ds (i : Int) := replies_get hi
      refine LCg.CompEnd.intro (by k_asm) (by k_asm) _ ?_ (by simp only [LCg.Off3, and_true]; exact off') trivial (ih _ (by rw [e1]; exact strs_snoc (f := fun (i : Nat) => writtenF (replyF ds (i : Int)) (mannerF ds i)) hp2))
      exact fun q hq => hq
    case fi =>
      intro zs2 hp2
      have hsl : ((List.range ds.length).map fun (i : Nat) => writtenF (replyF ds (i : Int)) (mannerF ds i)).length ≤ 6 := by rw [List.length_map, List.length_range]; omega
      have hwl := written_lens (ds := ds) (n := ds.length) (by omega)
      intro D₂ hp₂ tk₂ F₂ N₂ off₂
      have ap2 := apart_of off₂
      simp only [List.map_cons, List.map_nil] at ap2
      clear off₂
      k_extra "TB"
      refine' read_use (ps := psF ds ds.length) ?k1 ?k2 ?k3 ?k4 ?k5 ?kA ?kh ?kF ?kK ?kd ?ku (ps_rep (by omega)) ?ka (text_is ds ds.length) ?kb ?kU ?_
      case kA => exact rfl
      case kh => exact rfl
      case kF => exact rfl
      case kK => exact rfl
      case k1 => k_asm
      case k2 => k_asm
      case k3 => k_asm
      case k4 => k_asm
      case k5 => k_asm
      case kd => exact Nat.le_of_ble_eq_true rfl
      case ku => exact Nat.le_of_ble_eq_true rfl
      case ka => rw [List.length_map, List.length_range]; omega
      case kb => rw [List.length_map, List.length_range]
      case kU => k_updF
      k_whole
      intro qw zw kw oP h' tk' F' N' l1 hW
      k_lt l1
      (try dsimp only at N')
      rw [ps_fst] at hW
      k_sweep
      k_extra "TB"
      have hzl : zs.length = ds.length := by rw [hz.length, List.length_map, List.length_range]
      k_extra "TB"
      refine ne_strs_same (by k_asm) (by k_mem) (by k_mem) hW (strs_append hz (.cons _ _ .nil)) (words_ok (by omega)) (Nat.le_of_ble_eq_true rfl) ?_
      k_extra "TB"
      have hol2 := order_len ds
      have hor := order_range ds
      refine LCg.Assign_ListComp_U (F₀ := by k_asm) rfl (by with_unfolding_all rfl) (by with_unfolding_all rfl) (by decide) (by rfl) (by decide) (by rfl) (by rfl) (by rfl) ?_
      k_extra "TB"
      refine LCg.CompSrc.ledger rfl (by k_asm) (by k_asm) (by k_mem) (by size_fits) ?_
      intro gg3
      refine' tup_ind (fun i => ((orderF ds).take i).map fun i => baseF ds + i) qw rfl ?st ?fi
      case st =>
        intro r i l hi hlk hlq ih
        refine LCg.CompRest.succ ?_
        intro v' I oI C oC D' m' h' tk' E' hv' hC' hx' F' N' off' ne'
        obtain ⟨o, t, rfl, ho, _⟩ := ints_at hO hv'
        obtain ⟨ho0, ho1⟩ := hor o (List.mem_of_getElem? ho)
        obtain ⟨mk, hmk, hcodes, hk0, hk1⟩ := rep_parts ds ho0 (by omega)
        rw [← word_at (n := ds.length) ho0 ho1] at hcodes
        simp only [List.cons_append, List.nil_append] at N'
        have ap3 := LCg.Off3.mem off'
        k_extra "TB"
        refine' LCg.CompEnd.intro (by k_asm) (by k_asm) _ ?ks ?ko ?kS (ih ⟨_, _, _, _, _⟩ (portsF_succ ho) ?kl)
        case ks => exact sub_snoc (fun p hp => .tail _ (.tail _ hp)) (by k_mem)
        case kS => exact .inr ⟨_, List.mem_append_left _ (by k_mem), rfl, _, rfl⟩
        case ko => refine off3_snoc off' ?_ ?_ ?_ <;> (dsimp only; omega)
        case kl => dsimp only; omega
      case fi =>
        intro l hlk hlq
        intro D₂ hp₂ tk₂ F₂ N₂ off₂
        simp only [List.cons_append, List.nil_append] at N₂
        have ap4 := apart_of off₂
        simp only [List.cons_append, List.nil_append, List.map_cons] at ap4
        clear off₂
        replace N₂ : News _ _ _ _ := News.cut (News.cut (News.cut (News.cut N₂ 4) 3) 2) 1
        simp only [List.eraseIdx_cons_succ, List.eraseIdx_cons_zero] at N₂
        dsimp only
        k_extra "TB"
        refine LCg.ListComp_U (F₀ := by k_asm) (by with_unfolding_all rfl) (by decide) (by rfl) (by decide) (by rfl) ?_
        k_extra "TB"
        refine LCg.CompSrc.ledger rfl (by k_asm) (by k_asm) (by k_mem) (by size_fits) ?_
        intro gg4
        refine' tup_ind (fun i => ((orderF ds).take i).map fun i => baseF ds + i) 163 rfl ?st ?fi
        case st =>
          intro r i l' hi hlk' hlq' ih
          refine LCg.CompRest.succ ?_
          intro v' I oI C oC D' m' h' tk' E' hv' hC' hx' F' N' off' ne'
          obtain ⟨o, t, rfl, ho, _⟩ := ints_at hO hv'
          obtain ⟨ho0, ho1⟩ := hor o (List.mem_of_getElem? ho)
          simp only [List.cons_append, List.nil_append] at N'
          have ap3 := LCg.Off3.mem off'
          k_extra "TB"
          refine' LCg.CompEnd.intro (by k_asm) (by k_asm) _ ?ks ?ko ?kS (ih ⟨_, _, _, _, _⟩ (portsF_succ ho) ?kl)
          case ks => exact sub_snoc (fun p hp => .tail _ hp) (by k_mem)
          case kS => exact .inr ⟨_, List.mem_append_left _ (by k_mem), rfl, _, rfl⟩
          case ko => refine off3_snoc off' ?_ ?_ ?_ <;> (dsimp only; omega)
          case kl => dsimp only; omega
        case fi =>
          intro l' hlk' hlq'
          intro D₃ hp₃ tk₃ F₃ N₃ off₃
          simp only [List.cons_append, List.nil_append] at N₃
          clear off₃
          refine ne_tups (by k_asm) (by k_mem) (by k_mem) (fun x hx => ?m1) (fun x hx => ?m2) (Nat.le_of_ble_eq_true rfl) (hlk.trans hlk'.symm) ?_
          case m1 => repeat (first | exact List.mem_append_left _ (List.mem_map_of_mem hx) | refine List.Mem.tail _ ?_)
          case m2 => repeat (first | exact List.mem_append_right _ (List.mem_map_of_mem hx) | refine List.Mem.tail _ ?_)
          replace N₃ : News _ _ _ _ := News.cut N₃ 0
          simp only [List.eraseIdx_cons_zero] at N₃
          have hlk2 := tup_full hlk hO
          have hll : l.length = ds.length := by have := congrArg List.length hlk2; rw [List.length_map, List.length_map, order_len] at this; exact this
          k_extra "TB"
          walk1
          k_extra "TB"
          refine LCg.ListComp_U (F₀ := by k_asm) (by with_unfolding_all rfl) (by decide) (by rfl) (by decide) (by rfl) ?_
          k_extra "TB"
          refine LCg.CompSrc.ledger rfl (by k_asm) (by k_asm) (by k_mem) (by rw [List.size_toArray, List.length_map, sizeLine_eq]; omega) ?_
          intro gg5
          refine' restU_ind (fun i zs => IntsAre zs ((portsF ds).take i)) ?h0 ?st ?fi
          case h0 => exact .nil
          case st =>
            intro r i zp hi hp ih
            refine LCg.CompRest.succ ?_
            intro v' I oI C oC D' m' h' tk' E' hv' hC' hx' F' N' off' ne'
            obtain ⟨x, hxl, hxi, rfl⟩ := tup_at hv'
            have N'' := News.dup N' (q := x.e) (by repeat (first | exact List.mem_append_left _ (List.mem_map_of_mem hxl) | refine List.Mem.tail _ ?_))
            dsimp only [TupR.e, TupR.o] at N''
            clear N'
            k_extra "TB"
            refine LCg.CompEnd.intro (by k_asm) (by k_asm) _ (fun q hq => .tail _ hq) off' (.inr ⟨_, by k_mem, rfl, _, rfl⟩) (ih _ (ports_snoc hlk2 hxi hp))
          case fi =>
            intro zp hp
            have hP : IntsAre zp (portsF ds) := by rw [List.take_of_length_le (by rw [List.length_map, List.size_toArray, List.length_map, hll, order_len]; exact Nat.le_refl _)] at hp; exact hp
            intro D₅ hp₅ tk₅ F₅ N₅ off₅
            have ap5 := apart_of off₅
            simp only [List.map_cons] at ap5
            clear off₅
            replace N₅ : News _ _ _ _ := News.cut (News.cut (News.upto N₅ 13) 1) 3
            simp only [List.take_succ_cons, List.take_zero, List.eraseIdx_cons_succ, List.eraseIdx_cons_zero] at N₅
            k_extra "TB"
            have hPl : zp.length = ds.length := by rw [hP.length, List.length_map, order_len]
            refine LCt.ListComp_T (F₀ := by k_asm) (by with_unfolding_all rfl) (by decide) (by rfl) (by decide) (by rfl) ?_
            k_extra "TB"
            refine' LCt.CompSrcT.range (n := ds.length) rfl (by k_asm) (by k_asm) (by assumption) ?q1 ?q2 ?q3 ?_
            case q1 => exact (range1_facts (by omega)).1
            case q2 => exact (range1_facts (by omega)).2
            case q3 => rw [sizeLine_eq]; omega
            intro gg6
            refine' restT_ind (fun i zs => IntsAre zs (filtR 1 (nearP (portsF ds)) i)) ?h0 ?st ?fi
            case h0 => exact filt_zero
            case st =>
              intro r i zn hi hp ih
              have hz2 := hp
              refine LCt.CompRestT.succ ?_
              intro v' I' oI' C' oC' D' m' h' tk' E' hv' hC' hx' F' N' off' ne'
              obtain ⟨t, rfl⟩ := hv'
              k_extra "TB"
              · refine LCg.CompEnd.intro (by k_asm) (by k_asm) _ (fun q hq => .tail _ (.tail _ hq)) off' trivial (ih _ (filt_yes hz2 (near_yes (by assumption) (by assumption) (by assumption) (by assumption) (by assumption))))
              · refine LCg.CompEnd.intro (by k_asm) (by k_asm) _ (fun q hq => .tail _ (.tail _ hq)) off' trivial (ih _ (filt_no hz2 (near_no (by assumption) (by assumption) (by assumption) (by assumption) (by assumption))))
            case fi =>
              intro zn hp
              have hz2 := hp
              intro D₆ hp₆ tk₆ F₆ N₆ off₆
              have ap6 := apart_of off₆
              simp only [List.map_cons, List.map_nil] at ap6
              clear off₆
              k_extra "TB"
              have hrl : (repliesF ds ds.length).length = ds.length := by rw [List.length_map, List.length_range]
              have hor2 : ∀ i ∈ orderF ds, 0 ≤ i ∧ i < (((repliesF ds ds.length).length : Nat) : Int) := by rw [hrl]; exact hor
              have hne2 : Str.empty ∉ repliesF ds ds.length := by
                intro hm
                obtain ⟨i, hi, e⟩ := List.mem_map.mp hm
                have := List.mem_range.mp hi
                exact (rep_reply ds (by omega) (by omega)).ne e
              refine LCt.Assign_ListComp_T (F₀ := by k_asm) rfl (by with_unfolding_all rfl) (by with_unfolding_all rfl) (by decide) (by rfl) (by decide) (by rfl) (by rfl) (by rfl) ?_
              k_extra "TB"
              refine' LCt.CompSrcT.range (n := ds.length + 1) rfl (by k_asm) (by k_asm) (by assumption) ?q1 ?q2 ?q3 ?_
              case q1 => exact (range_facts (n := ds.length + 1) (by omega)).1
              case q2 => exact (range_facts (n := ds.length + 1) (by omega)).2
              case q3 => rw [sizeLine_eq]; omega
              intro gg7
              refine' restT_ind (fun i zs => IntsAre zs (filtR 0 (comesP ds) i)) ?h0 ?st ?fi
              case h0 => exact filt_zero
              case st =>
                intro r i zn2 hi hp ih
                refine LCt.CompRestT.succ ?_
                intro v' I' oI' C' oC' D' m' h' tk' E' hv' hC' hx' F' N' off' ne'
                obtain ⟨t, rfl⟩ := hv'
                k_extra "TB"
                refine' comes_use ?k1 ?k2 ?k3 ?k4 ?k5 ?kA ?kh ?kF ?kK ?kd ?ku ?ka ?kb ?kW ?kO ?kl ?ko ?kn ?ke ?kc ?kz ?kq ?_
                case kA => exact rfl
                case kh => exact rfl
                case kF => exact rfl
                case kK => exact rfl
                case k1 => k_asm
                case k2 => k_asm
                case k3 => k_asm
                case k4 => k_asm
                case k5 => k_asm
                case kd => exact Nat.le_of_ble_eq_true rfl
                case ku => exact Nat.le_of_ble_eq_true rfl
                case ka => k_mem
                case kb => k_mem
                case kW => exact hz
                case kO => exact hO
                case kl => rw [hrl]; omega
                case ko => omega
                case kn => exact hor2
                case ke => exact hne2
                case kc => omega
                case kz => rw [hrl]; omega
                case kq => k_ne
                k_whole
                intro h' tk' F' N'
                k_extra "TB"
                · refine LCg.CompEnd.intro (by k_asm) (by k_asm) _ (fun q hq => hq) off' trivial (ih _ (filt_yes hp (by assumption)))
                · refine LCg.CompEnd.intro (by k_asm) (by k_asm) _ (fun q hq => hq) off' trivial (ih _ (filt_no hp (by assumption)))
              case fi =>
                intro zn2 hp
                have hz3 := hp
                intro D₇ hp₇ tk₇ F₇ N₇ off₇
                have ap7 := apart_of off₇
                simp only [List.map_cons, List.map_nil] at ap7
                clear off₇
                dsimp only
                walk1
                walk1
                refine join_here false (by k_asm) (by k_asm) ?j1 ?j2
                case j1 =>
                  k_extra "TB"
                  · rename decide _ = true => hnr
                    refine ne_ints_same (by k_asm) (by k_mem) (by k_mem) hz3 (.cons _ _ (.cons _ _ .nil)) (plain_near (by omega) (by omega) (of_decide_eq_true hnr)) (Nat.le_of_ble_eq_true rfl) ?_
                    k_extra "TB"
                    · k_asm
                    · rename News _ _ _ _ => NN
                      exact News.less NN (fun q hq => .tail _ hq)
                  · rename decide _ = false => hnr
                    refine ne_ints_same (by k_asm) (by k_mem) (by k_mem) hz3 .nil (plain_far (by omega) (by omega) (of_decide_eq_false hnr)) (Nat.le_of_ble_eq_true rfl) ?_
                    k_extra "TB"
                    · k_asm
                    · rename News _ _ _ _ => NN
                      exact News.less NN (fun q hq => .tail _ hq)
                case j2 =>
                  intro h' tk' F' N'
                  dsimp only
                  clear N₇ F₇
                  k_extra "TB"
                  refine LCt.ListComp_T (F₀ := by k_asm) (by with_unfolding_all rfl) (by decide) (by rfl) (by decide) (by rfl) ?_
                  k_extra "TB"
                  refine' LCt.CompSrcT.range (n := ds.length) rfl (by k_asm) (by k_asm) (by assumption) ?q1 ?q2 ?q3 ?_
                  case q1 => exact (range1_facts (by omega)).1
                  case q2 => exact (range1_facts (by omega)).2
                  case q3 => rw [sizeLine_eq]; omega
                  intro gg8
                  refine' restT_ind (fun i zs => IntsAre zs (filtR 1 (frontP (portsF ds)) i)) ?h0 ?st ?fi
                  case h0 => exact filt_zero
                  case st =>
                    intro r i zn3 hi hp ih
                    refine LCt.CompRestT.succ ?_
                    intro v' I' oI' C' oC' D' m' h' tk' E' hv' hC' hx' F' N' off' ne'
                    obtain ⟨t, rfl⟩ := hv'
                    k_extra "TB"
                    · refine LCg.CompEnd.intro (by k_asm) (by k_asm) _ (fun q hq => .tail _ hq) off' trivial (ih _ (filt_no hp (front_no (by assumption))))
                    · refine LCg.CompEnd.intro (by k_asm) (by k_asm) _ (fun q hq => .tail _ hq) off' trivial (ih _ (filt_yes hp (front_yes (by assumption))))
                  case fi =>
                    intro zn3 hp
                    have hz4 := hp
                    intro D₈ hp₈ tk₈ F₈ N₈ off₈
                    have ap8 := apart_of off₈
                    simp only [List.map_cons, List.map_nil] at ap8
                    clear off₈
                    walk1
                    walk1
                    walk1
                    refine eq_ints_nil (P := filtR 1 (nearP (portsF ds)) ds.length = []) (by k_asm) (by k_mem) (by k_mem) hz4 (plain_fronts (by omega) (by omega)) (Nat.le_of_ble_eq_true rfl) ?_
                    k_extra "TB"
                    have hpl : (portsF ds).length = ds.length := by rw [List.length_map, order_len]
                    refine listComp_two (by k_asm) (by with_unfolding_all rfl) (by decide) (by rfl) (by decide) (by rfl) (by rfl) (by decide) ?_
                    k_extra "TB"
                    refine' TwoSrc.intro (n := ds.length) (JRow (portsF ds) ds.length) rfl (by k_asm) (by k_asm) (by assumption) ?q1 ?q2 jrow_zero ?turn ?fin
                    case q1 => exact (range1_facts (by omega)).1
                    case q2 => exact (range1_facts (by omega)).2
                    case turn =>
                      intro i ys hi hp I oI C oC D m₂ h tk t E' hC hx F' N'
                      k_extra "TB"
                      obtain ⟨kk, hk1, hk3⟩ := step_size2 (b := (ds.length : Int) - (1 + (i : Int)) + 1) (c := 1 + (i : Int)) (by omega) (by omega)
                      have hk6 : kk ≤ 6 := by
                        by_cases c : kk ≤ 6
                        · exact c
                        · have h1 := (hk3 6).mp (by omega)
                          have h2 : 6 * 1 ≤ ((6 : Nat) : Int) * (1 + (i : Int)) := Int.mul_le_mul_of_nonneg_left (by omega) (by decide)
                          omega
                      refine' InSrc.intro (JJRow (portsF ds) ds.length i kk) (by k_asm) (by k_asm) ?sub (by assumption) ?q1 hk1 (jj_zero (by omega) hk6 hp) (fun _ _ h => jj_len h) (fun _ h => jj_end hk3 h) ?inn
                      case sub => exact fun q hq => hq
                      case q1 => exact step_small (by omega) (by omega) (by omega) (by omega) (by omega) (by omega)
                      case inn =>
                        intro k zs hk hj I2 oI2 oC m₃ h tk t E' hC hx hy F' N'
                        have hlt := (hk3 k).mp hk
                        have hge : 0 ≤ (k : Int) * (1 + (i : Int)) := Int.mul_nonneg (by omega) (by omega)
                        generalize hkk : 0 + (k : Int) * (1 + (i : Int)) = kk2 at hy hlt
                        have hk0 : 0 ≤ kk2 := by omega
                        have hk9 : kk2 + (1 + (i : Int)) ≤ ((portsF ds).length : Int) := by omega
                        k_extra "TB"
                        · exact End2.intro (by k_asm) (by k_asm) (fun q hq => .tail _ hq) (jj_keep hkk hk0 hk9 hk hj (by assumption))
                        · exact End2.intro (by k_asm) (by k_asm) (fun q hq => .tail _ hq) (jj_add hkk hk0 hk9 hk hj (by assumption))
                    case fin =>
                      intro ys hp
                      obtain ⟨es, hes, hel, hem⟩ := hp
                      intro D₉ hp₉ tk₉ F₉ N₉ off₉
                      have ap9 := apart_of off₉
                      simp only [List.map_cons, List.map_nil] at ap9
                      clear off₉
                      walk1
                      walk1
                      walk1
                      refine eq_ints_nil (P := filtR 1 (nearP (portsF ds)) ds.length = []) (by k_asm) (by k_mem) (by k_mem) hes (hem.trans (plain_rows (by omega) (by omega))) (Nat.le_of_ble_eq_true rfl) ?_
                      iterate 9 walk1
                      simp only [beq_self_eq_true]
                      iterate 7 walk1
                      simp only [beq_self_eq_true]
                      refine And.intro ?g1 ?g2
                      case g1 => (k_end; wrow_close)
                      case g2 => walk1)
end
end Mine

set_option maxRecDepth 100000 in
set_option maxHeartbeats 8000000 in
theorem PySem.Challenge.cw_wn0036_01_holds : PySem.Challenge.rw_wn0036_01.Holds := by
  exact Mine.lawT
