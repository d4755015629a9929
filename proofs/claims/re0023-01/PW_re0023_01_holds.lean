import PyProof.Rows.All
import Wide.All
import OpenK.AllK
import Wide.FinOn
import PySem.Challenge.RW_re0023_01
set_option Elab.async false
local macro_rules | `(tactic| walk_at $s:str) => `(tactic| k_extra $s)
local macro_rules | `(tactic| k_mem) => `(tactic| k_extra "k_mem")
local macro_rules | `(tactic| k_inst) => `(tactic| k_extra "k_inst")
local macro_rules | `(tactic| k_all) => `(tactic| k_extra "k_all")
local macro_rules | `(tactic| x_close) => `(tactic| k_extra "x_close")
local macro_rules | `(tactic| kmk_sign) => `(tactic| k_extra "kmk_sign")

section -- Hd
open PySem PySem.W PyProof.Rows
set_option maxRecDepth 100000
set_option maxHeartbeats 8000000
namespace Mine
-- the written part of the heap (hd.heap_1) and the view (hd.view_1): k_head lays them; what it asks for is left open
theorem two {P Q R : Prop} (_ : P) (_ : Q) (q : R) : R := q
theorem hd : ∃ P Q : Prop, P → Q → PySem.Challenge.rw_re0023_01.row.wellSaid = true → PySem.Challenge.rw_re0023_01.row.Holds := by
  refine' ⟨_, _, fun l c said => ?m⟩
  case m =>
    refine' two ?hl ?hc ?main
    case main =>
      w_on
      k_head
      case hw => w_witness2
    case hl => exact l
    case hc => exact c
theorem heard (h : PySem.Challenge.rw_re0023_01.row.wellSaid = true → PySem.Challenge.rw_re0023_01.row.Holds) : PySem.Challenge.rw_re0023_01.Holds := by
  w_on
  o_law
  exact h (by assumption)
noncomputable abbrev headAs : List Addr := [2, 3, 15, 17, 18, 20, 21, 22, 25, 30, 31, 32, 34, 35, 37, 38, 39, 41, 42, 44, 45, 46, 47, 49, 50, 52, 53, 54, 55, 57, 58, 60, 61, 62, 64, 65, 67, 68, 69, 71, 72, 74, 75, 76, 77, 79, 80, 82, 83, 84, 86, 87, 89, 90, 91, 92, 94, 95, 97, 98, 99, 100, 101, 102, 103, 106, 108, 109, 111, 112, 120, 122, 123, 125, 126, 127, 129, 130, 132, 133, 134, 136, 137, 139, 140, 141, 143, 144, 146, 147, 148, 149, 150, 151, 152, 155, 157, 158, 160, 161, 162, 164, 165, 167, 168, 169, 172, 173]
noncomputable abbrev headXt (s : Shared) : Bool := xlAt hd.view_1 [] s && recOk PySem.Challenge.rw_re0023_01.row.records s
theorem headKeys : ∀ P, headAs = (hd.heap_1 P).map (·.1) := fun _ => by kernel_rfl
noncomputable abbrev headHook : Hook := kmHook hd.heap_1 headAs headKeys [156]
theorem opens : opening PySem.Challenge.pw_re0023_01 = plainProg PySem.Challenge.pw_re0023_01.main.scope.names := by kernel_rfl
theorem fenced : ∀ s, fenceModules? PySem.Challenge.pw_re0023_01 s = some s := fun s => by kernel_rfl
theorem left_of {p q : Program} {loose : List Str} {Xt : Shared → Bool} {α : Type} {Yf : Shared → α} {Ya : World → α} {N : Nat} (e : opening p = plainProg p.main.scope.names) (hN : Nat.ble 600 N = true) (f : ∀ s, fenceModules? p s = some s)
    (h : ∀ w os, (topFrom treeTable p w N ⟨boot_heap w.params, Array.mk [], boot_drawn, boot_toks, os⟩).map (fun s => (openSeen q loose (importedModules p.main.body) Xt true s, Yf s)) = some (openGood q loose, Ya w)) : LeftO p q loose Xt Yf Ya N true := by
  intro w
  obtain ⟨s, hs, hv⟩ := Option.map_eq_some_iff.mp (boot_open e hN f w)
  obtain ⟨a, b, c, d, os⟩ := s
  obtain ⟨rfl, hv⟩ := Prod.mk.inj hv
  obtain ⟨rfl, hv⟩ := Prod.mk.inj hv
  obtain ⟨rfl, rfl⟩ := Prod.mk.inj hv
  unfold openEnds
  rw [hs]
  exact h w os
theorem top_run (w : World) (os : OsState) : (topFrom treeTable PySem.Challenge.pw_re0023_01 w 2172 ⟨boot_heap w.params, Array.mk [], boot_drawn, boot_toks, os⟩).map
    (fun s => (openSeen hd.view_1 [Str.ofString "_Accumulator"] (importedModules PySem.Challenge.pw_re0023_01.main.body) headXt true s, headHook.obs s)) = some (openGood hd.view_1 [Str.ofString "_Accumulator"], headHook.val w) := by
  unfold topFrom
  -- the library's quick forms of topRun, treeTable and openSeen
  rewrite [PySem.W.Fast.te14082659384304107361, PySem.W.Fast.te14364793385576792824, PySem.W.Fast.te4187177175401517315]
  kernel_rfl
theorem left : LeftO PySem.Challenge.rw_re0023_01.row.prog hd.view_1 [Str.ofString "_Accumulator"] headXt headHook.obs headHook.val 2172 true :=
  left_of (p := PySem.Challenge.pw_re0023_01) opens rfl fenced top_run
end Mine
end

section
open PySem PySem.W PyProof.Rows
theorem Mine.freshB0 : True ∧ True := by
  w_top off
  first
  | (walk1; fail)
  | exact ⟨True.intro, True.intro⟩
end

section -- B0
open PySem PySem.W PyProof.Rows
set_option maxRecDepth 100000
set_option maxHeartbeats 8000000
namespace Mine

/-- all that hB has stands in h -/
noncomputable def Ext (hB h : Heap) : Prop := ∀ b o, hB.get? b = some o → h.get? b = some o
/-- the call's own objects: they stand in h, and hB has none of them -/
noncomputable def Own (hB h : Heap) (l : List (Addr × Obj)) : Prop := ∀ p ∈ l, h.get? p.1 = some p.2 ∧ hB.get? p.1 = none
/-- from h to h' only the objects at l's addresses turn, and they are l's behind it -/
structure Mod (h h' : Heap) (l : List (Addr × Obj)) : Prop where
  now : ∀ p ∈ l, h'.get? p.1 = some p.2
  rest : ∀ b o, (∀ p ∈ l, p.1 ≠ b) → h.get? b = some o → h'.get? b = some o

noncomputable abbrev Ar (d u : Nat) (fr : List Env) : Around := { handled := none, depth := d, frames := some fr, guards := none, units := u }

theorem ar_any {α : Type} {M : Model} {A : Around} {d u : Nat} {fr : List Env} {t : Sem α} {Q : α → Shared → Prop} {E : Value → Shared → Prop} {s : Shared}
    (h1 : A.handled = none) (h2 : A.depth ≤ d) (h3 : A.units ≤ u) (h4 : A.frames = some fr) (h : wpAny M (Ar d u fr) t Q E s) : wpAny M A t Q E s :=
  fun Γ p hΓ => h Γ p ⟨hΓ.1.trans h1, Nat.le_trans hΓ.2.1 h2, fun l e => hΓ.2.2.1 l (h4.trans e), (fun _ e => nomatch e), Nat.le_trans hΓ.2.2.2.2 h3⟩
theorem ar_code {M : Model} {A : Around} {d u : Nat} {fr : List Env} {c : Code} {R : Result → Shared → Prop} {s : Shared}
    (h1 : A.handled = none) (h2 : A.depth ≤ d) (h3 : A.units ≤ u) (h4 : A.frames = some fr) (h : codeAny M (Ar d u fr) c R s) : codeAny M A c R s :=
  fun Γ p hc hΓ => h Γ p hc ⟨hΓ.1.trans h1, Nat.le_trans hΓ.2.1 h2, fun l e => hΓ.2.2.1 l (h4.trans e), (fun _ e => nomatch e), Nat.le_trans hΓ.2.2.2.2 h3⟩

/-- what is known behind a def's body -/
structure Out (hB hs g : Heap) (L' : Addr) (l : List (Addr × Obj)) : Prop where
  same : ∀ h' m' l', Fr g L' h' m' → News g L' h' l' → l'.map (·.1) = l.map (·.1) → Mod hs h' l'
  more : ∀ h' m' l', Fr g L' h' m' → News g L' h' l' → (∀ a ∈ l.map (·.1), a ∈ l'.map (·.1)) → Mod hs h' l'
  own : ∀ h' l', News g L' h' l' → Own hB h' l'
  base : Ext hB g
  hid : ∀ b o, hs.get? b = some o → b ∉ l.map (·.1) → g.get? b = some o
theorem out_of {hB hs : Heap} {l : List (Addr × Obj)} {L' : Addr} (hE : Ext hB hs) (nm : ∀ b o, hB.get? b = some o → b ∉ l.map (·.1)) : Out hB hs (hideAll hs (l.map (·.1))) L' l := by
  have more : ∀ h' m' l', Fr (hideAll hs (l.map (·.1))) L' h' m' → News (hideAll hs (l.map (·.1))) L' h' l' → (∀ a ∈ l.map (·.1), a ∈ l'.map (·.1)) → Mod hs h' l' := by
    intro h' m' l' F' N' hl
    refine ⟨fun q hq => (N' q hq).1, fun b o hn e => F'.keep b o (hideAll_get _ e fun q => ?_)⟩
    obtain ⟨q', hq', rfl⟩ := List.mem_map.mp (hl _ q)
    exact hn q' hq' rfl
  refine ⟨fun h' m' l' F' N' hl => more h' m' l' F' N' fun a ha => hl ▸ ha, more, fun h' l' N' p hp => ⟨(N' p hp).1, ?_⟩, fun b o e => hideAll_get _ (hE b o e) (nm b o e), fun b o e n => hideAll_get _ e n⟩
  cases q : hB.get? p.1 with
  | none => rfl
  | some o => have := (N' p hp).2.2; rw [hideAll_get _ (hE _ _ q) (nm _ _ q)] at this; cases this
theorem fresh_none {hB h : Heap} (hE : Ext hB h) {a : Addr} (ha : h.objs.size ≤ a) : hB.get? a = none := by
  cases q : hB.get? a with
  | none => rfl
  | some o => exact absurd (Heap.lt_size (hE _ _ q)) (Nat.not_lt.mpr ha)
theorem Mod.past {h h₁ h' : Heap} {l : List (Addr × Obj)} (k : ∀ b o, h.get? b = some o → h₁.get? b = some o) (M : Mod h₁ h' l) : Mod h h' l := ⟨M.now, fun b o n e => M.rest b o n (k b o e)⟩
theorem ext_mod {hB h h' : Heap} {l : List (Addr × Obj)} (hE : Ext hB h) (hl : ∀ q ∈ l, hB.get? q.1 = none) (M : Mod h h' l) : Ext hB h' := fun b o e => M.rest b o (fun q hq z => by have := hl q hq; rw [z, e] at this; cases this) (hE b o e)
theorem fr_mod {g h h' : Heap} {L : Addr} {m : Str → Option Value} {l : List (Addr × Obj)} (F : Fr g L h m) (hl : ∀ q ∈ l, g.get? q.1 = none ∧ q.1 ≠ L) (M : Mod h h' l) : Fr g L h' m := by
  obtain ⟨oL, a1, a2, hL, a3⟩ := F.ns
  exact ⟨⟨oL, a1, a2, M.rest _ _ (fun q hq => (hl q hq).2) hL, a3⟩, ext_mod F.keep (fun q hq => (hl q hq).1) M, F.above⟩
theorem news_mod {g h h' : Heap} {L : Addr} {l news news' : List (Addr × Obj)} (N : News g L h news) (hl : ∀ q ∈ l, g.get? q.1 = none ∧ q.1 ≠ L) (M : Mod h h' l)
    (hs : ∀ q ∈ news', q ∈ l ∨ (q ∈ news ∧ ∀ r ∈ l, r.1 ≠ q.1)) : News g L h' news' := fun q hq => by
  rcases hs q hq with a | ⟨a, b⟩
  · exact ⟨M.now q a, (hl q a).2, (hl q a).1⟩
  · exact ⟨M.rest _ _ b (N q a).1, (N q a).2⟩
/-- fresh objects are no one's -/
theorem fresh_fr {g h : Heap} {L a : Addr} {m : Str → Option Value} (F : Fr g L h m) (ha : h.objs.size ≤ a) : g.get? a = none ∧ a ≠ L := by
  obtain ⟨oL, a1, a2, hL, a3⟩ := F.ns
  exact ⟨fresh_none F.keep ha, fun e => absurd (Heap.lt_size hL) (e ▸ Nat.not_lt.mpr ha)⟩

section
variable {w : World} {p : Program} {loose : List Str} {mean : ExcName → Option Value} {mg mb : Str → Option Value} {hB : Heap} {s : Shared} {l : List (Addr × Obj)} {d u : Nat} {fr : List Env} {K : Frag} {prog : Program}
  {R : Result → Shared → Prop} {name qual : Str} {params : Arguments} {body : List Stmt} {scope : Scope} {cl : List (Str × Addr)} {dV kV doc pm cdv ct : Value} {an : Option Addr} {fo : Obj} {f : Addr} {args : Args} {binds : List (Str × Value)}

/-- a def entered: l are the objects that it may read or turn; all else stands -/
theorem enter (X : K.In hB) (T : Top p loose mean mg mb hB) (hE : Ext hB s.heap) (hO : Own hB s.heap l)
    (ho : s.heap.get? f = some fo) (hd : fo.data = .func (fnX name qual params body scope cl dV kV doc pm an cdv ct)) (hcd : s.heap.CodeRec cdv qual) (hroom : d < recursionLimit)
    (hbind : BindsTo s (fnX name qual params body scope cl dV kV doc pm an cdv ct) args binds) (hloc : ∀ y ∈ binds, scope.names.lookup y.1 = some .local)
    (h : ∀ g L' h₁ tk, Out hB s.heap g L' l →
      Fr g L' h₁ (fun y => binds.reverse.lookup y) → News g L' h₁ l → K.In g → Top p loose mean mg mb g → (∀ p ∈ l, p.1 < L') →
      wpAny (model prog w) ((Ar d u fr).deeper (envX qual scope L' f cdv cl)) (execs body (envX qual scope L' f cdv cl))
        (fun fl s' => R (.ok (.ret (match fl with | .ret v => v | _ => .none))) s')
        (fun _ _ => False)
        { s with heap := h₁, toks := tk })
    (hcell : ∀ x ∈ scope.names, x.2 ≠ .cell) (hco : scope.isCoroutine = false := by rfl) (hgen : scope.isGenerator = false := by rfl) (hk : scope.kind = .function := by rfl) :
    codeAny (model prog w) (Ar d u fr) (.call (.ref f) args) R s := by
  have nm : ∀ b o, hB.get? b = some o → b ∉ l.map (·.1) := fun b o e q => by
    obtain ⟨p, hp, rfl⟩ := List.mem_map.mp q
    rw [(hO p hp).2] at e; cases e
  have st : ∀ b o, hB.get? b = some o → (hideAll s.heap (l.map (·.1))).get? b = some o := fun b o e => hideAll_get _ (hE b o e) (nm b o e)
  refine codeAny_call_def (fd := fnX name qual params body scope cl dV kV doc pm an cdv ct) (body := body) (binds := binds) hroom ho hd (T.nolimit.keeps hE) hcd rfl hbind hcell hloc (fun h₁ hns hk₁ => ?_) hco hgen hk
  refine wpAny_mono (h (hideAll s.heap (l.map (·.1))) s.heap.objs.size h₁ _ (out_of hE nm) ⟨hns, fun b o e => hk₁ b o (of_hideAll _ e), Nat.le_of_eq (hideAll_size _ _)⟩
    (fun p hp => ⟨hk₁ _ _ (hO p hp).1, Nat.ne_of_lt (Heap.lt_size (hO p hp).1), hideAll_none _ (List.mem_map_of_mem hp)⟩) (X.keeps st) (T.keeps st) (fun p hp => Heap.lt_size (hO p hp).1)) (fun _ _ y => y) fun _ _ y => y.elim

/-- a def with cells entered -/
theorem enterC (X : K.In hB) (T : Top p loose mean mg mb hB) (hE : Ext hB s.heap) (hO : Own hB s.heap l)
    (ho : s.heap.get? f = some fo) (hd : fo.data = .func (fnX name qual params body scope [] dV kV doc pm an cdv ct)) (hcd : s.heap.CodeRec cdv qual) (hroom : d < recursionLimit)
    (hbind : BindsTo s (fnX name qual params body scope [] dV kV doc pm an cdv ct) args binds)
    (hkind : (binds.all fun y => scope.names.lookup y.1 == some .local || scope.names.lookup y.1 == some .cell) = true)
    (hnd : ((cellsFrom 0 scope.names []).map (·.1)).Nodup)
    (h : ∀ g L' h₁ tk cells, Out hB s.heap g L' l →
      Fr g L' h₁ (bindL (envOfC qual scope L' f cdv).kindOf binds fun _ => none) → News g L' h₁ (cells ++ l) →
      CellsAre (bindC (envOfC qual scope L' f cdv).kindOf binds fun _ => none) (cellsFrom (L' + 1) scope.names []) cells → K.In g → Top p loose mean mg mb g → (∀ p ∈ l, p.1 < L') →
      wpAny (model prog w) ((Ar d u fr).deeper (envOfC qual scope L' f cdv)) (execs body (envOfC qual scope L' f cdv))
        (fun fl s' => R (.ok (.ret (match fl with | .ret v => v | _ => .none))) s')
        (fun _ _ => False)
        { s with heap := h₁, toks := tk })
    (hco : scope.isCoroutine = false := by rfl) (hgen : scope.isGenerator = false := by rfl) (hk : scope.kind = .function := by rfl) :
    codeAny (model prog w) (Ar d u fr) (.call (.ref f) args) R s := by
  have nm : ∀ b o, hB.get? b = some o → b ∉ l.map (·.1) := fun b o e q => by
    obtain ⟨p, hp, rfl⟩ := List.mem_map.mp q
    rw [(hO p hp).2] at e; cases e
  have st : ∀ b o, hB.get? b = some o → (hideAll s.heap (l.map (·.1))).get? b = some o := fun b o e => hideAll_get _ (hE b o e) (nm b o e)
  refine codeAny_call_function hroom ho hd hco hgen rfl hcd (hbind _ _ _ _ ?_)
  refine wpAny_newFunctionEnv_cells hk (kindsX hkind _) fun env' he s' x => ?_
  subst he
  refine ⟨(T.nolimit.keeps hE).keeps x.toInCall.keep, codeAny_func ?_⟩
  obtain ⟨h₁, tk, rfl, _⟩ := x.done
  have hk₁ := x.toInCall.keep
  obtain ⟨cells, NC, Y⟩ := Cl.news (h₀ := s.heap) (Nat.le_refl _) fun n c hm => ⟨x.cell n c (lookup_of_mem_nodup (cellsFrom_names scope.names 0 (s.heap.objs.size + 1) [] [] rfl ▸ hnd) hm), x.above n c hm⟩
  refine wpAny_mono (h (hideAll s.heap (l.map (·.1))) s.heap.objs.size h₁ tk cells (out_of hE nm) ⟨x.toInCall.ns, fun b o e => hk₁ b o (of_hideAll _ e), Nat.le_of_eq (hideAll_size _ _)⟩ (fun p hp => ?_) Y (X.keeps st) (T.keeps st) (fun p hp => Heap.lt_size (hO p hp).1)) (fun _ _ y => y) fun _ _ y => y.elim
  rcases List.mem_append.mp hp with hp | hp
  · refine ⟨(NC p hp).1, (NC p hp).2.1, ?_⟩
    cases q : (hideAll s.heap (l.map (·.1))).get? p.1 with
    | none => rfl
    | some o => have := of_hideAll _ q; rw [(NC p hp).2.2] at this; cases this
  · exact ⟨hk₁ _ _ (hO p hp).1, Nat.ne_of_lt (Heap.lt_size (hO p hp).1), hideAll_none _ (List.mem_map_of_mem hp)⟩

theorem enterK {oc : Value} {od : Option Addr} {osl : Array (Option Value)} (X : K.In hB) (T : Top p loose mean mg mb hB) (hE : Ext hB s.heap) (hO : Own hB s.heap l)
    (ho : K.lookup f = some ⟨oc, od, .func (fnX name qual params body scope cl dV kV doc pm an cdv ct), osl⟩) (hcd : codeIn K cdv qual = true) (hroom : d < recursionLimit)
    (hbind : BindsTo s (fnX name qual params body scope cl dV kV doc pm an cdv ct) args binds) (hloc : ∀ y ∈ binds, scope.names.lookup y.1 = some .local)
    (h : ∀ g L' h₁ tk, Out hB s.heap g L' l →
      Fr g L' h₁ (fun y => binds.reverse.lookup y) → News g L' h₁ l → K.In g → Top p loose mean mg mb g → (∀ p ∈ l, p.1 < L') →
      wpAny (model prog w) ((Ar d u fr).deeper (envX qual scope L' f cdv cl)) (execs body (envX qual scope L' f cdv cl))
        (fun fl s' => R (.ok (.ret (match fl with | .ret v => v | _ => .none))) s')
        (fun _ _ => False)
        { s with heap := h₁, toks := tk })
    (hcell : ∀ x ∈ scope.names, x.2 ≠ .cell) (hco : scope.isCoroutine = false) (hgen : scope.isGenerator = false) (hk : scope.kind = .function) :
    codeAny (model prog w) (Ar d u fr) (.call (.ref f) args) R s :=
  enter X T hE hO (hE _ _ (X _ _ ho)) rfl (codeRec_of (X.keeps hE) hcd) hroom hbind hloc h hcell hco hgen hk
theorem enterCK {oc : Value} {od : Option Addr} {osl : Array (Option Value)} (X : K.In hB) (T : Top p loose mean mg mb hB) (hE : Ext hB s.heap) (hO : Own hB s.heap l)
    (ho : K.lookup f = some ⟨oc, od, .func (fnX name qual params body scope [] dV kV doc pm an cdv ct), osl⟩) (hcd : codeIn K cdv qual = true) (hroom : d < recursionLimit)
    (hbind : BindsTo s (fnX name qual params body scope [] dV kV doc pm an cdv ct) args binds)
    (hkind : (binds.all fun y => scope.names.lookup y.1 == some .local || scope.names.lookup y.1 == some .cell) = true)
    (hnd : ((cellsFrom 0 scope.names []).map (·.1)).Nodup)
    (h : ∀ g L' h₁ tk cells, Out hB s.heap g L' l →
      Fr g L' h₁ (bindL (envOfC qual scope L' f cdv).kindOf binds fun _ => none) → News g L' h₁ (cells ++ l) →
      CellsAre (bindC (envOfC qual scope L' f cdv).kindOf binds fun _ => none) (cellsFrom (L' + 1) scope.names []) cells → K.In g → Top p loose mean mg mb g → (∀ p ∈ l, p.1 < L') →
      wpAny (model prog w) ((Ar d u fr).deeper (envOfC qual scope L' f cdv)) (execs body (envOfC qual scope L' f cdv))
        (fun fl s' => R (.ok (.ret (match fl with | .ret v => v | _ => .none))) s')
        (fun _ _ => False)
        { s with heap := h₁, toks := tk })
    (hco : scope.isCoroutine = false := by rfl) (hgen : scope.isGenerator = false := by rfl) (hk : scope.kind = .function := by rfl) :
    codeAny (model prog w) (Ar d u fr) (.call (.ref f) args) R s :=
  enterC X T hE hO (hE _ _ (X _ _ ho)) rfl (codeRec_of (X.keeps hE) hcd) hroom hbind hkind hnd h hco hgen hk
end

noncomputable abbrev ent (w : World) (x : Str) (t : Tok) (v : Value) : DictEntry := ⟨PyData.keyHash w.params x, .str x t, v⟩
theorem kw1 : True := by
  w_top off
  k_with "my enter" => (k_dflt (refine' enterK (by k_asm) (by k_asm) (by k_asm) (by k_asm) (by k_is) (by k_is) (by decide) (by exact BindsTo.of_eq rfl) (by exact locs rfl) ?_ (by decide) (by exact rfl) (by exact rfl) (by exact rfl); k_whole))
  exact True.intro
end Mine
theorem Mine.kw2 : True := by
  w_top off
  k_with_none
  exact True.intro
end

section
open PySem PySem.W PyProof.Rows
theorem Mine.freshR1 : True ∧ True := by
  w_top off
  first
  | (walk1; fail)
  | exact ⟨True.intro, True.intro⟩
end

section -- R1
open PySem PySem.W PyProof.Rows PySem.Calls
set_option maxRecDepth 100000
set_option maxHeartbeats 8000000
namespace Mine
theorem tl_fn_ga : typeLookup (.type "function") "__getattribute__" = pure (some (.builtin "object.__getattribute__")) := by rw [typeLookup_type, builtinLookup_eq_fast]; kernel_rfl
theorem tl_fn_gh : typeLookup (.type "function") "__getattr__" = pure none := by rw [typeLookup_type, builtinLookup_eq_fast]; kernel_rfl
theorem tl_fn_read : typeLookup (.type "function") "read" = pure none := by rw [typeLookup_type, builtinLookup_eq_fast]; kernel_rfl
theorem slot_fn_ga : Slot "function" "__getattribute__" "object.__getattribute__" :=
  .of (owner := "object") (n := "__getattribute__") tl_fn_ga (by decide +kernel) (by decide +kernel) (by decide +kernel)
    (by first | exact .inl (by decide +kernel) | exact .inr (by decide +kernel)) (by rw [isSubtype_type]; kernel_rfl)
theorem slot_fn_sa : Slot "function" "__setattr__" "object.__setattr__" :=
  .of (owner := "object") (n := "__setattr__") (by rw [typeLookup_type, builtinLookup_eq_fast]; kernel_rfl) (by decide +kernel) (by decide +kernel) (by decide +kernel)
    (by first | exact .inl (by decide +kernel) | exact .inr (by decide +kernel)) (by rw [isSubtype_type]; kernel_rfl)
theorem entry_oga : entryFor table "object.__getattribute__" = some Builtin.«object.__getattribute__» := entryFor_of_tree (by kernel_rfl)
theorem entry_osa : entryFor table "object.__setattr__" = some Builtin.«object.__setattr__» := entryFor_of_tree (by kernel_rfl)
theorem args_oga (a b : Value) : argsOk "object.__getattribute__" ⟨[a, b], []⟩ := by unfold argsOk; kernel_rfl
theorem args_osa (a b c : Value) : argsOk "object.__setattr__" ⟨[a, b, c], []⟩ := by unfold argsOk; kernel_rfl

open Builtin Builtin.ObjectAttr
theorem oga_fn {f sd : Addr} {fd : FuncData} {es : Array DictEntry} {k : Nat} {t : Tok} {v : Value} {sl : Array (Option Value)} (hv : nsLook "read" (⟨.type "dict", none, .dict es k, #[]⟩ : Obj) = pure (some v)) :
   Meets (Builtin.«object.__getattribute__» ⟨[.ref f, .str "read" t], []⟩) (fun _ R s => s.heap.get? f = some ⟨.type "function", some sd, .func fd, sl⟩ ∧ s.heap.get? sd = some ⟨.type "dict", none, .dict es k, #[]⟩ ∧ R (.ok (.ret v)) s) :=
  .of_wp fun prog w A R s h => by
    obtain ⟨hp, g, d, tk, os⟩ := s; obtain ⟨hl, hsd, h⟩ := h
    have hT : (⟨hp, g, d, tk, os⟩ : Shared).TypeIs (.ref f) "function" := ⟨_, hl, rfl⟩
    have hr := tl_fn_read
    wp_walk
    exact ⟨_, rfl, h⟩

theorem fn_getAttr {prog : Program} {w : World} {A : Around} {E : Value → Shared → Prop} {s : Shared} {f sd rd : Addr} {fd : FuncData} {es : Array DictEntry} {k : Nat} {sl : Array (Option Value)} {b : Bool} {Q : Value → Shared → Prop}
    (hl : s.heap.get? f = some ⟨.type "function", some sd, .func fd, sl⟩) (hsd : s.heap.get? sd = some ⟨.type "dict", none, .dict es k, #[]⟩) (hv : nsLook "read" (⟨.type "dict", none, .dict es k, #[]⟩ : Obj) = pure (some (.ref rd)))
    (h : Q (.ref rd) { s with toks := s.toks + 1 }) : wpAny (model prog w) A (getAttr (.ref f) "read" b) Q E s := by
  obtain ⟨hp, g, d, tk, os⟩ := s
  have hT : ∀ u, (⟨hp, g, d, u, os⟩ : Shared).TypeIs (.ref f) "function" := fun _ => ⟨_, hl, rfl⟩
  unfold getAttr
  refine wpAny_bind (wpAny_mkText ?_)
  unfold getAttrBy
  refine wpAny_holding (wpAny_bind (wpAny_typeOf (hT _) (wpAny_bind (wpAny_of_eq tl_fn_ga ?_))))
  refine wpAny_ite_false rfl ?_
  unfold getAttrByItsOwn
  refine wpAny_bind (wpAny_pure (wpAny_bind (wpAny_attempt (wpAny_holding ?_))))
  unfold callGetattribute
  refine wpAny_ite_false (by cases b <;> rfl) ?_
  unfold boundAndCalled
  rw [slot_fn_ga.bind]
  refine wpAny_bind (wpAny_pure ?_)
  refine call_meets slot_fn_ga (hT _) entry_oga (args_oga _ _) (oga_fn hv) ⟨hl, hsd, ?_⟩
  exact wpAny_pure h

theorem fn_getMethod {prog : Program} {w : World} {A : Around} {E : Value → Shared → Prop} {s : Shared} {f sd rd : Addr} {fd : FuncData} {es : Array DictEntry} {k : Nat} {sl : Array (Option Value)} {b : Sem Bool} {Q : Value × List Value → Shared → Prop}
    (hl : s.heap.get? f = some ⟨.type "function", some sd, .func fd, sl⟩) (hsd : s.heap.get? sd = some ⟨.type "dict", none, .dict es k, #[]⟩) (hv : nsLook "read" (⟨.type "dict", none, .dict es k, #[]⟩ : Obj) = pure (some (.ref rd)))
    (h : Q (.ref rd, []) { s with toks := s.toks + 1 }) : wpAny (model prog w) A (getMethod (.ref f) "read" b) Q E s := by
  have hT : s.TypeIs (.ref f) "function" := ⟨_, hl, rfl⟩
  unfold getMethod
  refine wpAny_bind (wpAny_specialOf hT tl_fn_ga ?_)
  refine wpAny_ite_false (by decide +kernel) ?_
  refine wpAny_bind (wpAny_specialOf hT tl_fn_gh ?_)
  refine wpAny_ite_false rfl ?_
  refine wpAny_bind (wpAny_specialOf hT tl_fn_read ?_)
  exact wpAny_bind (fn_getAttr hl hsd hv (wpAny_pure h))

noncomputable abbrev fnObj (fd : FuncData) (d : Option Addr) : Obj := ⟨.type "function", d, .func fd, #[]⟩
theorem osa_fn {w : World} {f : Addr} {fd : FuncData} {t : Tok} {v : Value} 
   (prog : Program) (A : Around) (R : Result → Shared → Prop) (s : Shared) (hl : s.heap.get? f = some (fnObj fd none))
     (h : ∀ h' sd, h'.get? f = some (fnObj fd (some sd)) → h'.get? sd = some (dictOf [ent w "read" s.toks v] 1) → sd = s.heap.objs.size → (∀ b o, b ≠ f → s.heap.get? b = some o → h'.get? b = some o) → R (.ok (.ret .none)) { s with heap := h', toks := s.toks + 1 }) :
     wpAny (model prog w) A.in1 (Builtin.«object.__setattr__» ⟨[.ref f, .str "read" t, v], []⟩) (fun fin s' => ∃ v, fin = .done (.ret v) ∧ R (.ok (.ret v)) s') (fun e s' => R (.error e) s') s := by
    obtain ⟨hp, g, d, tk, os⟩ := s
    have hT : (⟨hp, g, d, tk, os⟩ : Shared).TypeIs (.ref f) "function" := ⟨_, hl, rfl⟩
    have hr := tl_fn_read
    wp_walk
    have hne : f ≠ hp.objs.size := Nat.ne_of_lt (Heap.lt_size hl)
    have h1 : ((hp.push { cls := Value.type "dict", data := Data.dict #[] }).update f fun o => { cls := o.cls, dict := some hp.objs.size, data := o.data, slots := o.slots }).get? hp.objs.size = some (dictOf [] 0) :=
      (Heap.get?_update_other _ _ hne).trans (Heap.get?_push_size _ rfl)
    refine wpAny_askSetting (wpAny_pure (wpAny_bind (wpAny_mkText (wpAny_bind (wpAny_loadPart h1 ?_)))))
    refine wpAny_ite_false rfl (wpAny_updatePart h1 ?_)
    have h2 := Heap.get?_update_self (Obj.putName "read" (PyData.keyHash w.params "read") (.str "read" tk) v) h1 rfl
    refine wpAny_bind (wpAny_lookBehind h2 ?_ ?_)
    · rfl
    refine wpAny_pure ⟨_, rfl, h _ _ ?_ h2 rfl ?_⟩
    · exact (Heap.get?_update_other _ _ (Ne.symm hne)).trans (Heap.get?_update_self _ (Heap.get?_push_of_some _ hl) rfl)
    · intro b o hb e
      exact (Heap.get?_update_other _ _ (Ne.symm (Nat.ne_of_lt (Heap.lt_size e)))).trans ((Heap.get?_update_other _ _ (Ne.symm hb)).trans (Heap.get?_push_of_some _ e))

end Mine
end

section
open PySem PySem.W PyProof.Rows
theorem Mine.freshR2 : True ∧ True := by
  w_top off
  first
  | (walk1; fail)
  | exact ⟨True.intro, True.intro⟩
end

section -- R2
open PySem PySem.W PyProof.Rows PySem.Calls
set_option maxRecDepth 100000
set_option maxHeartbeats 8000000
namespace Mine
open Builtin Builtin.ObjectAttr
theorem fn_setAttr {w : World} {f : Addr} {fd : FuncData} {v : Value} {prog : Program} {A : Around} {E : Value → Shared → Prop} {Q : Unit → Shared → Prop} {s : Shared} (hl : s.heap.get? f = some (fnObj fd none))
     (h : ∀ h' sd, h'.get? f = some (fnObj fd (some sd)) → h'.get? sd = some (dictOf [ent w "read" (s.toks + 1) v] 1) → sd = s.heap.objs.size → (∀ b o, b ≠ f → s.heap.get? b = some o → h'.get? b = some o) → Q () { s with heap := h', toks := s.toks + 2 }) :
     wpAny (model prog w) A (setAttr (.ref f) "read" v) Q E s := by
  unfold setAttr
  refine wpAny_bind (wpAny_mkText (wpAny_bind ?_))
  have hT : ({ s with toks := s.toks + 1 } : Shared).TypeIs (.ref f) "function" := ⟨_, hl, rfl⟩
  refine wpAny_callSpecial?_slot hT slot_fn_sa ?_
  refine wpAny_call (codeAny_call_builtin slot_fn_sa.plain entry_osa (slot_fn_sa.check _ _ _ _ _ _ _ _ hT (args_osa _ _ _) ?_))
  refine wpAny_mono (osa_fn prog A (wants (fun v s' => wpAny (model prog w) A (match some v with | some val => pure PUnit.unit | x => unsupported "internal:no-__setattr__") Q E s') E) _ hl (fun h' sd a b c e => ?_)) (fun fin s' hv => ?_) (fun _ _ x => x)
  · exact wpAny_pure (h h' sd a b c e)
  · obtain ⟨v, e, hv⟩ := hv; subst e; exact hv

theorem fn_setAttr_K {w : World} {f : Addr} {fd : FuncData} {v : Value} {prog : Program} {A : Around} {E : Value → Shared → Prop} {Q : Unit → Shared → Prop} {s : Shared} {h₀ : Heap} {L : Addr} {m : Str → Option Value} {news : List (Addr × Obj)} {g : Obj → List (Addr × Obj)}
    (F : Fr h₀ L s.heap m) (N : News h₀ L s.heap news) (U : UpdF f (fnObj fd none) news g)
    (h : ∀ h' sd, Fr h₀ L h' m → News h₀ L h' ((sd, dictOf [ent w "read" (s.toks + 1) v] 1) :: g (fnObj fd (some sd))) → (∀ p ∈ news, p.1 < sd) → Q () { s with heap := h', toks := s.toks + 2 }) :
     wpAny (model prog w) A (setAttr (.ref f) "read" v) Q E s := by
  obtain ⟨own, rest, rfl, hg, h1, h2⟩ := U.split
  have hm := N (f, fnObj fd none) (List.mem_append_right _ (.head _))
  refine fn_setAttr hm.1 fun h' sd a b c e => h h' sd ⟨?_, ?_, F.above⟩ ?_ ?_
  · obtain ⟨oL, a1, a2, hL, a3⟩ := F.ns
    exact ⟨oL, a1, a2, e _ _ (Ne.symm hm.2.1) hL, a3⟩
  · intro b' o' e'
    refine e _ _ (fun q => ?_) (F.keep _ _ e')
    subst q; rw [hm.2.2] at e'; cases e'
  · rw [hg]
    intro p hp
    rcases List.mem_cons.mp hp with rfl | hp
    · refine ⟨b, ?_, ?_⟩
      · obtain ⟨oL, a1, a2, hL, a3⟩ := F.ns
        rw [c]; exact Nat.ne_of_gt (Heap.lt_size hL)
      · rw [c]
        cases q : h₀.get? s.heap.objs.size with
        | none => rfl
        | some o => exact absurd (Heap.lt_size (F.keep _ _ q)) (Nat.lt_irrefl _)
    · rcases List.mem_append.mp hp with hp | hp
      · have := N p (List.mem_append_left _ hp); exact ⟨e _ _ (h1 p hp) this.1, this.2⟩
      · rcases List.mem_cons.mp hp with rfl | hp
        · exact ⟨a, hm.2⟩
        · have := N p (List.mem_append_right _ (.tail _ hp)); exact ⟨e _ _ (h2 p hp) this.1, this.2⟩
  · intro p hp
    rw [c]
    exact Heap.lt_size (N p hp).1

theorem set0_K {w : World} {v0 v : Value} {prog : Program} {A : Around} {E : Value → Shared → Prop} {Q : Unit → Shared → Prop} {s : Shared} {h₀ : Heap} {L D : Addr} {m : Str → Option Value} {news news' : List (Addr × Obj)} {n : Nat} {t : Tok}
    (F : Fr h₀ L s.heap m) (N : News h₀ L s.heap news) (U : Upd D (listOf #[v0] n) (listOf #[v] n) news news')
    (h : ∀ h', Fr h₀ L h' m → News h₀ L h' news' → Q () { s with heap := h' }) : wpAny (model prog w) A (setItem (.ref D) (.int 0 t) v) Q E s := by
  obtain ⟨pre, post, rfl, rfl, a, b⟩ := U.split
  have z := N (D, listOf #[v0] n) (List.mem_append.mpr (.inr (.head _)))
  refine ki_setAt z.1 (by decide) (by decide) (Int.ofNat_lt.mpr (Nat.zero_lt_one)) (h _ (F.change (Heap.SameBut.update ..) z.2.1 z.2.2) (ki_turn _ N a b ?_ ?_))
  · rfl
  · rfl
end Mine
end

section
open PySem PySem.W PyProof.Rows
theorem Mine.freshB1 : True ∧ True := by
  w_top off
  first
  | (walk1; fail)
  | exact ⟨True.intro, True.intro⟩
end

section -- B1
open PySem PySem.W PyProof.Rows
set_option maxRecDepth 100000
set_option maxHeartbeats 1000000
namespace Mine
theorem Mod.drop {h h' : Heap} {l' keep : List (Addr × Obj)} (M : Mod h h' (l' ++ keep)) (hk : ∀ q ∈ keep, h.get? q.1 = some q.2) : Mod h h' l' := by
  refine ⟨fun q hq => M.now q (List.mem_append_left _ hq), fun b o hn e => ?_⟩
  by_cases hb : ∃ q ∈ keep, q.1 = b
  · obtain ⟨q, hq, rfl⟩ := hb
    rw [hk q hq] at e; cases e
    exact M.now q (List.mem_append_right _ hq)
  · refine M.rest b o (fun q hq => ?_) e
    rcases List.mem_append.mp hq with hq | hq
    · exact hn q hq
    · exact fun z => hb ⟨q, hq, z⟩
theorem own_of {g h : Heap} {L : Addr} {news l : List (Addr × Obj)} (N : News g L h news) (hs : ∀ q ∈ l, q ∈ news) : Own g h l := fun q hq => ⟨(N q (hs q hq)).1, (N q (hs q hq)).2.2⟩
/-- one object turned: the frame and the ledger behind it -/
theorem one_mod {g h h' : Heap} {L a : Addr} {m : Str → Option Value} {o o' : Obj} {news news' : List (Addr × Obj)} (F : Fr g L h m) (N : News g L h news) (U : Upd a o o' news news') (M : Mod h h' [(a, o')]) : Fr g L h' m ∧ News g L h' news' := by
  obtain ⟨pre, post, rfl, rfl, a1, a2⟩ := U.split
  have z := N (a, o) (List.mem_append.mpr (.inr (.head _)))
  have hl : ∀ q ∈ [(a, o')], g.get? q.1 = none ∧ q.1 ≠ L := fun q hq => by rw [List.mem_singleton.mp hq]; exact ⟨z.2.2, z.2.1⟩
  refine ⟨fr_mod F hl M, news_mod N hl M fun q hq => ?_⟩
  rcases List.mem_append.mp hq with hq | hq
  · exact .inr ⟨List.mem_append_left _ hq, fun r hr => by rw [List.mem_singleton.mp hr]; exact Ne.symm (a1 q hq)⟩
  · rcases List.mem_cons.mp hq with rfl | hq
    · exact .inl (.head _)
    · exact .inr ⟨List.mem_append_right _ (.tail _ hq), fun r hr => by rw [List.mem_singleton.mp hr]; exact Ne.symm (a2 q hq)⟩

theorem Mod.sub {h h' : Heap} {small big : List (Addr × Obj)} (M : Mod h h' big) (hs : ∀ q ∈ small, q ∈ big) (hk : ∀ q ∈ big, q ∈ small ∨ h.get? q.1 = some q.2 ∨ h.get? q.1 = none) : Mod h h' small := by
  refine ⟨fun q hq => M.now q (hs q hq), fun b o hn e => ?_⟩
  by_cases hb : ∃ q ∈ big, q.1 = b
  · obtain ⟨q, hq, rfl⟩ := hb
    rcases hk q hq with a | a | a
    · exact absurd rfl (hn q a)
    · rw [a] at e; cases e; exact M.now q hq
    · rw [a] at e; cases e
  · exact M.rest b o (fun q hq z => hb ⟨q, hq, z⟩) e
theorem Out.fresh {hB hs g h' : Heap} {L' a : Addr} {o : Obj} {l l' : List (Addr × Obj)} (O : Out hB hs g L' l) (N : News g L' h' l') (hm : (a, o) ∈ l') (hn : a ∉ l.map (·.1)) : hs.get? a = none := by
  cases q : hs.get? a with
  | none => rfl
  | some o' => have := (N _ hm).2.2; rw [O.hid _ _ q hn] at this; cases this
end Mine
end

section
open PySem PySem.W PyProof.Rows
theorem Mine.freshR3 : True ∧ True := by
  w_top off
  first
  | (walk1; fail)
  | exact ⟨True.intro, True.intro⟩
end

section -- R3
open PySem PySem.W PyProof.Rows PySem.Calls
set_option maxRecDepth 100000
set_option maxHeartbeats 1000000
set_option linter.unusedVariables false
namespace Mine
noncomputable abbrev itObj (f sen : Value) (b : Bool) : Obj := { cls := .type "callable_iterator", data := .fields #[f, sen, .bool b] }
theorem tl_method_call : typeLookup (.type "method") "__call__" = pure (some (.builtin "method.__call__")) := by rw [typeLookup_type, builtinLookup_eq_fast]; kernel_rfl
theorem iter_kind : builtinKind "iter" = none := by decide +kernel
theorem iter_plain : plainId "iter" = true := by decide +kernel
theorem entry_iter : entryFor table "iter" = some Builtin.«iter» := entryFor_of_tree (by kernel_rfl)
theorem args_iter (a b : Value) : argsOk "iter" ⟨[a, b], []⟩ := by unfold argsOk; kernel_rfl
theorem slot_ci_next : Slot "callable_iterator" "__next__" "callable_iterator.__next__" :=
  .of (owner := "callable_iterator") (n := "__next__") (by rw [typeLookup_type, builtinLookup_eq_fast]; kernel_rfl) (by decide +kernel) (by decide +kernel) (by decide +kernel)
    (by first | exact .inl (by decide +kernel) | exact .inr (by decide +kernel)) (by rw [isSubtype_type]; kernel_rfl)
theorem slot_ci_iter : Slot "callable_iterator" "__iter__" "callable_iterator.__iter__" :=
  .of (owner := "callable_iterator") (n := "__iter__") (by rw [typeLookup_type, builtinLookup_eq_fast]; kernel_rfl) (by decide +kernel) (by decide +kernel) (by decide +kernel)
    (by first | exact .inl (by decide +kernel) | exact .inr (by decide +kernel)) (by rw [isSubtype_type]; kernel_rfl)
theorem entry_ci_next : entryFor table "callable_iterator.__next__" = some Builtin.«callable_iterator.__next__» := entryFor_of_tree (by kernel_rfl)
theorem entry_ci_iter : entryFor table "callable_iterator.__iter__" = some Builtin.«dict_keyiterator.__iter__» := entryFor_alias (id' := "dict_keyiterator.__iter__") (by kernel_rfl) rfl (by decide +kernel) (by kernel_rfl)
theorem args_ci_next (a : Value) : argsOk "callable_iterator.__next__" ⟨[a], []⟩ := by unfold argsOk; kernel_rfl
theorem args_ci_iter (a : Value) : argsOk "callable_iterator.__iter__" ⟨[a], []⟩ := by unfold argsOk; kernel_rfl

theorem iter_meets {q : Addr} {f self sen : Value} : Meets (Builtin.«iter» ⟨[.ref q, sen], []⟩) (fun _ R s => s.heap.get? q = some (methodObj f self) ∧ R (.ok (.ret (.ref s.heap.objs.size))) { s with heap := s.heap.push (itObj (.ref q) sen false) }) :=
  .of_wp fun prog w A R s h => by
    obtain ⟨hp, g, d, tk, os⟩ := s; obtain ⟨hl, h⟩ := h
    have hT : (⟨hp, g, d, tk, os⟩ : Shared).TypeIs (.ref q) "method" := ⟨_, hl, rfl⟩
    have hr := tl_method_call
    wp_walk
    exact ⟨_, rfl, h⟩
section
variable {prog : Program} {w : World} {A : Around} {E : Value → Shared → Prop} {s : Shared} {h₀ : Heap} {L q it : Addr} {m : Str → Option Value} {news : List (Addr × Obj)} {f self sen : Value}
theorem iter_K {Q : Value → Shared → Prop} (F : Fr h₀ L s.heap m) (N : News h₀ L s.heap news) (hm : (q, methodObj f self) ∈ news)
    (h : ∀ it h', Fr h₀ L h' m → News h₀ L h' ((it, itObj (.ref q) sen false) :: news) → (∀ p ∈ news, p.1 < it) → Q (.ref it) { s with heap := h' }) : wpAny (model prog w) A (call (.builtin "iter") [.ref q, sen]) Q E s :=
  call_function_meets iter_kind iter_plain entry_iter (args_iter _ _) iter_meets ⟨N.get hm, h _ _ (F.push _) (N.push F _) fun p hp => Heap.lt_size (N p hp).1⟩

theorem iterSelf_K {Q : Value → Shared → Prop} (N : News h₀ L s.heap news) (hm : (it, itObj f sen false) ∈ news) (h : Q (.ref it) s) : wpAny (model prog w) A (pyIter (.ref it)) Q E s := by
  have hT : s.TypeIs (.ref it) "callable_iterator" := ⟨_, N.get hm, rfl⟩
  unfold pyIter
  refine wpAny_bind (wpAny_specialOf hT slot_ci_iter.lookup ?_)
  refine wpAny_bind (wpAny_callSpecialIfBoundUnlessNone?_slot hT slot_ci_iter ?_)
  refine call_meets (S := fun _ R s => R (.ok (.ret (.ref it))) s) slot_ci_iter hT entry_ci_iter (args_ci_iter _) (.of_wp fun prog w A R s h => ?_) ?_
  · wp_walk
    exact ⟨_, rfl, h⟩
  · refine wpAny_bind (wpAny_specialOf hT slot_ci_next.lookup ?_)
    exact wpAny_pure h

theorem method_borrows {bo : Obj} {fa : Addr} {fd : FuncData} {Q : Bool → Shared → Prop} (hq : s.heap.get? q = some (methodObj (.ref fa) self)) (hf : s.heap.get? fa = some bo) (hb : bo.data = .func fd) (h : Q true s) : wpAny (model prog w) A (borrowsExactly (.ref q)) Q E s := by
  unfold borrowsExactly
  refine wpAny_bind (wpAny_load hq ?_)
  refine wpAny_ite_true rfl ?_
  refine wpAny_bind (wpAny_load hf ?_)
  rw [hb]
  exact wpAny_pure h

theorem slotCall {bo : Obj} {fa : Addr} {fd : FuncData} {Q : Value → Shared → Prop} (hq : s.heap.get? q = some (methodObj (.ref fa) self)) (hf : s.heap.get? fa = some bo) (hb : bo.data = .func fd)
    (h : codeAny (model prog w) A (.call (.ref fa) ⟨[self], []⟩) (fun r s' => match r with | .ok (.ret v) => Q v s' | .ok _ => False | .error e => E e s') s) : wpAny (model prog w) A (callOutOfASlot (.ref q)) Q E s := by
  unfold callOutOfASlot
  refine wpAny_bind (method_borrows hq hf hb ?_)
  refine wpAny_ite_true rfl ?_
  unfold callBorrowed
  refine X.x_call ?_ (by intro x; cases x)
  refine method_call hq ?_
  refine codeAny_mono h fun r s' hr => ?_
  rcases r with e | (v | _ | _ | _)
  · exact wpAny_throw hr
  all_goals first | exact hr.elim | exact wpAny_pure hr

theorem ciNext_item {bo : Obj} {fa : Addr} {fd : FuncData} {y : Str} {tY : Tok} {Q : Option Value → Shared → Prop} (hit : s.heap.get? it = some (itObj (.ref q) (.str y tY) false)) (hq : s.heap.get? q = some (methodObj (.ref fa) self)) (hf : s.heap.get? fa = some bo) (hb : bo.data = .func fd)
    (h : codeAny (model prog w) A.in1 (.call (.ref fa) ⟨[self], []⟩) (fun r s' => ∃ x t, r = .ok (.ret (.str x t)) ∧ s'.heap.get? it = some (itObj (.ref q) (.str y tY) false) ∧ (y == x) = false ∧ Q (some (.str x t)) s') s) :
    wpAny (model prog w) A (pyNext (.ref it)) Q E s := by
  have hT : s.TypeIs (.ref it) "callable_iterator" := ⟨_, hit, rfl⟩
  unfold pyNext
  refine wpAny_bind (wpAny_attempt (wpAny_callSpecial?_slot hT slot_ci_next (wpAny_call_entry slot_ci_next hT entry_ci_next ?_ (args_ci_next _))))
  show wpAny _ _ (field (.ref it) 2 >>= _) _ _ s
  refine wpAny_bind (wpAny_field hit rfl (x := .bool false) rfl ?_)
  refine wpAny_ite_false rfl ?_
  refine wpAny_bind (wpAny_field hit rfl (x := .ref q) rfl ?_)
  refine wpAny_bind (wpAny_attempt (slotCall hq hf hb (codeAny_mono h fun r s' hr => ?_)))
  obtain ⟨x, t, rfl, hit', hne, hQ⟩ := hr
  show wpAny _ _ (field (.ref it) 2 >>= _) _ _ s'
  refine wpAny_bind (wpAny_field hit' rfl (x := .bool false) rfl ?_)
  refine wpAny_ite_false rfl ?_
  refine wpAny_bind (wpAny_field hit' rfl (x := .str y tY) rfl ?_)
  refine wpAny_bind (wpAny_holding (eqBool_str ?_))
  refine wpAny_ite_true (by rw [hne]; rfl) ?_
  exact wpAny_pure ⟨_, rfl, wpAny_pure hQ⟩

theorem ciNext_end {bo : Obj} {fa : Addr} {fd : FuncData} {y : Str} {tY : Tok} {Q : Option Value → Shared → Prop} (hh : A.handled = none) (hit : s.heap.get? it = some (itObj (.ref q) (.str y tY) false)) (hq : s.heap.get? q = some (methodObj (.ref fa) self)) (hf : s.heap.get? fa = some bo) (hb : bo.data = .func fd)
    (h : codeAny (model prog w) A.in1 (.call (.ref fa) ⟨[self], []⟩) (fun r s' => ∃ x t, r = .ok (.ret (.str x t)) ∧ s'.heap.get? it = some (itObj (.ref q) (.str y tY) false) ∧ s'.heap.get? q = some (methodObj (.ref fa) self) ∧ s'.heap.get? fa = some bo ∧ (y == x) = true ∧
      ∀ h', (∀ b o, b ≠ it → s'.heap.get? b = some o → h'.get? b = some o) → Q none { s' with heap := h' }) s) :
    wpAny (model prog w) A (pyNext (.ref it)) Q E s := by
  have hT : s.TypeIs (.ref it) "callable_iterator" := ⟨_, hit, rfl⟩
  unfold pyNext
  refine wpAny_bind (wpAny_attempt (wpAny_callSpecial?_slot hT slot_ci_next (wpAny_call_entry slot_ci_next hT entry_ci_next ?_ (args_ci_next _))))
  show wpAny _ _ (field (.ref it) 2 >>= _) _ _ s
  refine wpAny_bind (wpAny_field hit rfl (x := .bool false) rfl ?_)
  refine wpAny_ite_false rfl ?_
  refine wpAny_bind (wpAny_field hit rfl (x := .ref q) rfl ?_)
  refine wpAny_bind (wpAny_attempt (slotCall hq hf hb (codeAny_mono h fun r s' hr => ?_)))
  obtain ⟨x, t, rfl, hit', hq', hf', hne, hQ⟩ := hr
  show wpAny _ _ (field (.ref it) 2 >>= _) _ _ s'
  refine wpAny_bind (wpAny_field hit' rfl (x := .bool false) rfl ?_)
  refine wpAny_ite_false rfl ?_
  refine wpAny_bind (wpAny_field hit' rfl (x := .str y tY) rfl ?_)
  refine wpAny_bind (wpAny_holding (eqBool_str ?_))
  refine wpAny_ite_false (by rw [hne]; rfl) ?_
  refine wpAny_bind (wpAny_rule ?_)
  refine wpAny_bind ?_
  show wpAny _ _ (field (.ref it) 0 >>= _) _ _ s'
  refine wpAny_bind (wpAny_field hit' rfl (x := .ref q) rfl ?_)
  refine wpAny_bind ?_
  unfold slotLetsGo
  refine wpAny_bind (method_borrows hq' hf' hb ?_)
  refine wpAny_ite_true rfl (wpAny_pure ?_)
  refine wpAny_bind (wpAny_setField hit' rfl (by simp) ?_)
  have g1 := Heap.get?_update_self (Obj.mapFields (·.setIfInBounds 0 Value.none)) hit' rfl
  refine wpAny_bind (wpAny_setField g1 rfl (by simp [Obj.mapFields]) ?_)
  have g2 := Heap.get?_update_self (Obj.mapFields (·.setIfInBounds 1 Value.none)) g1 rfl
  refine wpAny_setField g2 rfl (by simp [Obj.mapFields]) ?_
  show wpAny _ _ (newExc (.type "StopIteration") [] >>= _) _ _ _
  refine wpAny_bind ?_
  simp only [newExc, newTuple]
  refine wpAny_bind (wpAny_newObj_type ?_ (by size_fits))
  refine wpAny_bind (m := firstArgMember _ _) (wpAny_of_eq (a := Value.none) (by first | rfl | (simp only [firstArgMember]; rfl)) ?_)
  refine wpAny_newObj_type ?_ (by size_fits)
  simp only [raiseNew]
  refine wpAny_bind (wpAny_handled ?_)
  rw [show A.in1.handled = none from hh]
  refine wpAny_bind (wpAny_pure (wpAny_throw ?_))
  refine wpAny_bind (wpAny_isInstance (T := "StopIteration") (b := true) ⟨_, Heap.get?_push_size _ rfl, rfl⟩ isSubtype_stop ?_)
  refine wpAny_pure (hQ _ fun b o hb e => ?_)
  exact Heap.get?_push_of_some _ (Heap.get?_push_of_some _ ((Heap.get?_update_other _ _ (Ne.symm hb)).trans ((Heap.get?_update_other _ _ (Ne.symm hb)).trans ((Heap.get?_update_other _ _ (Ne.symm hb)).trans e))))
end
end Mine
end

section
open PySem PySem.W PyProof.Rows
theorem Mine.freshL1 : True ∧ True := by
  w_top off
  first
  | (walk1; fail)
  | exact ⟨True.intro, True.intro⟩
end

section -- L1
open PySem PySem.W PyProof.Rows
set_option maxRecDepth 100000
set_option maxHeartbeats 1000000
namespace Mine
noncomputable def noArgs : Arguments := { posonlyargs := [], args := [], vararg := none, kwonlyargs := [], kw_defaults := [], kwarg := none, defaults := [] }
noncomputable def noScope : Scope := { kind := .function, names := [], isGenerator := false, isCoroutine := false, more := [] }
/-- the parts of a def's statement -/
noncomputable def fnOfS : Option Stmt → Arguments × List Stmt × Scope
  | some (.FunctionDef _ args body _ _ _ scope _ _ _) => (args, body, scope)
  | _ => (noArgs, [], noScope)
noncomputable def roAll : Arguments × List Stmt × Scope := fnOfS ((fnOfS (Challenge.pw_re0023_01.main.body[9]?)).2.1[1]?)
noncomputable def roP : Arguments := roAll.1
noncomputable def roB : List Stmt := roAll.2.1
noncomputable def roS : Scope := roAll.2.2
theorem kw3 : True := by
  w_top off
  k_with "my enter" => (k_dflt (refine' enterK (by k_asm) (by k_asm) (by k_asm) (by k_asm) (by k_is) (by k_is) (by decide) (by exact BindsTo.of_eq rfl) (by exact locs rfl) ?_ (by decide) (by exact rfl) (by exact rfl) (by exact rfl); k_whole))
  exact True.intro
theorem kw4 : True := by
  w_top off
  k_with "eval Name" => ((k_here; k_dflt (refine' nameX_F (by k_asm) (by rfl) (by k_mem) (by k_asm) ?_ (by rfl) (by rfl); k_whole)))
  exact True.intro
theorem kw5 : True := by
  w_top off
  k_with "setItem ref int" => ((k_here; (with_reducible show wpAny _ _ (setItem (Value.ref _) (Value.int 0 _) _) _ _ _); k_dflt (refine' set0_K (by k_asm) (by k_asm) (by k_upd) ?_; k_whole); intro _ _ _; (try k_sweep)))
  exact True.intro
section
variable {w : World} {p : Program} {loose : List Str} {mean : ExcName → Option Value} {mg mb : Str → Option Value} {hB : Heap} {s : Shared} {fr : List Env}
  {Q E : Value → Shared → Prop} {fp : Value} {t : Tok} {rd cT cA cR aL : Addr} {q x : Str} {doc pm ct : Value} {i : Int} {ti tT : Tok} {n : Nat} {oA oT : Obj}

theorem read_on
  (X : (hd.heap_1 w.params).In hB) (T : Top p loose mean mg mb hB) (hE : Ext hB s.heap) 
  (hrd : s.heap.get? rd = some (fnObj (fnX "_law_read_on" q roP roB roS [("text", cT), ("at", cA)] .none .none doc pm none (.ref cR) ct) none)) (hcd : s.heap.CodeRec (.ref cR) q)
  (hO : Own hB s.heap [(aL, listOf #[.int i ti] n), (cA, oA), (cT, oT)]) (hA : oA.data = .cell (some (.ref aL))) (hT : oT.data = .cell (some (.str x tT)))
  (h1 : @Ne Nat aL cA) (h2 : @Ne Nat aL cT) (hi : 0 ≤ i) (hx : i ≤ (x.length : Int)) (hxx : x.length < 1000)
  (hret : ∀ h' tk' t1 t2, Mod s.heap h' [(aL, listOf #[.int (i + ((Txt.slice x (some i) (some (i + 1))).length : Int)) t1] n)] → Q (.str (Txt.slice x (some i) (some (i + 1))) t2) { s with heap := h', toks := tk' }) :
  wpAny (model Challenge.rw_re0023_01.row.prog w) (Ar 460 160 fr) (call (.ref rd) [.int 1 t]) Q E s := by
  refine wpAny_call ?_
  k_dflt (refine' enter (binds := [("size", .int 1 t)]) X T hE hO hrd rfl hcd (by decide) ?k9 ?kB ?_ ?c5 ?c2 ?c3 ?c4; (case k9 => exact BindsTo.of_eq rfl); (case c5 => decide); (case kB => exact locs rfl); (case c2 => exact rfl); (case c3 => exact rfl); (case c4 => exact rfl); k_whole)
  intro g' L' h' tk out F' N' X' T' hlt
  generalize hb : roB = b
  generalize hs : roS = sc
  replace hb := hb.symm
  replace hs := hs.symm
  conv at hb => rhs; whnf
  conv at hs => rhs; whnf
  subst hb hs
  k_lt hlt
  try dsimp only
  k_steps
  rename News _ _ _ _ => NN
  rename Fr _ _ _ _ => FF
  exact hret _ _ _ _ ((out.same _ _ _ FF NN rfl).drop (l' := [_]) (fun q hq => (hO q (.tail _ hq)).1))
end
end Mine
theorem Mine.kw6 : True := by
  w_top off
  k_with_none
  exact True.intro
end

section
open PySem PySem.W PyProof.Rows
theorem Mine.freshL2 : True ∧ True := by
  w_top off
  first
  | (walk1; fail)
  | exact ⟨True.intro, True.intro⟩
end

section -- L2
open PySem PySem.W PyProof.Rows
set_option maxRecDepth 100000
set_option maxHeartbeats 1000000
set_option linter.unusedVariables false
namespace Mine
structure Lex where
  mc : Addr
  dm : Addr
  pb : Addr
  st : Addr
  sd : Addr
  rd : Addr
  cR : Addr
  cA : Addr
  cT : Addr
  aL : Addr
  fdS : FuncData
  q : Str
  doc : Value
  pm : Value
  ct : Value
  oR : Obj
  oA : Obj
  oT : Obj
  x : Str
  tT : Tok
  t1 : Tok
  t2 : Tok
  t3 : Tok
  t4 : Tok
  tr : Tok
  tw : Tok
  n : Nat
noncomputable abbrev Lex.fdR (z : Lex) : FuncData := fnX "_law_read_on" z.q roP roB roS [("text", z.cT), ("at", z.cA)] .none .none z.doc z.pm none (.ref z.cR) z.ct
noncomputable abbrev Lex.dict (z : Lex) (w : World) (l : Value) : Obj := dictOf [ent w "lineno" z.t1 l, ent w "instream" z.t2 (.ref z.st), ent w "whitespace" z.t3 (.str "\n\t\r " z.tw), ent w "pushback" z.t4 (.ref z.pb)] 4
noncomputable abbrev Lex.objs (z : Lex) (w : World) (l i : Int) (tl ti : Tok) : List (Addr × Obj) := [(z.aL, listOf #[.int i ti] z.n), (z.dm, z.dict w (.int l tl)), (z.mc, instObj 150 z.dm), (z.st, fnObj z.fdS (some z.sd)), (z.sd, dictOf [ent w "read" z.tr (.ref z.rd)] 1), (z.rd, fnObj z.fdR none), (z.cR, z.oR), (z.cA, z.oA), (z.cT, z.oT)]
structure Lex.Ok (z : Lex) : Prop where
  hA : z.oA.data = .cell (some (.ref z.aL))
  hT : z.oT.data = .cell (some (.str z.x z.tT))
  code : ∃ vs t, z.oR.data = .fields vs ∧ vs[1]? = some (.str z.q t)
  len : z.x.length < 1000
  a1 : @Ne Nat z.aL z.dm
  a2 : @Ne Nat z.aL z.mc
  a3 : @Ne Nat z.aL z.st
  a4 : @Ne Nat z.aL z.sd
  a5 : @Ne Nat z.aL z.rd
  a6 : @Ne Nat z.aL z.cR
  a7 : @Ne Nat z.aL z.cA
  a8 : @Ne Nat z.aL z.cT
  d2 : @Ne Nat z.dm z.mc
  d3 : @Ne Nat z.dm z.st
  d4 : @Ne Nat z.dm z.sd
  d5 : @Ne Nat z.dm z.rd
  d6 : @Ne Nat z.dm z.cR
  d7 : @Ne Nat z.dm z.cA
  d8 : @Ne Nat z.dm z.cT
noncomputable abbrev Lex.sign (z : Lex) (i : Int) : Str := Txt.slice z.x (some i) (some (i + 1))
section
variable {w : World} {p : Program} {loose : List Str} {mean : ExcName → Option Value} {mg mb : Str → Option Value} {hB g : Heap} {s : Shared} {fr : List Env} {L : Addr} {m : Str → Option Value} {A : Around}
  {Q E : Value → Shared → Prop} {z : Lex} {l i : Int} {tl ti t : Tok}

theorem read_on_K (Z : z.Ok) (F : Fr g L s.heap m) (X : (hd.heap_1 w.params).In g) (T : Top p loose mean mg mb g) (N : News g L s.heap (z.objs w l i tl ti)) (hi : 0 ≤ i) (hx : i ≤ (z.x.length : Int))
    (h1 : A.handled = none) (h2 : A.depth ≤ 460) (h3 : A.units ≤ 160) (h4 : A.frames = some fr)
    (h : ∀ h' tk' t1 t2, Fr g L h' m → News g L h' (z.objs w l (i + ((z.sign i).length : Int)) tl t1) → Q (.str (z.sign i) t2) { s with heap := h', toks := tk' }) :
    wpAny (model Challenge.rw_re0023_01.row.prog w) A (call (.ref z.rd) [.int 1 t]) Q E s := by
  obtain ⟨vs, tq, hc1, hc2⟩ := Z.code
  have hm : ∀ q, q ∈ [(z.aL, listOf #[.int i ti] z.n), (z.cA, z.oA), (z.cT, z.oT)] → q ∈ z.objs w l i tl ti := by
    intro q hq; simp only [List.mem_cons, List.not_mem_nil, or_false] at hq ⊢; rcases hq with h | h | h <;> simp [h]
  refine ar_any h1 h2 h3 h4 (read_on (cR := z.cR) (q := z.q) X T F.keep (N.get (o := fnObj z.fdR none) (by simp)) (codeRec_news N (by simp) hc1 hc2) (fun q hq => ⟨(N q (hm q hq)).1, (N q (hm q hq)).2.2⟩) Z.hA Z.hT Z.a7 Z.a8 hi hx Z.len fun h' tk' t1 t2 M => ?_)
  have u : Upd z.aL (listOf #[.int i ti] z.n) (listOf #[.int (i + ((z.sign i).length : Int)) t1] z.n) (z.objs w l i tl ti) (z.objs w l (i + ((z.sign i).length : Int)) tl t1) := by
    have := Z.a1; have := Z.a2; have := Z.a3; have := Z.a4; have := Z.a5; have := Z.a6; have := Z.a7; have := Z.a8
    k_upd
  obtain ⟨F', N'⟩ := one_mod F N u M
  exact h h' tk' t1 t2 F' N'
end
end Mine
end

section
open PySem PySem.W PyProof.Rows
theorem Mine.freshL3 : True ∧ True := by
  w_top off
  first
  | (walk1; fail)
  | exact ⟨True.intro, True.intro⟩
end

section -- L3
open PySem PySem.W PyProof.Rows
set_option maxRecDepth 100000
set_option maxHeartbeats 1000000
set_option linter.unusedVariables false
namespace Mine
section
variable {w : World} {p : Program} {loose : List Str} {mean : ExcName → Option Value} {mg mb : Str → Option Value} {hB g : Heap} {s : Shared} {fr : List Env} {L : Addr} {m : Str → Option Value} {A : Around}
  {Q E : Value → Shared → Prop} {z : Lex} {l i : Int} {tl ti t : Tok}

theorem fn_getMethod_K {prog : Program} {f sd rd : Addr} {fd : FuncData} {news : List (Addr × Obj)} {b : Sem Bool} {Q : Value × List Value → Shared → Prop} (N : News g L s.heap news) (h1 : (f, fnObj fd (some sd)) ∈ news) (h2 : (sd, dictOf [ent w "read" t (.ref rd)] 1) ∈ news)
    (h : Q (.ref rd, []) { s with toks := s.toks + 1 }) : wpAny (model prog w) A (getMethod (.ref f) "read" b) Q E s :=
  fn_getMethod (N.get h1) (N.get h2) rfl h
theorem kw7 : True := by
  w_top off
  k_with "getMethod ref" => ((k_here; (with_reducible show wpAny _ _ (getMethod (Value.ref _) (PySem.Str.ofString "read") _) _ _ _); k_dflt (refine' fn_getMethod_K (by k_asm) (by k_mem) (by k_mem) ?_; k_whole)))
  exact True.intro
theorem kw8 : True := by
  w_top off
  k_with "callWith ref" => ((k_here; k_dflt (first | (refine' callWith_F (by exact FnAt.of (by k_asm) (by k_mem)) ?_; k_whole) | (refine' callWith_F0 (by exact FnAt.of (by k_asm) (by k_mem)) ?_; k_whole; try dsimp only [List.nil_append, List.cons_append]))))
  exact True.intro
local macro_rules | `(tactic| walk_at "call ref") => `(tactic| (k_here; (with_reducible show wpAny _ _ (call (Value.ref (Lex.rd _)) _) _ _ _); k_dflt (refine' read_on_K ?k1 ?k2 ?k3 ?k4 ?k5 ?k6 ?k7 ?k8 ?k9 ?k10 ?k11 ?_; (case k2 => k_asm); (case k3 => k_asm); (case k4 => k_asm); (case k1 => assumption); (case k5 => k_asm); (case k6 => assumption); (case k7 => assumption); (case k8 => exact rfl); (case k9 => exact Nat.le_of_ble_eq_true rfl); (case k10 => exact Nat.le_of_ble_eq_true rfl); (case k11 => exact rfl); k_whole); intro h' tk' t1' t2' F' N'; (try dsimp only at N'); (try k_sweep)))
theorem kw9 : True := by
  w_top off
  k_with "my enter" => (k_dflt (refine' enterK (by k_asm) (by k_asm) (by k_asm) (by k_asm) (by k_is) (by k_is) (by decide) (by exact BindsTo.of_eq rfl) (by exact locs rfl) ?_ (by decide) (by exact rfl) (by exact rfl) (by exact rfl); k_whole))
  exact True.intro

theorem read_char {R : Result → Shared → Prop} (Z : z.Ok) (X : (hd.heap_1 w.params).In hB) (T : Top p loose mean mg mb hB) (hE : Ext hB s.heap) (hO : Own hB s.heap (z.objs w l i tl ti)) (hi : 0 ≤ i) (hx : i ≤ (z.x.length : Int))
    (hret : ∀ h' tk' t1 t2 t3, Mod s.heap h' [(z.aL, listOf #[.int (i + ((z.sign i).length : Int)) t1] z.n), (z.dm, z.dict w (.int (if (z.sign i == "\n") = true then l + 1 else l) t2))] → R (.ok (.ret (.str (z.sign i) t3))) { s with heap := h', toks := tk' }) :
    codeAny (model Challenge.rw_re0023_01.row.prog w) (Ar 450 150 fr) (.call (.ref 133) ⟨[.ref z.mc], []⟩) R s := by
  walk_at "my enter"
  intro g' L' h' tk out F' N' X' T' hlt
  change Fr _ _ _ (fun y => List.lookup y [("self", Value.ref z.mc)]) at F'
  k_lt hlt
  have := Z.a1; have := Z.a2; have := Z.a3; have := Z.a4; have := Z.a5; have := Z.a6; have := Z.a7; have := Z.a8
  have := Z.d2; have := Z.d3; have := Z.d4; have := Z.d5; have := Z.d6; have := Z.d7; have := Z.d8
  try dsimp only
  k_steps
  · rename News _ _ _ _ => NN
    rename Fr _ _ _ _ => FF
    rename (_ == _) = true => hq
    show R _ _
    rw [if_pos hq] at hret
    exact hret _ _ _ _ _ ((out.same _ _ _ FF NN rfl).drop (l' := [_, _]) (fun q hq => (hO q (.tail _ (.tail _ hq))).1))
  · rename News _ _ _ _ => NN
    rename Fr _ _ _ _ => FF
    rename (_ == _) = false => hq
    show R _ _
    rw [if_neg (by rw [hq]; exact Bool.false_ne_true)] at hret
    exact hret _ _ _ _ _ ((out.same _ _ _ FF NN rfl).drop (l' := [_, _]) (fun q hq => (hO q (.tail _ (.tail _ hq))).1))

theorem sign_item {x : Str} {k c : Nat} {r : List Nat} (h : x.cps.toList.drop k = c :: r) : Txt.slice x (some (k : Int)) (some ((k : Int) + 1)) = ⟨#[c]⟩ := by
  have hlt : k < x.cps.toList.length := by
    apply Nat.lt_of_not_le
    intro hle
    rw [List.drop_of_length_le hle] at h
    cases h
  have hb : k + 1 ≤ x.length := by unfold Str.length; rw [← Array.length_toList]; exact hlt
  have e := StrLaws.sliceText_nat x (Nat.le_succ k) hb
  have e0 : ((k.succ : Nat) : Int) = (k : Int) + 1 := by omega
  rw [e0] at e
  refine Eq.trans e ?_
  rw [h, Nat.succ_sub (Nat.le_refl k), Nat.sub_self]
  rfl
theorem sign_end {x : Str} {k : Nat} (h : x.cps.toList.drop k = []) (hk : k ≤ x.length) : Txt.slice x (some (k : Int)) (some ((k : Int) + 1)) = ⟨#[]⟩ := by
  have hle : x.cps.toList.length ≤ k := by
    apply Nat.le_of_not_lt
    intro hlt
    have := congrArg List.length h
    rw [List.length_drop] at this
    simp only [List.length_nil] at this
    omega
  have hk' : k = x.length := by unfold Str.length at hk ⊢; rw [Array.length_toList] at hle; omega
  subst hk'
  have e := StrLaws.sliceText_nat x (Nat.le_refl x.length) (Nat.le_refl x.length)
  have e2 : Builtin.Str.strSliceIndices (some (x.length : Int)) (some ((x.length : Int) + 1)) 1 x.length = Builtin.Str.strSliceIndices (some (x.length : Int)) (some (x.length : Int)) 1 x.length := by
    unfold Builtin.Str.strSliceIndices
    have a1 : ¬ ((x.length : Int) < 0) := by omega
    have a2 : ¬ ((x.length : Int) + 1 < 0) := by omega
    have a3 : max (0 : Int) (min ((x.length : Int) + 1) (x.length : Int)) = max (0 : Int) (min (x.length : Int) (x.length : Int)) := by omega
    have a4 : (1 : Int) > 0 := by decide
    simp only [a1, a2, a3, a4, if_false, if_true]
  have e3 : Txt.slice x (some (x.length : Int)) (some ((x.length : Int) + 1)) = StrLaws.sliceText x (some (x.length : Int)) (some (x.length : Int)) := by
    unfold Txt.slice StrLaws.sliceText
    rw [e2]
  rw [e3, e, Nat.sub_self]
  rfl
end
theorem kw10 : True := by
  w_top off
  k_with_none
  exact True.intro
end Mine
end

section
open PySem PySem.W PyProof.Rows
theorem Mine.freshC3 : True ∧ True := by
  w_top off
  first
  | (walk1; fail)
  | exact ⟨True.intro, True.intro⟩
end

section -- C3
open PySem PySem.W PyProof.Rows
set_option maxRecDepth 100000
set_option maxHeartbeats 8000000
namespace Mine
theorem kw11 : True := by
  w_top off
  k_with "my enter" => (k_dflt (refine' enterK (by k_asm) (by k_asm) (by k_asm) (by k_asm) (by k_is) (by k_is) (by decide) (by exact BindsTo.of_eq rfl) (by exact locs rfl) ?_ (by decide) (by exact rfl) (by exact rfl) (by exact rfl); k_whole))
  exact True.intro
section
variable {w : World} {p : Program} {loose : List Str} {mean : ExcName → Option Value} {mg mb : Str → Option Value} {hB : Heap} {s : Shared} {fr : List Env}
  {Q E : Value → Shared → Prop} {fp : Value} {t : Tok}

theorem make_lex 
  (X : (hd.heap_1 w.params).In hB) (T : Top p loose mean mg mb hB) (hE : Ext hB s.heap) 
  (hret : ∀ h' tk' mc dm pb t1 t2 t3 t4 t5 t6, s.heap.objs.size ≤ dm → dm < mc → mc < pb → Mod s.heap h' [(pb, listOf #[] 0), (mc, instObj 150 dm), (dm, dictOf [ent w "lineno" t1 (.int 1 t5), ent w "instream" t2 fp, ent w "whitespace" t3 (.str "\n\t\r " t6), ent w "pushback" t4 (.ref pb)] 4)] → Q (.ref mc) { s with heap := h', toks := tk' }) :
  wpAny (model Challenge.rw_re0023_01.row.prog w) (Ar 410 110 fr) (call (.ref 150) [fp]) Q E s := by
  have Xs := X.keeps hE
  obtain ⟨hh, gg, dd, tt, os⟩ := s
  refine wpAny_call ?_
  refine make_core (makes_of Xs (by k_is)) (looks_findIn Xs (by k_is)) (fun self => bind_fn Xs self (by k_is)) (.inl rfl) ?_
  refine ar_code (d := 420) (u := 120) (fr := fr) rfl (by simp only [depth_under_make]; decide) (Nat.le_of_ble_eq_true rfl) rfl ?_
  clear Xs
  have hE' : Ext hB ((hh.push emptyDict).push (instObj 150 hh.objs.size)) := fun b o e => Heap.get?_push_of_some _ (Heap.get?_push_of_some _ (hE b o e))
  have hO' : Own hB ((hh.push emptyDict).push (instObj 150 hh.objs.size)) [(hh.objs.size + 1, instObj 150 hh.objs.size), (hh.objs.size, dictOf [] 0)] := by
    intro q hq
    rcases List.mem_cons.mp hq with rfl | hq
    · exact ⟨by heap_get, fresh_none hE (Nat.le_succ _)⟩
    · rcases List.mem_cons.mp hq with rfl | hq
      · exact ⟨by heap_get, fresh_none hE (Nat.le_refl _)⟩
      · exact nomatch hq
  walk_at "my enter"
  intro g' L' h' tk out F' N' X' T' hlt
  dsimp only at out
  change Fr _ _ _ (fun y => List.lookup y [("fp", fp), ("self", Value.ref (hh.objs.size + 1))]) at F'
  k_lt hlt
  try dsimp only
  k_steps
  rename News _ _ _ _ => NN
  rename Fr _ _ _ _ => FF
  refine ⟨rfl, hret _ _ _ _ _ _ _ _ _ _ _ (Nat.le_refl _) (Nat.lt_succ_self _) ?_ ((out.more _ _ _ FF NN (by simp)).past (fun b o e => Heap.get?_push_of_some _ (Heap.get?_push_of_some _ e)))⟩
  omega
end
end Mine
theorem Mine.kw12 : True := by
  w_top off
  k_with_none
  exact True.intro
end

section
open PySem PySem.W PyProof.Rows
theorem Mine.freshG1 : True ∧ True := by
  w_top off
  first
  | (walk1; fail)
  | exact ⟨True.intro, True.intro⟩
end

section -- G1
open PySem PySem.W PyProof.Rows
set_option maxRecDepth 100000
set_option maxHeartbeats 1000000
set_option linter.unusedVariables false
namespace Mine
noncomputable abbrev Lex.all (z : Lex) (w : World) (it q : Addr) (te : Tok) (n : Nat) (l i : Int) (tl ti : Tok) : List (Addr × Obj) :=
  (it, itObj (.ref q) (.str "" te) false) :: (q, methodObj (.ref 133) (.ref z.mc)) :: (z.pb, listOf #[] n) :: z.objs w l i tl ti
structure Sep (z : Lex) (it q : Addr) : Prop where
  p1 : @Ne Nat z.pb z.aL
  p2 : @Ne Nat z.pb z.dm
  q1 : @Ne Nat q z.aL
  q2 : @Ne Nat q z.dm
  i1 : @Ne Nat it z.aL
  i2 : @Ne Nat it z.dm
  i3 : @Ne Nat it z.mc
  i4 : @Ne Nat it z.st
  i5 : @Ne Nat it z.sd
  i6 : @Ne Nat it z.rd
  i7 : @Ne Nat it z.cR
  i8 : @Ne Nat it z.cA
  i9 : @Ne Nat it z.cT
  ip : @Ne Nat it z.pb
  iq : @Ne Nat it q
/-- the line's number behind a sign -/
noncomputable def lineAt (l : Int) (c : Nat) : Int := if ((⟨#[c]⟩ : Str) == "\n") = true then l + 1 else l
theorem all_cons {α : Type} {P : α → Prop} {a : α} {l : List α} (h : P a) (t : ∀ x ∈ l, P x) : ∀ x ∈ a :: l, P x := fun x hx => by
  cases hx with
  | head => exact h
  | tail _ hx => exact t x hx
theorem all_append {α : Type} {P : α → Prop} {l r : List α} (h : ∀ x ∈ l, P x) (t : ∀ x ∈ r, P x) : ∀ x ∈ l ++ r, P x := fun x hx => (List.mem_append.mp hx).elim (h x) (t x)
theorem all_nil {α : Type} {P : α → Prop} : ∀ x ∈ ([] : List α), P x := fun _ h => nomatch h
section
variable {w : World} {p : Program} {loose : List Str} {mean : ExcName → Option Value} {mg mb : Str → Option Value} {hB g : Heap} {s : Shared} {fr : List Env} {L : Addr} {m : Str → Option Value} {A : Around}
  {Q E : Value → Shared → Prop} {z : Lex} {l : Int} {tl ti t te : Tok} {n k c : Nat} {it q : Addr} {r : List Nat}

theorem all_mod {h' : Heap} {l' i' : Int} {t1 t2 : Tok} (Z : z.Ok) (S : Sep z it q) (F : Fr g L s.heap m) (N : News g L s.heap (z.all w it q te n l k tl ti))
    (M : Mod s.heap h' [(z.aL, listOf #[.int i' t1] z.n), (z.dm, z.dict w (.int l' t2))]) : Fr g L h' m ∧ News g L h' (z.all w it q te n l' i' t2 t1) := by
  have nA := N (z.aL, listOf #[.int (k : Int) ti] z.n) (by k_mem)
  have nD := N (z.dm, z.dict w (.int l tl)) (by k_mem)
  have hl : ∀ x ∈ [(z.aL, listOf #[.int i' t1] z.n), (z.dm, z.dict w (.int l' t2))], g.get? x.1 = none ∧ x.1 ≠ L := all_cons ⟨nA.2.2, nA.2.1⟩ (all_cons ⟨nD.2.2, nD.2.1⟩ all_nil)
  refine ⟨fr_mod F hl M, news_mod N hl M ?_⟩
  have far : ∀ {x : Addr × Obj}, x ∈ z.all w it q te n l k tl ti → @Ne Nat z.aL x.1 → @Ne Nat z.dm x.1 → x ∈ [(z.aL, listOf #[.int i' t1] z.n), (z.dm, z.dict w (.int l' t2))] ∨ (x ∈ z.all w it q te n l k tl ti ∧ ∀ r ∈ [(z.aL, listOf #[.int i' t1] z.n), (z.dm, z.dict w (.int l' t2))], r.1 ≠ x.1) :=
    fun hx h1 h2 => .inr ⟨hx, all_cons h1 (all_cons h2 all_nil)⟩
  refine all_cons (far (by k_mem) (Ne.symm S.i1) (Ne.symm S.i2)) ?_
  refine all_cons (far (by k_mem) (Ne.symm S.q1) (Ne.symm S.q2)) ?_
  refine all_cons (far (by k_mem) (Ne.symm S.p1) (Ne.symm S.p2)) ?_
  refine all_cons (.inl (.head _)) ?_
  refine all_cons (.inl (.tail _ (.head _))) ?_
  refine all_cons (far (by k_mem) Z.a2 Z.d2) ?_
  refine all_cons (far (by k_mem) Z.a3 Z.d3) ?_
  refine all_cons (far (by k_mem) Z.a4 Z.d4) ?_
  refine all_cons (far (by k_mem) Z.a5 Z.d5) ?_
  refine all_cons (far (by k_mem) Z.a6 Z.d6) ?_
  refine all_cons (far (by k_mem) Z.a7 Z.d7) ?_
  refine all_cons (far (by k_mem) Z.a8 Z.d8) ?_
  exact all_nil

theorem drop_lt {x : Str} {k c : Nat} {r : List Nat} (h : x.cps.toList.drop k = c :: r) : k < x.length := by
  apply Nat.lt_of_not_le
  intro hle
  rw [List.drop_of_length_le (by rw [Array.length_toList]; exact hle)] at h
  cases h

theorem read_item {R : Result → Shared → Prop} (Z : z.Ok) (S : Sep z it q) (F : Fr g L s.heap m) (X : (hd.heap_1 w.params).In g) (T : Top p loose mean mg mb g) (N : News g L s.heap (z.all w it q te n l k tl ti)) (hk : z.x.cps.toList.drop k = c :: r)
    (h1 : A.handled = none) (h2 : A.depth ≤ 450) (h3 : A.units ≤ 150) (h4 : A.frames = some fr)
    (h : ∀ h' tk' t1 t2 t3, Fr g L h' m → News g L h' (z.all w it q te n (lineAt l c) ((k + 1 : Nat) : Int) t2 t1) → R (.ok (.ret (.str ⟨#[c]⟩ t3))) { s with heap := h', toks := tk' }) :
    codeAny (model Challenge.rw_re0023_01.row.prog w) A (.call (.ref 133) ⟨[.ref z.mc], []⟩) R s := by
  have e := sign_item hk
  refine ar_code h1 h2 h3 h4 (read_char Z X T F.keep (own_of N fun x hx => .tail _ (.tail _ (.tail _ hx))) (Int.natCast_nonneg k) (by have := drop_lt hk; omega) fun h' tk' t1 t2 t3 M => ?_)
  unfold Lex.sign at M ⊢
  rw [e] at M ⊢
  obtain ⟨F', N'⟩ := all_mod Z S F N M
  exact h h' tk' t1 t2 t3 F' N'

theorem read_item_K (Z : z.Ok) (S : Sep z it q) (F : Fr g L s.heap m) (X : (hd.heap_1 w.params).In g) (T : Top p loose mean mg mb g) (N : News g L s.heap (z.all w it q te n l k tl ti)) (hk : z.x.cps.toList.drop k = c :: r)
    (h1 : A.handled = none) (h2 : A.depth ≤ 450) (h3 : A.units ≤ 150) (h4 : A.frames = some fr)
    (h : ∀ h' tk' t1 t2 t3, Fr g L h' m → News g L h' (z.all w it q te n (lineAt l c) ((k + 1 : Nat) : Int) t2 t1) → Q (.str ⟨#[c]⟩ t3) { s with heap := h', toks := tk' }) :
    wpAny (model Challenge.rw_re0023_01.row.prog w) A (call (.ref 133) [.ref z.mc]) Q E s :=
  wpAny_call (read_item Z S F X T N hk h1 h2 h3 h4 h)

theorem fn133 (X : (hd.heap_1 w.params).In g) (hg : Ext g s.heap) : ∃ bo fd, s.heap.get? 133 = some bo ∧ bo.data = .func fd := by
  refine ⟨_, _, hg _ _ (X 133 _ (by with_unfolding_all rfl)), rfl⟩

theorem next_item_K {Q : Option Value → Shared → Prop} (Z : z.Ok) (S : Sep z it q) (F : Fr g L s.heap m) (X : (hd.heap_1 w.params).In g) (T : Top p loose mean mg mb g) (N : News g L s.heap (z.all w it q te n l k tl ti)) (hk : z.x.cps.toList.drop k = c :: r)
    (h1 : A.handled = none) (h2 : A.depth ≤ 450) (h3 : A.units + 1 ≤ 150) (h4 : A.frames = some fr)
    (h : ∀ h' tk' t1 t2 t3, Fr g L h' m → News g L h' (z.all w it q te n (lineAt l c) ((k + 1 : Nat) : Int) t2 t1) → Q (some (.str ⟨#[c]⟩ t3)) { s with heap := h', toks := tk' }) :
    wpAny (model Challenge.rw_re0023_01.row.prog w) A (pyNext (.ref it)) Q E s := by
  obtain ⟨bo, fd, hf, hb⟩ := fn133 X F.keep
  refine ciNext_item (N.get (.head _)) (N.get (.tail _ (.head _))) hf hb (read_item (A := A.in1) Z S F X T N hk h1 h2 h3 h4 fun h' tk' t1 t2 t3 F' N' => ?_)
  exact ⟨_, _, rfl, N'.get (.head _), rfl, h h' tk' t1 t2 t3 F' N'⟩
end
end Mine
end

section
open PySem PySem.W PyProof.Rows
theorem Mine.freshG2 : True ∧ True := by
  w_top off
  first
  | (walk1; fail)
  | exact ⟨True.intro, True.intro⟩
end

section -- G2
open PySem PySem.W PyProof.Rows
set_option maxRecDepth 100000
set_option maxHeartbeats 1000000
set_option linter.unusedVariables false
namespace Mine
noncomputable def clsOfS : Option Stmt → List Stmt
  | some (.ClassDef _ _ _ body _ _ _ _ _ _ _) => body
  | _ => []
noncomputable def forOfS : Option Stmt → List Stmt
  | some (.For _ _ body _ _) => body
  | _ => []
noncomputable def ifOfS : Option Stmt → List Stmt × List Stmt
  | some (.If _ body orelse _) => (body, orelse)
  | _ => ([], [])
noncomputable def gtAll : Arguments × List Stmt × Scope := fnOfS ((clsOfS (Challenge.pw_re0023_01.main.body[7]?))[2]?)
noncomputable def gtB : List Stmt := gtAll.2.1
noncomputable def gtS : Scope := gtAll.2.2
noncomputable def gtOuter : List Stmt := forOfS gtB[3]?
noncomputable def gtQuoted : List Stmt := forOfS ((ifOfS gtOuter[1]?).1[0]?)
noncomputable def gtBare : List Stmt := forOfS ((ifOfS gtOuter[1]?).2[2]?)
noncomputable abbrev gtEnv (L : Addr) : Env := envX "_netrclex.get_token" gtS L 140 (.ref 139) []
theorem loadX_L {M : Model} {A : Around} {E : Value → Shared → Prop} {s : Shared} {h₀ : Heap} {L a : Addr} {m : Str → Option Value} {cn : Str} {cs : Scope} {ccd : Value} {cl : List (Str × Addr)} {x : Str} {v : Value} {Q : Value → Shared → Prop}
    (F : Fr h₀ L s.heap m) (hv : m x = some v) (h : Q v s) (hk : cs.kind = .function := by rfl) (hx : (envX cn cs L a ccd cl).kindOf x = some .local := by rfl) :
    wpAny M A (loadName (envX cn cs L a ccd cl) x) Q E s := wpAny_loadName_local hk hx F.ns hv h
section
variable {w : World} {p : Program} {loose : List Str} {mean : ExcName → Option Value} {mg mb : Str → Option Value} {hB g : Heap} {s : Shared} {fr : List Env} {L : Addr} {m : Str → Option Value} {A : Around}
  {Q E : Value → Shared → Prop} {z : Lex} {l : Int} {tl ti t te ta tc : Tok} {n k c : Nat} {it q : Addr} {r : List Nat} {acc : Str}
theorem kw13 : True := by
  w_top off
  k_with "eval Name" => ((k_here; k_dflt (refine' nameX_L (by k_asm) (by assumption) ?_ (by rfl) (by rfl); k_whole)))
  exact True.intro
theorem kw14 : True := by
  w_top off
  k_with "call ref" => ((k_here; (with_reducible show wpAny _ _ (call (Value.ref 133) _) _ _ _); k_dflt (refine' read_item_K (by assumption) (by assumption) (by k_asm) (by k_asm) (by k_asm) (by k_asm) (by assumption) (by exact rfl) (by exact Nat.le_of_ble_eq_true rfl) (by exact Nat.le_of_ble_eq_true rfl) (by exact rfl) ?_; k_whole); intro _ _ _ _ _ _ _; (try k_sweep)))
  exact True.intro
theorem kw15 : True := by
  w_top off
  k_with "my open" => ((try dsimp only))
  exact True.intro
theorem kw16 : True := by
  w_top off
  k_with "loadName" => ((k_here; k_dflt (refine' loadX_L (by k_asm) (by first | rfl | assumption) ?_ (by rfl) (by rfl); k_whole)))
  exact True.intro

theorem kw17 : True := by
  w_top off
  k_with "ite" => ((k_closed; k_dflt (first | refine ite_pos (by decide +kernel) ?_ | refine ite_neg (by decide +kernel) ?_)))
  exact True.intro

theorem turnQ_plain {Q : Flow → Shared → Prop} (Z : z.Ok) (S : Sep z it q) (X : (hd.heap_1 w.params).In g) (T : Top p loose mean mg mb g)
    (F : Fr g L s.heap (fun y => if y = "ch" then some (.str ⟨#[c]⟩ tc) else m y)) (N : News g L s.heap (z.all w it q te n l k tl ti)) (hm1 : m "token" = some (.str acc ta)) (hm2 : m "self" = some (.ref z.mc))
    (h34 : ((⟨#[c]⟩ : Str) == "\"") = false) (h92 : ((⟨#[c]⟩ : Str) == "\\") = false) (hacc : acc.length < 100)
    (h : ∀ h' tk' m' t', Fr g L h' m' → News g L h' (z.all w it q te n l k tl ti) → m' "token" = some (.str (acc ++ ⟨#[c]⟩) t') → m' "self" = some (.ref z.mc) → Q .next { s with heap := h', toks := tk' }) :
    wpAny (model Challenge.rw_re0023_01.row.prog w) ((Ar 430 130 fr).deeper (gtEnv L)) (execs gtQuoted (gtEnv L)) Q (fun _ _ => False) s := by
  generalize hb : gtQuoted = b
  generalize hs : gtS = sc
  replace hb := hb.symm
  replace hs := hs.symm
  conv at hb => rhs; whnf
  conv at hs => rhs; whnf
  subst hb hs
  try dsimp only
  k_steps
  rename News _ _ _ _ => NN
  rename Fr _ _ _ _ => FF
  exact h _ _ _ _ FF NN rfl hm2

theorem turnQ_esc {Q : Flow → Shared → Prop} {c1 : Nat} (Z : z.Ok) (S : Sep z it q) (X : (hd.heap_1 w.params).In g) (T : Top p loose mean mg mb g)
    (F : Fr g L s.heap (fun y => if y = "ch" then some (.str ⟨#[c]⟩ tc) else m y)) (N : News g L s.heap (z.all w it q te n l k tl ti)) (hm1 : m "token" = some (.str acc ta)) (hm2 : m "self" = some (.ref z.mc))
    (h34 : ((⟨#[c]⟩ : Str) == "\"") = false) (h92 : ((⟨#[c]⟩ : Str) == "\\") = true) (hacc : acc.length < 100) (hk : z.x.cps.toList.drop k = c1 :: r)
    (h : ∀ h' tk' m' t' t1 t2, Fr g L h' m' → News g L h' (z.all w it q te n (lineAt l c1) ((k + 1 : Nat) : Int) t2 t1) → m' "token" = some (.str (acc ++ ⟨#[c1]⟩) t') → m' "self" = some (.ref z.mc) → Q .next { s with heap := h', toks := tk' }) :
    wpAny (model Challenge.rw_re0023_01.row.prog w) ((Ar 430 130 fr).deeper (gtEnv L)) (execs gtQuoted (gtEnv L)) Q (fun _ _ => False) s := by
  generalize hb : gtQuoted = b
  generalize hs : gtS = sc
  replace hb := hb.symm
  replace hs := hs.symm
  conv at hb => rhs; whnf
  conv at hs => rhs; whnf
  subst hb hs
  try dsimp only
  k_steps
  rename News _ _ _ _ => NN
  rename Fr _ _ _ _ => FF
  exact h _ _ _ _ _ _ FF NN rfl hm2

theorem turnQ_end {Q : Flow → Shared → Prop} (Z : z.Ok) (S : Sep z it q) (X : (hd.heap_1 w.params).In g) (T : Top p loose mean mg mb g)
    (F : Fr g L s.heap (fun y => if y = "ch" then some (.str ⟨#[c]⟩ tc) else m y)) (N : News g L s.heap (z.all w it q te n l k tl ti)) (hm1 : m "token" = some (.str acc ta)) (hm2 : m "self" = some (.ref z.mc))
    (h34 : ((⟨#[c]⟩ : Str) == "\"") = true)
    (h : ∀ tk' t', Q (.ret (.str acc t')) { s with toks := tk' }) :
    wpAny (model Challenge.rw_re0023_01.row.prog w) ((Ar 430 130 fr).deeper (gtEnv L)) (execs gtQuoted (gtEnv L)) Q (fun _ _ => False) s := by
  generalize hb : gtQuoted = b
  generalize hs : gtS = sc
  replace hb := hb.symm
  replace hs := hs.symm
  conv at hb => rhs; whnf
  conv at hs => rhs; whnf
  subst hb hs
  try dsimp only
  k_steps
  rename News _ _ _ _ => NN
  rename Fr _ _ _ _ => FF
  exact h _ _

theorem turnB_esc {Q : Flow → Shared → Prop} {c1 : Nat} (Z : z.Ok) (S : Sep z it q) (X : (hd.heap_1 w.params).In g) (T : Top p loose mean mg mb g)
    (F : Fr g L s.heap (fun y => if y = "ch" then some (.str ⟨#[92]⟩ tc) else m y)) (N : News g L s.heap (z.all w it q te n l k tl ti)) (hm1 : m "token" = some (.str acc ta)) (hm2 : m "self" = some (.ref z.mc))
    (hacc : acc.length < 100) (hk : z.x.cps.toList.drop k = c1 :: r)
    (h : ∀ h' tk' m' t' t1 t2, Fr g L h' m' → News g L h' (z.all w it q te n (lineAt l c1) ((k + 1 : Nat) : Int) t2 t1) → m' "token" = some (.str (acc ++ ⟨#[c1]⟩) t') → m' "self" = some (.ref z.mc) → Q .next { s with heap := h', toks := tk' }) :
    wpAny (model Challenge.rw_re0023_01.row.prog w) ((Ar 430 130 fr).deeper (gtEnv L)) (execs gtBare (gtEnv L)) Q (fun _ _ => False) s := by
  generalize hb : gtBare = b
  generalize hs : gtS = sc
  replace hb := hb.symm
  replace hs := hs.symm
  conv at hb => rhs; whnf
  conv at hs => rhs; whnf
  subst hb hs
  try dsimp only
  k_steps
  rename News _ _ _ _ => NN
  rename Fr _ _ _ _ => FF
  exact h _ _ _ _ _ _ FF NN rfl hm2

theorem turnB_end {Q : Flow → Shared → Prop} (Z : z.Ok) (S : Sep z it q) (X : (hd.heap_1 w.params).In g) (T : Top p loose mean mg mb g)
    (F : Fr g L s.heap (fun y => if y = "ch" then some (.str ⟨#[10]⟩ tc) else m y)) (N : News g L s.heap (z.all w it q te n l k tl ti)) (hm1 : m "token" = some (.str acc ta)) (hm2 : m "self" = some (.ref z.mc))
    (h : ∀ tk' t', Q (.ret (.str acc t')) { s with toks := tk' }) :
    wpAny (model Challenge.rw_re0023_01.row.prog w) ((Ar 430 130 fr).deeper (gtEnv L)) (execs gtBare (gtEnv L)) Q (fun _ _ => False) s := by
  generalize hb : gtBare = b
  generalize hs : gtS = sc
  replace hb := hb.symm
  replace hs := hs.symm
  conv at hb => rhs; whnf
  conv at hs => rhs; whnf
  subst hb hs
  try dsimp only
  k_steps
  rename News _ _ _ _ => NN
  rename Fr _ _ _ _ => FF
  exact h _ _

theorem turnO_ws {Q : Flow → Shared → Prop} (Z : z.Ok) (S : Sep z it q) (X : (hd.heap_1 w.params).In g) (T : Top p loose mean mg mb g)
    (F : Fr g L s.heap (fun y => if y = "ch" then some (.str ⟨#[10]⟩ tc) else m y)) (N : News g L s.heap (z.all w it q te n l k tl ti)) (hm1 : m "token" = some (.str acc ta)) (hm2 : m "self" = some (.ref z.mc))
    (h : ∀ tk', Q .cont { s with toks := tk' }) :
    wpAny (model Challenge.rw_re0023_01.row.prog w) ((Ar 430 130 fr).deeper (gtEnv L)) (execs gtOuter (gtEnv L)) Q (fun _ _ => False) s := by
  generalize hb : gtOuter = b
  generalize hs : gtS = sc
  replace hb := hb.symm
  replace hs := hs.symm
  conv at hb => rhs; whnf
  conv at hs => rhs; whnf
  subst hb hs
  try dsimp only
  k_steps
  rename News _ _ _ _ => NN
  rename Fr _ _ _ _ => FF
  exact h _

end
theorem kw18 : True := by
  w_top off
  k_with_none
  exact True.intro
end Mine
end

section
open PySem PySem.W PyProof.Rows
theorem Mine.freshG3 : True ∧ True := by
  w_top off
  first
  | (walk1; fail)
  | exact ⟨True.intro, True.intro⟩
end

section -- G3
open PySem PySem.W PyProof.Rows
set_option maxRecDepth 100000
set_option maxHeartbeats 1000000
set_option linter.unusedVariables false
namespace Mine
/-- a word as it stands between quotation marks -/
noncomputable def encQ : List Nat → List Nat
  | [] => []
  | c :: r => (if c = 34 ∨ c = 92 then [92, c] else [c]) ++ encQ r
/-- a word, each sign behind a backslash -/
noncomputable def encB : List Nat → List Nat
  | [] => []
  | c :: r => 92 :: c :: encB r
theorem line92 (l : Int) : lineAt l 92 = l := if_neg (by decide +kernel)
theorem line34 (l : Int) : lineAt l 34 = l := if_neg (by decide +kernel)
theorem str_cons (acc : Str) (c : Nat) (W : List Nat) : acc ++ (⟨(c :: W).toArray⟩ : Str) = (acc ++ ⟨#[c]⟩) ++ (⟨W.toArray⟩ : Str) := by
  rw [Str.append_assoc]
  refine congrArg (acc ++ ·) (Str.ext' ?_)
  show (c :: W).toArray = #[c] ++ W.toArray
  simp
theorem str_nil (acc : Str) : acc ++ (⟨([] : List Nat).toArray⟩ : Str) = acc := by
  apply Str.ext'
  show acc.cps ++ #[] = acc.cps
  simp
theorem drop_next {x : List Nat} {k c : Nat} {r : List Nat} (h : x.drop k = c :: r) : x.drop (k + 1) = r := by
  rw [← List.drop_drop, h]; rfl
theorem sg_ne {c d : Nat} (h : c ≠ d) : ((⟨#[c]⟩ : Str) == ⟨#[d]⟩) = false := by
  refine beq_eq_false_iff_ne.mpr fun e => h ?_
  have := congrArg (fun x : Str => x.cps.toList) e
  simpa using this
section
variable {w : World} {p : Program} {loose : List Str} {mean : ExcName → Option Value} {mg mb : Str → Option Value} {hB g : Heap} {s : Shared} {fr : List Env} {L : Addr} {m : Str → Option Value} {A : Around}
  {E : Value → Shared → Prop} {z : Lex} {tl ti t te ta tc : Tok} {n : Nat} {it q : Addr} {r : List Nat} {full : Str} {R : Result → Shared → Prop} {kE : Nat} {lE : Int} {px : Pos}

/-- between two turns of the quoted loop -/
noncomputable def InvQ (enc : List Nat → List Nat) (last : Nat) (w : World) (g : Heap) (L : Addr) (z : Lex) (it q : Addr) (te : Tok) (n : Nat) (r : List Nat) (full : Str) (kE : Nat) (lE : Int) (s : Shared) (N : Nat) (s' : Shared) : Prop :=
  ∃ (W : List Nat) (acc : Str) (k : Nat) (l : Int) (tl ti ta : Tok) (m : Str → Option Value) (h : Heap) (tk : Nat), N = W.length ∧ s' = { s with heap := h, toks := tk } ∧ Fr g L h m ∧ News g L h (z.all w it q te n l k tl ti) ∧
    m "token" = some (.str acc ta) ∧ m "self" = some (.ref z.mc) ∧ z.x.cps.toList.drop k = enc W ++ last :: r ∧ full = acc ++ ⟨W.toArray⟩ ∧ lE = lineAt (W.foldl lineAt l) last ∧ kE = k + (enc W).length + 1 ∧ acc.length + W.length < 100

theorem loopQ (Z : z.Ok) (S : Sep z it q) (X : (hd.heap_1 w.params).In g) (T : Top p loose mean mg mb g) {N : Nat} (hI : InvQ encQ 34 w g L z it q te n r full kE lE s N s)
    (hR : ∀ h' tk' t' t1 t2 m', Fr g L h' m' → News g L h' (z.all w it q te n lE kE t2 t1) → R (.ok (.ret (.str full t'))) { s with heap := h', toks := tk' }) :
    codeAny (model Challenge.rw_re0023_01.row.prog w) ((Ar 430 130 fr).deeper (gtEnv L)) (.forLoop (.Name "ch" px) (.ref it) gtQuoted [] (gtEnv L)) R s := by
  refine codeAny_forLoop (InvQ encQ 34 w g L z it q te n r full kE lE s) ?_ N hI
  rintro N s' ⟨W, acc, k, l, tl, ti, ta, m, h, tk, rfl, rfl, F, Nw, hm1, hm2, hd, rfl, rfl, rfl, hlen⟩
  cases W with
  | nil =>
    refine next_item_K (fr := gtEnv L :: fr) Z S F X T Nw hd rfl (Nat.le_of_ble_eq_true rfl) (Nat.le_of_ble_eq_true rfl) rfl fun h1 tk1 t1 t2 t3 F1 N1 => ?_
    refine wpAny_assign_Name (storeX_L F1 N1 fun h2 F2 N2 => ?_)
    refine wpAny_mono (turnQ_end Z S X T F2 N2 hm1 hm2 (by decide +kernel) fun tk' t' => ?_) (fun _ _ x => x) (fun _ _ x => x.elim)
    rw [str_nil]
    exact hR _ _ _ _ _ _ F2 N2
  | cons c W =>
    simp only [encQ] at hd
    by_cases hc : c = 34 ∨ c = 92
    · rw [if_pos hc] at hd
      refine next_item_K (fr := gtEnv L :: fr) Z S F X T Nw hd rfl (Nat.le_of_ble_eq_true rfl) (Nat.le_of_ble_eq_true rfl) rfl fun h1 tk1 t1 t2 t3 F1 N1 => ?_
      refine wpAny_assign_Name (storeX_L F1 N1 fun h2 F2 N2 => ?_)
      refine wpAny_mono (turnQ_esc Z S X T F2 N2 hm1 hm2 (by decide +kernel) (by decide +kernel) (by omega) (drop_next hd) fun h3 tk3 m3 t3' t4 t5 F3 N3 e1 e2 => ?_) (fun _ _ x => x) (fun _ _ x => x.elim)
      refine ⟨W.length, Nat.lt_succ_self _, W, acc ++ ⟨#[c]⟩, k + 1 + 1, lineAt (lineAt l 92) c, t5, t4, t3', m3, h3, tk3, rfl, rfl, F3, N3, e1, e2, drop_next (drop_next hd), str_cons _ _ _, ?_, ?_, ?_⟩
      · rw [line92]; rfl
      · simp only [encQ, if_pos hc, List.length_append, List.length_cons, List.length_nil]; omega
      · rw [Str.length_append]; simp only [List.length_cons] at hlen; show acc.length + 1 + W.length < 100; omega
    · rw [if_neg hc] at hd
      refine next_item_K (fr := gtEnv L :: fr) Z S F X T Nw hd rfl (Nat.le_of_ble_eq_true rfl) (Nat.le_of_ble_eq_true rfl) rfl fun h1 tk1 t1 t2 t3 F1 N1 => ?_
      refine wpAny_assign_Name (storeX_L F1 N1 fun h2 F2 N2 => ?_)
      refine wpAny_mono (turnQ_plain Z S X T F2 N2 hm1 hm2 (sg_ne fun e => hc (.inl e)) (sg_ne fun e => hc (.inr e)) (by omega) fun h3 tk3 m3 t3' F3 N3 e1 e2 => ?_) (fun _ _ x => x) (fun _ _ x => x.elim)
      refine ⟨W.length, Nat.lt_succ_self _, W, acc ++ ⟨#[c]⟩, k + 1, lineAt l c, _, _, t3', m3, h3, tk3, rfl, rfl, F3, N3, e1, e2, drop_next hd, str_cons _ _ _, rfl, ?_, ?_⟩
      · simp only [encQ, if_neg hc, List.length_append, List.length_cons, List.length_nil]; omega
      · rw [Str.length_append]; simp only [List.length_cons] at hlen; show acc.length + 1 + W.length < 100; omega

theorem loopB (Z : z.Ok) (S : Sep z it q) (X : (hd.heap_1 w.params).In g) (T : Top p loose mean mg mb g) {N : Nat} (hI : InvQ encB 10 w g L z it q te n r full kE lE s N s)
    (hR : ∀ h' tk' t' t1 t2 m', Fr g L h' m' → News g L h' (z.all w it q te n lE kE t2 t1) → R (.ok (.ret (.str full t'))) { s with heap := h', toks := tk' }) :
    codeAny (model Challenge.rw_re0023_01.row.prog w) ((Ar 430 130 fr).deeper (gtEnv L)) (.forLoop (.Name "ch" px) (.ref it) gtBare [] (gtEnv L)) R s := by
  refine codeAny_forLoop (InvQ encB 10 w g L z it q te n r full kE lE s) ?_ N hI
  rintro N s' ⟨W, acc, k, l, tl, ti, ta, m, h, tk, rfl, rfl, F, Nw, hm1, hm2, hd, rfl, rfl, rfl, hlen⟩
  cases W with
  | nil =>
    refine next_item_K (fr := gtEnv L :: fr) Z S F X T Nw hd rfl (Nat.le_of_ble_eq_true rfl) (Nat.le_of_ble_eq_true rfl) rfl fun h1 tk1 t1 t2 t3 F1 N1 => ?_
    refine wpAny_assign_Name (storeX_L F1 N1 fun h2 F2 N2 => ?_)
    refine wpAny_mono (turnB_end Z S X T F2 N2 hm1 hm2 fun tk' t' => ?_) (fun _ _ x => x) (fun _ _ x => x.elim)
    rw [str_nil]
    exact hR _ _ _ _ _ _ F2 N2
  | cons c W =>
    simp only [encB] at hd
    refine next_item_K (fr := gtEnv L :: fr) Z S F X T Nw hd rfl (Nat.le_of_ble_eq_true rfl) (Nat.le_of_ble_eq_true rfl) rfl fun h1 tk1 t1 t2 t3 F1 N1 => ?_
    refine wpAny_assign_Name (storeX_L F1 N1 fun h2 F2 N2 => ?_)
    refine wpAny_mono (turnB_esc Z S X T F2 N2 hm1 hm2 (by omega) (drop_next hd) fun h3 tk3 m3 t3' t4 t5 F3 N3 e1 e2 => ?_) (fun _ _ x => x) (fun _ _ x => x.elim)
    refine ⟨W.length, Nat.lt_succ_self _, W, acc ++ ⟨#[c]⟩, k + 1 + 1, lineAt (lineAt l 92) c, t5, t4, t3', m3, h3, tk3, rfl, rfl, F3, N3, e1, e2, drop_next (drop_next hd), str_cons _ _ _, ?_, ?_, ?_⟩
    · rw [line92]; rfl
    · simp only [encB, List.length_cons]; omega
    · rw [Str.length_append]; simp only [List.length_cons] at hlen; show acc.length + 1 + W.length < 100; omega
end
end Mine
end

section
open PySem PySem.W PyProof.Rows
theorem Mine.freshG4 : True ∧ True := by
  w_top off
  first
  | (walk1; fail)
  | exact ⟨True.intro, True.intro⟩
end

section -- G4
open PySem PySem.W PyProof.Rows
set_option maxRecDepth 100000
set_option maxHeartbeats 1000000
set_option linter.unusedVariables false
namespace Mine
theorem empty_str (W : Array Nat) : Str.ofString "" ++ (⟨W⟩ : Str) = ⟨W⟩ := Str.empty_append _
section
variable {w : World} {p : Program} {loose : List Str} {mean : ExcName → Option Value} {mg mb : Str → Option Value} {hB g : Heap} {s : Shared} {fr : List Env} {L : Addr} {m : Str → Option Value} {A : Around}
  {Q E : Value → Shared → Prop} {z : Lex} {l : Int} {tl ti t te ta tc : Tok} {n k c : Nat} {it q : Addr} {r : List Nat} {acc : Str}
theorem kw19 : True := by
  w_top off
  k_with "eval Name" => ((k_here; k_dflt (refine' nameX_L (by k_asm) (by assumption) ?_ (by rfl) (by rfl); k_whole)))
  exact True.intro
theorem kw20 : True := by
  w_top off
  k_with "call ref" => ((k_here; (with_reducible show wpAny _ _ (call (Value.ref 133) _) _ _ _); k_dflt (refine' read_item_K (by assumption) (by assumption) (by k_asm) (by k_asm) (by k_asm) (by k_asm) (by assumption) (by exact rfl) (by exact Nat.le_of_ble_eq_true rfl) (by exact Nat.le_of_ble_eq_true rfl) (by exact rfl) ?_; k_whole); intro _ _ _ _ _ _ _; (try k_sweep)))
  exact True.intro
theorem kw21 : True := by
  w_top off
  k_with "loadName" => ((k_here; k_dflt (refine' loadX_L (by k_asm) (by first | rfl | assumption) ?_ (by rfl) (by rfl); k_whole)))
  exact True.intro
theorem kw22 : True := by
  w_top off
  k_with "ite" => ((k_closed; k_dflt (first | refine ite_pos (by decide +kernel) ?_ | refine ite_neg (by decide +kernel) ?_)))
  exact True.intro

theorem turnO_quote {Q : Flow → Shared → Prop} {W : List Nat} (Z : z.Ok) (S : Sep z it q) (X : (hd.heap_1 w.params).In g) (T : Top p loose mean mg mb g)
    (F : Fr g L s.heap (fun y => if y = "ch" then some (.str ⟨#[34]⟩ tc) else m y)) (N : News g L s.heap (z.all w it q te n l k tl ti)) (hm1 : m "token" = some (.str "" ta)) (hm2 : m "self" = some (.ref z.mc)) (hm3 : m "fiter" = some (.ref it))
    (hd : z.x.cps.toList.drop k = encQ W ++ 34 :: r) (hW : W.length < 100)
    (h : ∀ h' tk' t' t1 t2 m', Fr g L h' m' → News g L h' (z.all w it q te n (W.foldl lineAt l) ((k + (encQ W).length + 1 : Nat) : Int) t2 t1) → Q (.ret (.str ⟨W.toArray⟩ t')) { s with heap := h', toks := tk' }) :
    wpAny (model Challenge.rw_re0023_01.row.prog w) ((Ar 430 130 fr).deeper (gtEnv L)) (execs gtOuter (gtEnv L)) Q (fun _ _ => False) s := by
  have hq : gtQuoted = gtQuoted := rfl
  conv at hq => rhs; whnf
  generalize hb : gtOuter = b
  generalize hs : gtS = sc
  replace hb := hb.symm
  replace hs := hs.symm
  conv at hb => rhs; whnf
  conv at hs => rhs; whnf
  subst hb hs
  try dsimp only
  k_steps
  rename News _ _ _ _ => NN
  rename Fr _ _ _ _ => FF
  refine wpAny_For (nameX_L FF hm3 ?_)
  refine iterSelf_K NN (.head _) ?_
  rw [← hq]
  refine loopQ Z S X T ⟨W, "", k, l, tl, ti, ta, _, _, _, rfl, rfl, FF, NN, hm1, hm2, hd, rfl, rfl, rfl, ?_⟩ fun h' tk' t' t1 t2 m' F' N' => ?_
  · show 0 + W.length < 100; omega
  · rw [line34] at N'
    rw [empty_str]
    exact h h' tk' t' t1 t2 m' F' N'

theorem turnO_bare {Q : Flow → Shared → Prop} {c1 : Nat} {W : List Nat} (Z : z.Ok) (S : Sep z it q) (X : (hd.heap_1 w.params).In g) (T : Top p loose mean mg mb g)
    (F : Fr g L s.heap (fun y => if y = "ch" then some (.str ⟨#[92]⟩ tc) else m y)) (N : News g L s.heap (z.all w it q te n l k tl ti)) (hm1 : m "token" = some (.str "" ta)) (hm2 : m "self" = some (.ref z.mc)) (hm3 : m "fiter" = some (.ref it))
    (hd : z.x.cps.toList.drop k = c1 :: (encB W ++ 10 :: r)) (hW : W.length < 90)
    (h : ∀ h' tk' t' t1 t2 m', Fr g L h' m' → News g L h' (z.all w it q te n (lineAt ((c1 :: W).foldl lineAt l) 10) ((k + 1 + (encB W).length + 1 : Nat) : Int) t2 t1) → Q (.ret (.str ⟨(c1 :: W).toArray⟩ t')) { s with heap := h', toks := tk' }) :
    wpAny (model Challenge.rw_re0023_01.row.prog w) ((Ar 430 130 fr).deeper (gtEnv L)) (execs gtOuter (gtEnv L)) Q (fun _ _ => False) s := by
  have hq : gtBare = gtBare := rfl
  conv at hq => rhs; whnf
  generalize hb : gtOuter = b
  generalize hs : gtS = sc
  replace hb := hb.symm
  replace hs := hs.symm
  conv at hb => rhs; whnf
  conv at hs => rhs; whnf
  subst hb hs
  have hacc : (Str.ofString "").length < 100 := by decide
  try dsimp only
  k_steps
  rename News _ _ _ _ => NN
  rename Fr _ _ _ _ => FF
  refine wpAny_For (nameX_L FF hm3 ?_)
  refine iterSelf_K NN (.head _) ?_
  rw [← hq]
  refine loopB Z S X T ⟨W, "" ++ ⟨#[c1]⟩, k + 1, lineAt l c1, _, _, _, _, _, _, rfl, rfl, FF, NN, rfl, hm2, drop_next hd, rfl, rfl, rfl, ?_⟩ fun h' tk' t' t1 t2 m' F' N' => ?_
  · show 1 + W.length < 100; omega
  · rw [← str_cons, empty_str]
    exact h h' tk' t' t1 t2 m' F' N'
end
theorem kw23 : True := by
  w_top off
  k_with_none
  exact True.intro
end Mine
end

section
open PySem PySem.W PyProof.Rows
theorem Mine.freshG5 : True ∧ True := by
  w_top off
  first
  | (walk1; fail)
  | exact ⟨True.intro, True.intro⟩
end

section -- G5
open PySem PySem.W PyProof.Rows
set_option maxRecDepth 100000
set_option maxHeartbeats 1000000
set_option linter.unusedVariables false
namespace Mine
section
variable {w : World} {p : Program} {loose : List Str} {mean : ExcName → Option Value} {mg mb : Str → Option Value} {hB g : Heap} {s : Shared} {fr : List Env} {L : Addr} {m : Str → Option Value} {A : Around}
  {E : Value → Shared → Prop} {z : Lex} {l : Int} {tl ti t te ta tc : Tok} {n k c : Nat} {it q : Addr} {r : List Nat} {acc : Str} {R : Result → Shared → Prop} {kE : Nat} {lE : Int} {px : Pos} {W : List Nat}

theorem next_end_K {Q : Option Value → Shared → Prop} (Z : z.Ok) (S : Sep z it q) (F : Fr g L s.heap m) (X : (hd.heap_1 w.params).In g) (T : Top p loose mean mg mb g) (N : News g L s.heap (z.all w it q te n l k tl ti)) (hk : z.x.cps.toList.drop k = []) (hkl : k ≤ z.x.length)
    (h1 : A.handled = none) (h2 : A.depth ≤ 450) (h3 : A.units + 1 ≤ 150) (h4 : A.frames = some fr)
    (h : ∀ h' tk' t1 t2, Fr g L h' m → News g L h' ((z.pb, listOf #[] n) :: z.objs w l k t2 t1) → Q none { s with heap := h', toks := tk' }) :
    wpAny (model Challenge.rw_re0023_01.row.prog w) A (pyNext (.ref it)) Q E s := by
  obtain ⟨bo, fd, hf, hb⟩ := fn133 X F.keep
  have e := sign_end hk hkl
  refine ciNext_end h1 (N.get (.head _)) (N.get (.tail _ (.head _))) hf hb (ar_code (A := A.in1) h1 h2 h3 h4 (read_char Z X T F.keep (own_of N fun x hx => .tail _ (.tail _ (.tail _ hx))) (Int.natCast_nonneg k) (by omega) fun h' tk' t1 t2 t3 M => ?_))
  unfold Lex.sign at M ⊢
  rw [e] at M ⊢
  rw [if_neg (by decide +kernel)] at M
  obtain ⟨F', N'⟩ := all_mod Z S F N M
  refine ⟨_, _, rfl, N'.get (.head _), N'.get (.tail _ (.head _)), F'.keep _ _ ?_, rfl, fun h'' hk'' => ?_⟩
  · obtain ⟨x1, x2, x3⟩ : ∃ o, g.get? 133 = some o ∧ True := ⟨_, X 133 _ (by with_unfolding_all rfl), trivial⟩
    have := F.keep _ _ x2
    rw [hf] at this
    cases this
    exact x2
  · have M2 : Mod h' h'' [(it, itObj (.ref q) (.str "" te) false)] → True := fun _ => trivial
    refine h h'' tk' t1 t2 ?_ ?_
    · obtain ⟨oL, a1, a2, hL, a3⟩ := F'.ns
      have hne : L ≠ it := fun x => (N' _ (.head _)).2.1 x.symm
      refine ⟨⟨oL, a1, a2, hk'' _ _ hne hL, a3⟩, fun b o eb => hk'' _ _ (fun x => ?_) (F'.keep _ _ eb), F'.above⟩
      have := (N' _ (.head _)).2.2
      rw [← x, eb] at this; cases this
    · intro x hx
      have hx' : x ∈ z.all w it q te n l k t2 t1 := .tail _ (.tail _ hx)
      refine ⟨hk'' _ _ ?_ (N' x hx').1, (N' x hx').2⟩
      simp only [Lex.objs, List.mem_cons, List.not_mem_nil, or_false] at hx
      rcases hx with e | e | e | e | e | e | e | e | e | e <;> subst e
      · exact Ne.symm S.ip
      · exact Ne.symm S.i1
      · exact Ne.symm S.i2
      · exact Ne.symm S.i3
      · exact Ne.symm S.i4
      · exact Ne.symm S.i5
      · exact Ne.symm S.i6
      · exact Ne.symm S.i7
      · exact Ne.symm S.i8
      · exact Ne.symm S.i9

/-- between two turns of the outer loop: line ends alone have been read -/
noncomputable def InvO (w : World) (g : Heap) (L : Addr) (z : Lex) (it q : Addr) (te : Tok) (n : Nat) (piece : List Nat) (k0 : Nat) (l0 : Int) (s : Shared) (N : Nat) (s' : Shared) : Prop :=
  ∃ (pre : List Nat) (k : Nat) (l : Int) (tl ti ta : Tok) (m : Str → Option Value) (h : Heap) (tk : Nat), N = pre.length ∧ s' = { s with heap := h, toks := tk } ∧ Fr g L h m ∧ News g L h (z.all w it q te n l k tl ti) ∧
    m "token" = some (.str "" ta) ∧ m "self" = some (.ref z.mc) ∧ m "fiter" = some (.ref it) ∧ (∀ c ∈ pre, c = 10) ∧ z.x.cps.toList.drop k = pre ++ piece ∧ k0 = k + pre.length ∧ l0 = pre.foldl lineAt l

theorem loopO_ws {c : Nat} {pre piece : List Nat} {k0 : Nat} {l0 : Int} {h : Heap} {tk : Nat} (Z : z.Ok) (S : Sep z it q) (X : (hd.heap_1 w.params).In g) (T : Top p loose mean mg mb g) (F : Fr g L h m) (Nw : News g L h (z.all w it q te n l k tl ti))
    (hm1 : m "token" = some (.str "" ta)) (hm2 : m "self" = some (.ref z.mc)) (hm3 : m "fiter" = some (.ref it)) (hc : ∀ x ∈ c :: pre, x = 10) (hd : z.x.cps.toList.drop k = (c :: pre) ++ piece) (hk0 : k0 = k + (c :: pre).length) (hl0 : l0 = (c :: pre).foldl lineAt l) {Q : Option Value → Shared → Prop}
    (hQ : ∀ v s₁, wpAny (model Challenge.rw_re0023_01.row.prog w) ((Ar 430 130 fr).deeper (gtEnv L)) (assign (.Name "ch" px) (gtEnv L) v) (fun _ s₂ => wpAny (model Challenge.rw_re0023_01.row.prog w) ((Ar 430 130 fr).deeper (gtEnv L)) (execs gtOuter (gtEnv L)) (fun f s₃ => match f with
          | .next | .cont => ∃ m, m < (c :: pre).length ∧ InvO w g L z it q te n piece k0 l0 s m s₃
          | .brk => False
          | .ret v => False) (fun _ _ => False) s₂) (fun _ _ => False) s₁ → Q (some v) s₁) :
    wpAny (model Challenge.rw_re0023_01.row.prog w) ((Ar 430 130 fr).deeper (gtEnv L)) (pyNext (.ref it)) Q E { s with heap := h, toks := tk } := by
  have c10 := hc c (.head _)
  subst c10
  refine next_item_K (fr := gtEnv L :: fr) Z S F X T Nw hd rfl (Nat.le_of_ble_eq_true rfl) (Nat.le_of_ble_eq_true rfl) rfl fun h1 tk1 t1 t2 t3 F1 N1 => hQ _ _ ?_
  refine wpAny_assign_Name (storeX_L F1 N1 fun h2 F2 N2 => ?_)
  refine turnO_ws Z S X T F2 N2 hm1 hm2 fun tk' => ?_
  refine ⟨pre.length, Nat.lt_succ_self _, pre, k + 1, lineAt l 10, _, _, _, _, _, _, rfl, rfl, F2, N2, hm1, hm2, hm3, fun x hx => hc x (.tail _ hx), drop_next hd, ?_, hl0⟩
  rw [hk0, List.length_cons]; omega
end
end Mine
end

section
open PySem PySem.W PyProof.Rows
theorem Mine.freshG6 : True ∧ True := by
  w_top off
  first
  | (walk1; fail)
  | exact ⟨True.intro, True.intro⟩
end

section -- G6
open PySem PySem.W PyProof.Rows
set_option maxRecDepth 100000
set_option maxHeartbeats 1000000
set_option linter.unusedVariables false
namespace Mine
section
variable {w : World} {p : Program} {loose : List Str} {mean : ExcName → Option Value} {mg mb : Str → Option Value} {hB g : Heap} {s : Shared} {fr : List Env} {L : Addr} {m : Str → Option Value} {A : Around}
  {E : Value → Shared → Prop} {z : Lex} {l : Int} {tl ti t te ta tc : Tok} {n k c : Nat} {it q : Addr} {r : List Nat} {acc : Str} {R : Result → Shared → Prop} {k0 : Nat} {l0 : Int} {px : Pos} {W : List Nat}

theorem outerQ (Z : z.Ok) (S : Sep z it q) (X : (hd.heap_1 w.params).In g) (T : Top p loose mean mg mb g) {N : Nat} (hI : InvO w g L z it q te n (34 :: (encQ W ++ 34 :: r)) k0 l0 s N s) (hW : W.length < 90)
    (hR : ∀ h' tk' t' t1 t2 m', Fr g L h' m' → News g L h' (z.all w it q te n (W.foldl lineAt l0) ((k0 + (encQ W).length + 2 : Nat) : Int) t2 t1) → R (.ok (.ret (.str ⟨W.toArray⟩ t'))) { s with heap := h', toks := tk' }) :
    codeAny (model Challenge.rw_re0023_01.row.prog w) ((Ar 430 130 fr).deeper (gtEnv L)) (.forLoop (.Name "ch" px) (.ref it) gtOuter [] (gtEnv L)) R s := by
  refine codeAny_forLoop (InvO w g L z it q te n (34 :: (encQ W ++ 34 :: r)) k0 l0 s) ?_ N hI
  rintro N s' ⟨pre, k, l, tl, ti, ta, m, h, tk, rfl, rfl, F, Nw, hm1, hm2, hm3, hp, hd, hk0, hl0⟩
  cases pre with
  | cons c pre =>
    refine loopO_ws (px := px) Z S X T F Nw hm1 hm2 hm3 hp hd hk0 hl0 fun v s₁ hv => ?_
    exact wpAny_mono hv (fun _ s₂ h₂ => wpAny_mono h₂ (fun f s₃ h₃ => by cases f <;> first | exact h₃ | exact h₃.elim) (fun _ _ x => x.elim)) (fun _ _ x => x.elim)
  | nil =>
    subst hl0
    have hk1 : k = k0 := by rw [hk0]; rfl
    subst hk1
    clear hk0
    refine next_item_K (fr := gtEnv L :: fr) Z S F X T Nw hd rfl (Nat.le_of_ble_eq_true rfl) (Nat.le_of_ble_eq_true rfl) rfl fun h1 tk1 t1 t2 t3 F1 N1 => ?_
    refine wpAny_assign_Name (storeX_L F1 N1 fun h2 F2 N2 => ?_)
    refine wpAny_mono (turnO_quote Z S X T F2 N2 hm1 hm2 hm3 (drop_next hd) (by omega) fun h' tk' t' t1 t2 m' F' N' => ?_) (fun _ _ x => x) (fun _ _ x => x.elim)
    rw [line34] at N'
    have e : k + 1 + (encQ W).length + 1 = k + (encQ W).length + 2 := by omega
    rw [e] at N'
    exact hR _ _ _ _ _ _ F' N'

theorem outerB {c1 : Nat} (Z : z.Ok) (S : Sep z it q) (X : (hd.heap_1 w.params).In g) (T : Top p loose mean mg mb g) {N : Nat} (hI : InvO w g L z it q te n (encB (c1 :: W) ++ 10 :: r) k0 l0 s N s) (hW : W.length < 90)
    (hR : ∀ h' tk' t' t1 t2 m', Fr g L h' m' → News g L h' (z.all w it q te n (lineAt ((c1 :: W).foldl lineAt l0) 10) ((k0 + (encB (c1 :: W)).length + 1 : Nat) : Int) t2 t1) → R (.ok (.ret (.str ⟨(c1 :: W).toArray⟩ t'))) { s with heap := h', toks := tk' }) :
    codeAny (model Challenge.rw_re0023_01.row.prog w) ((Ar 430 130 fr).deeper (gtEnv L)) (.forLoop (.Name "ch" px) (.ref it) gtOuter [] (gtEnv L)) R s := by
  refine codeAny_forLoop (InvO w g L z it q te n (encB (c1 :: W) ++ 10 :: r) k0 l0 s) ?_ N hI
  rintro N s' ⟨pre, k, l, tl, ti, ta, m, h, tk, rfl, rfl, F, Nw, hm1, hm2, hm3, hp, hd, hk0, hl0⟩
  cases pre with
  | cons c pre =>
    refine loopO_ws (px := px) Z S X T F Nw hm1 hm2 hm3 hp hd hk0 hl0 fun v s₁ hv => ?_
    exact wpAny_mono hv (fun _ s₂ h₂ => wpAny_mono h₂ (fun f s₃ h₃ => by cases f <;> first | exact h₃ | exact h₃.elim) (fun _ _ x => x.elim)) (fun _ _ x => x.elim)
  | nil =>
    subst hl0
    have hk1 : k = k0 := by rw [hk0]; rfl
    subst hk1
    clear hk0
    refine next_item_K (fr := gtEnv L :: fr) Z S F X T Nw hd rfl (Nat.le_of_ble_eq_true rfl) (Nat.le_of_ble_eq_true rfl) rfl fun h1 tk1 t1 t2 t3 F1 N1 => ?_
    refine wpAny_assign_Name (storeX_L F1 N1 fun h2 F2 N2 => ?_)
    refine wpAny_mono (turnO_bare Z S X T F2 N2 hm1 hm2 hm3 (drop_next hd) hW fun h' tk' t' t1 t2 m' F' N' => ?_) (fun _ _ x => x) (fun _ _ x => x.elim)
    rw [line92] at N'
    have e : k + 1 + 1 + (encB W).length + 1 = k + (encB (c1 :: W)).length + 1 := by simp only [encB, List.length_cons]; omega
    rw [e] at N'
    exact hR _ _ _ _ _ _ F' N'

theorem outerE (Z : z.Ok) (S : Sep z it q) (X : (hd.heap_1 w.params).In g) (T : Top p loose mean mg mb g) {N : Nat} (hI : InvO w g L z it q te n [] k0 l0 s N s) (hk0 : k0 = z.x.length)
    (hR : ∀ h' tk' ta t1 t2 m', Fr g L h' m' → News g L h' ((z.pb, listOf #[] n) :: z.objs w l0 k0 t2 t1) → m' "token" = some (.str "" ta) → R (.ok .next) { s with heap := h', toks := tk' }) :
    codeAny (model Challenge.rw_re0023_01.row.prog w) ((Ar 430 130 fr).deeper (gtEnv L)) (.forLoop (.Name "ch" px) (.ref it) gtOuter [] (gtEnv L)) R s := by
  refine codeAny_forLoop (InvO w g L z it q te n [] k0 l0 s) ?_ N hI
  rintro N s' ⟨pre, k, l, tl, ti, ta, m, h, tk, rfl, rfl, F, Nw, hm1, hm2, hm3, hp, hd, hk0', hl0⟩
  cases pre with
  | cons c pre =>
    refine loopO_ws (px := px) Z S X T F Nw hm1 hm2 hm3 hp hd hk0' hl0 fun v s₁ hv => ?_
    exact wpAny_mono hv (fun _ s₂ h₂ => wpAny_mono h₂ (fun f s₃ h₃ => by cases f <;> first | exact h₃ | exact h₃.elim) (fun _ _ x => x.elim)) (fun _ _ x => x.elim)
  | nil =>
    subst hl0
    have hk1 : k = k0 := by rw [hk0']; rfl
    subst hk1
    clear hk0'
    refine next_end_K (fr := gtEnv L :: fr) Z S F X T Nw hd (Nat.le_of_eq hk0) rfl (Nat.le_of_ble_eq_true rfl) (Nat.le_of_ble_eq_true rfl) rfl fun h1 tk1 t1 t2 F1 N1 => ?_
    exact wpAny_execs_nil (hR _ _ _ _ _ _ F1 N1 hm1)
end
end Mine
end

section
open PySem PySem.W PyProof.Rows
theorem Mine.freshG7 : True ∧ True := by
  w_top off
  first
  | (walk1; fail)
  | exact ⟨True.intro, True.intro⟩
end

section -- G7
open PySem PySem.W PyProof.Rows
set_option maxRecDepth 100000
set_option maxHeartbeats 1000000
set_option linter.unusedVariables false
namespace Mine
section
variable {w : World} {p : Program} {loose : List Str} {mean : ExcName → Option Value} {mg mb : Str → Option Value} {hB g : Heap} {s : Shared} {fr : List Env} {L : Addr} {m : Str → Option Value} {A : Around}
  {Q E : Value → Shared → Prop} {z : Lex} {l : Int} {tl ti t te ta tc : Tok} {n k c : Nat} {it q : Addr} {r : List Nat} {W pre : List Nat}
theorem kw24 : True := by
  w_top off
  k_with "my enter" => (k_dflt (refine' enterK (by k_asm) (by k_asm) (by k_asm) (by k_asm) (by k_is) (by k_is) (by decide) (by exact BindsTo.of_eq rfl) (by exact locs rfl) ?_ (by decide) (by exact rfl) (by exact rfl) (by exact rfl); k_whole))
  exact True.intro
local macro_rules | `(tactic| walk_at "call builtin:iter") => `(tactic| (k_here; k_dflt (refine' iter_K ?k1 ?k2 ?k3 ?_; (case k1 => k_asm); (case k2 => k_asm); (case k3 => k_mem); k_whole); intro it' h' F' N' l1; (try k_lt l1); (try k_sweep)))
theorem kw25 : True := by
  w_top off
  k_with "exec For Name Name cons nil" => ((k_here; k_dflt (refine wpAny_For ?_ (fun _ => rfl))))
  exact True.intro
local macro_rules | `(tactic| walk_at "pyIter ref") => `(tactic| k_extra "my pyIter ref")
theorem kw26 : True := by
  w_top off
  k_with "my pyIter ref" => ((k_here; k_dflt (refine' iterSelf_K (by k_asm) (by k_mem) ?_; k_whole)))
  exact True.intro

/-- what a reading call of get_token leaves -/
theorem all_out {h' g' : Heap} {L' : Addr} {m' : Str → Option Value} {l' k' : Int} {t1 t2 : Tok} (hO : Own hB s.heap ((z.pb, listOf #[] n) :: z.objs w l k tl ti)) (out : Out hB s.heap g' L' ((z.pb, listOf #[] n) :: z.objs w l k tl ti))
    (hi : ∀ a ∈ ((z.pb, listOf #[] n) :: z.objs w l k tl ti).map (·.1), @LT.lt Nat _ a q) (hq : @LT.lt Nat _ q it) (F : Fr g' L' h' m') (N : News g' L' h' (z.all w it q te n l' k' t2 t1)) :
    Mod s.heap h' [(z.aL, listOf #[.int k' t1] z.n), (z.dm, z.dict w (.int l' t2))] := by
  refine (out.more _ _ _ F N (fun a ha => .tail _ (.tail _ ha))).sub (all_cons (by k_mem) (all_cons (by k_mem) all_nil)) ?_
  refine all_cons (.inr (.inr (out.fresh N (.head _) fun hm => absurd (hi _ hm) (by show ¬ (@LT.lt Nat _ it q); omega)))) ?_
  refine all_cons (.inr (.inr (out.fresh N (.tail _ (.head _)) fun hm => absurd (hi _ hm) (Nat.lt_irrefl _)))) ?_
  refine all_cons (.inr (.inl (hO (z.pb, listOf #[] n) (by k_mem)).1)) ?_
  refine all_cons (.inl (.head _)) ?_
  refine all_cons (.inl (.tail _ (.head _))) ?_
  repeat refine all_cons (.inr (.inl (hO _ (by k_mem)).1)) ?_
  exact all_nil

theorem sep_of (h1 : @Ne Nat z.pb z.aL) (h2 : @Ne Nat z.pb z.dm) (hi : ∀ a ∈ ((z.pb, listOf #[] n) :: z.objs w l k tl ti).map (·.1), @LT.lt Nat _ a q) (hq : @LT.lt Nat _ q it) : Sep z it q :=
  ⟨h1, h2, Nat.ne_of_gt (hi _ (.tail _ (.head _))), Nat.ne_of_gt (hi _ (.tail _ (.tail _ (.head _)))), Nat.ne_of_gt (Nat.lt_trans (hi _ (.tail _ (.head _))) hq), Nat.ne_of_gt (Nat.lt_trans (hi _ (.tail _ (.tail _ (.head _)))) hq), Nat.ne_of_gt (Nat.lt_trans (hi _ (.tail _ (.tail _ (.tail _ (.head _))))) hq), Nat.ne_of_gt (Nat.lt_trans (hi _ (.tail _ (.tail _ (.tail _ (.tail _ (.head _)))))) hq), Nat.ne_of_gt (Nat.lt_trans (hi _ (.tail _ (.tail _ (.tail _ (.tail _ (.tail _ (.head _))))))) hq), Nat.ne_of_gt (Nat.lt_trans (hi _ (.tail _ (.tail _ (.tail _ (.tail _ (.tail _ (.tail _ (.head _)))))))) hq), Nat.ne_of_gt (Nat.lt_trans (hi _ (.tail _ (.tail _ (.tail _ (.tail _ (.tail _ (.tail _ (.tail _ (.head _))))))))) hq), Nat.ne_of_gt (Nat.lt_trans (hi _ (.tail _ (.tail _ (.tail _ (.tail _ (.tail _ (.tail _ (.tail _ (.tail _ (.head _)))))))))) hq), Nat.ne_of_gt (Nat.lt_trans (hi _ (.tail _ (.tail _ (.tail _ (.tail _ (.tail _ (.tail _ (.tail _ (.tail _ (.tail _ (.head _))))))))))) hq), Nat.ne_of_gt (Nat.lt_trans (hi _ (.head _)) hq), Nat.ne_of_gt hq⟩
theorem get_quoted (Z : z.Ok) (hp1 : @Ne Nat z.pb z.aL) (hp2 : @Ne Nat z.pb z.dm) (X : (hd.heap_1 w.params).In hB) (T : Top p loose mean mg mb hB) (hE : Ext hB s.heap) (hO : Own hB s.heap ((z.pb, listOf #[] n) :: z.objs w l k tl ti))
    (hpre : ∀ c ∈ pre, c = 10) (hd : z.x.cps.toList.drop k = pre ++ (34 :: (encQ W ++ 34 :: r))) (hW : W.length < 90)
    (hret : ∀ h' tk' t1 t2 t3, Mod s.heap h' [(z.aL, listOf #[.int ((k + pre.length + (encQ W).length + 2 : Nat) : Int) t1] z.n), (z.dm, z.dict w (.int (W.foldl lineAt (pre.foldl lineAt l)) t2))] → Q (.str ⟨W.toArray⟩ t3) { s with heap := h', toks := tk' }) :
    wpAny (model Challenge.rw_re0023_01.row.prog w) (Ar 430 130 fr) (call (.ref 140) [.ref z.mc]) Q E s := by
  refine wpAny_call ?_
  walk_at "my enter"
  intro g' L' h' tk out F' N' X' T' hlt
  change Fr _ _ _ (fun y => List.lookup y [("self", Value.ref z.mc)]) at F'
  k_lt hlt
  try dsimp only
  k_steps
  rename News _ _ _ _ => NN
  rename Fr _ _ _ _ => FF
  rename_i q' _ l1 it' _ l2 _
  have ho : gtOuter = gtOuter := rfl
  conv at ho => rhs; whnf
  rw [← ho]
  have hi : ∀ a ∈ ((z.pb, listOf #[] n) :: z.objs w l k tl ti).map (·.1), @LT.lt Nat _ a q' := by
    repeat refine all_cons (by dsimp only; omega) ?_
    exact all_nil
  have S : Sep z it' q' := sep_of hp1 hp2 hi (by omega)
  refine outerQ Z S X' T' ⟨pre, k, l, _, _, _, _, _, _, rfl, rfl, FF, NN, rfl, rfl, rfl, hpre, hd, rfl, rfl⟩ hW fun h' tk' t' t1 t2 m' F' N' => ?_
  exact hret _ _ _ _ _ (all_out hO out hi (by omega) F' N')
theorem get_bare {c1 : Nat} (Z : z.Ok) (hp1 : @Ne Nat z.pb z.aL) (hp2 : @Ne Nat z.pb z.dm) (X : (hd.heap_1 w.params).In hB) (T : Top p loose mean mg mb hB) (hE : Ext hB s.heap) (hO : Own hB s.heap ((z.pb, listOf #[] n) :: z.objs w l k tl ti))
    (hpre : ∀ c ∈ pre, c = 10) (hd : z.x.cps.toList.drop k = pre ++ (encB (c1 :: W) ++ 10 :: r)) (hW : W.length < 90)
    (hret : ∀ h' tk' t1 t2 t3, Mod s.heap h' [(z.aL, listOf #[.int ((k + pre.length + (encB (c1 :: W)).length + 1 : Nat) : Int) t1] z.n), (z.dm, z.dict w (.int (lineAt ((c1 :: W).foldl lineAt (pre.foldl lineAt l)) 10) t2))] → Q (.str ⟨(c1 :: W).toArray⟩ t3) { s with heap := h', toks := tk' }) :
    wpAny (model Challenge.rw_re0023_01.row.prog w) (Ar 430 130 fr) (call (.ref 140) [.ref z.mc]) Q E s := by
  refine wpAny_call ?_
  walk_at "my enter"
  intro g' L' h' tk out F' N' X' T' hlt
  change Fr _ _ _ (fun y => List.lookup y [("self", Value.ref z.mc)]) at F'
  k_lt hlt
  try dsimp only
  k_steps
  rename News _ _ _ _ => NN
  rename Fr _ _ _ _ => FF
  rename_i q' _ l1 it' _ l2 _
  have ho : gtOuter = gtOuter := rfl
  conv at ho => rhs; whnf
  rw [← ho]
  have hi : ∀ a ∈ ((z.pb, listOf #[] n) :: z.objs w l k tl ti).map (·.1), @LT.lt Nat _ a q' := by
    repeat refine all_cons (by dsimp only; omega) ?_
    exact all_nil
  have S : Sep z it' q' := sep_of hp1 hp2 hi (by omega)
  refine outerB Z S X' T' ⟨pre, k, l, _, _, _, _, _, _, rfl, rfl, FF, NN, rfl, rfl, rfl, hpre, hd, rfl, rfl⟩ hW fun h' tk' t' t1 t2 m' F' N' => ?_
  exact hret _ _ _ _ _ (all_out hO out hi (by omega) F' N')
theorem get_end (Z : z.Ok) (hp1 : @Ne Nat z.pb z.aL) (hp2 : @Ne Nat z.pb z.dm) (X : (hd.heap_1 w.params).In hB) (T : Top p loose mean mg mb hB) (hE : Ext hB s.heap) (hO : Own hB s.heap ((z.pb, listOf #[] n) :: z.objs w l k tl ti))
    (hpre : ∀ c ∈ pre, c = 10) (hd : z.x.cps.toList.drop k = pre ++ []) (hk : k + pre.length = z.x.length)
    (hret : ∀ h' tk' t1 t2 t3, Mod s.heap h' [(z.aL, listOf #[.int ((k + pre.length : Nat) : Int) t1] z.n), (z.dm, z.dict w (.int (pre.foldl lineAt l) t2))] → Q (.str "" t3) { s with heap := h', toks := tk' }) :
    wpAny (model Challenge.rw_re0023_01.row.prog w) (Ar 430 130 fr) (call (.ref 140) [.ref z.mc]) Q E s := by
  refine wpAny_call ?_
  walk_at "my enter"
  intro g' L' h' tk out F' N' X' T' hlt
  change Fr _ _ _ (fun y => List.lookup y [("self", Value.ref z.mc)]) at F'
  k_lt hlt
  try dsimp only
  k_steps
  rename News _ _ _ _ => NN
  rename Fr _ _ _ _ => FF
  rename_i q' _ l1 it' _ l2 _
  have ho : gtOuter = gtOuter := rfl
  conv at ho => rhs; whnf
  rw [← ho]
  have hi : ∀ a ∈ ((z.pb, listOf #[] n) :: z.objs w l k tl ti).map (·.1), @LT.lt Nat _ a q' := by
    repeat refine all_cons (by dsimp only; omega) ?_
    exact all_nil
  have S : Sep z it' q' := sep_of hp1 hp2 hi (by omega)
  refine outerE Z S X' T' ⟨pre, k, l, _, _, _, _, _, _, rfl, rfl, FF, NN, rfl, rfl, rfl, hpre, hd, rfl, rfl⟩ hk fun h' tk' ta t1 t2 m' F' N' hm => ?_
  refine wpAny_execs_cons (wpAny_Return_some (nameX_L F' hm ?_))
  refine hret _ _ t1 t2 _ ?_
  refine (out.more _ _ _ F' N' (fun a ha => ha)).sub (all_cons (by k_mem) (all_cons (by k_mem) all_nil)) ?_
  refine all_cons (.inr (.inl (hO (z.pb, listOf #[] n) (by k_mem)).1)) ?_
  refine all_cons (.inl (.head _)) ?_
  refine all_cons (.inl (.tail _ (.head _))) ?_
  repeat refine all_cons (.inr (.inl (hO _ (by k_mem)).1)) ?_
  exact all_nil

end
theorem kw27 : True := by
  w_top off
  k_with_none
  exact True.intro
end Mine
end

section
open PySem PySem.W PyProof.Rows
theorem Mine.freshP1 : True ∧ True := by
  w_top off
  first
  | (walk1; fail)
  | exact ⟨True.intro, True.intro⟩
end

section -- P1
open PySem PySem.W PyProof.Rows
set_option maxRecDepth 100000
set_option maxHeartbeats 1000000
set_option linter.unusedVariables false
namespace Mine
section
variable {w : World} {p : Program} {loose : List Str} {mean : ExcName → Option Value} {mg mb : Str → Option Value} {hB g : Heap} {s : Shared} {fr : List Env} {L : Addr} {m : Str → Option Value} {A : Around}
  {Q E : Value → Shared → Prop} {z : Lex} {lv v : Value} {n : Nat} {its : List Value}
theorem kw28 : True := by
  w_top off
  k_with "my enter" => (k_dflt (refine' enterK (by k_asm) (by k_asm) (by k_asm) (by k_asm) (by k_is) (by k_is) (by decide) (by exact BindsTo.of_eq rfl) (by exact locs rfl) ?_ (by decide) (by exact rfl) (by exact rfl) (by exact rfl); k_whole))
  exact True.intro

theorem push_tok (X : (hd.heap_1 w.params).In hB) (T : Top p loose mean mg mb hB) (hE : Ext hB s.heap) (hO : Own hB s.heap [(z.pb, listOf its.toArray n), (z.dm, z.dict w lv), (z.mc, instObj 150 z.dm)])
    (h1 : @Ne Nat z.dm z.pb) (h2 : @Ne Nat z.mc z.pb) (hl : its.length < 100)
    (hret : ∀ h' tk', Mod s.heap h' [(z.pb, listOf (its ++ [v]).toArray (n + 1))] → Q .none { s with heap := h', toks := tk' }) :
    wpAny (model Challenge.rw_re0023_01.row.prog w) (Ar 430 130 fr) (call (.ref 147) [.ref z.mc, v]) Q E s := by
  refine wpAny_call ?_
  walk_at "my enter"
  intro g' L' h' tk out F' N' X' T' hlt
  change Fr _ _ _ (fun y => List.lookup y [("token", v), ("self", Value.ref z.mc)]) at F'
  k_lt hlt
  try dsimp only
  k_steps
  rename News _ _ _ _ => NN
  rename Fr _ _ _ _ => FF
  rw [List.push_toArray] at NN
  exact hret _ _ ((out.same _ _ _ FF NN rfl).drop (l' := [_]) (fun q hq => (hO q (.tail _ hq)).1))

theorem pop_tok (X : (hd.heap_1 w.params).In hB) (T : Top p loose mean mg mb hB) (hE : Ext hB s.heap) (hO : Own hB s.heap [(z.pb, listOf (v :: its).toArray n), (z.dm, z.dict w lv), (z.mc, instObj 150 z.dm)])
    (h1 : @Ne Nat z.dm z.pb) (h2 : @Ne Nat z.mc z.pb) (hl : its.length < 100)
    (hret : ∀ h' tk', Mod s.heap h' [(z.pb, listOf its.toArray (n + 1))] → Q v { s with heap := h', toks := tk' }) :
    wpAny (model Challenge.rw_re0023_01.row.prog w) (Ar 430 130 fr) (call (.ref 140) [.ref z.mc]) Q E s := by
  refine wpAny_call ?_
  walk_at "my enter"
  intro g' L' h' tk out F' N' X' T' hlt
  change Fr _ _ _ (fun y => List.lookup y [("self", Value.ref z.mc)]) at F'
  k_lt hlt
  try dsimp only
  k_steps
  rename News _ _ _ _ => NN
  rename Fr _ _ _ _ => FF
  refine kl_popAt FF NN (k := 0) (p := []) (y := v) (q := its) rfl ?_ rfl (by k_upd) ?_ fun h1 F1 N1 => ?_
  · unfold seqIndex?
    have e : (v :: its).toArray.size = its.length + 1 := by simp
    rw [e]
    simp
  · show (v :: its).length ≤ sizeLine
    rw [sizeLine_eq, List.length_cons]; omega
  · exact hret _ _ ((out.same _ _ _ F1 N1 rfl).drop (l' := [_]) (fun q hq => (hO q (.tail _ hq)).1))
end
theorem kw29 : True := by
  w_top off
  k_with_none
  exact True.intro
end Mine
end

section
open PySem PySem.W PyProof.Rows
theorem Mine.freshA1 : True ∧ True := by
  w_top off
  first
  | (walk1; fail)
  | exact ⟨True.intro, True.intro⟩
end

section -- A1
open PySem PySem.W PyProof.Rows PySem.Calls
set_option maxRecDepth 100000
set_option maxHeartbeats 1000000
set_option linter.unusedVariables false
namespace Mine
open Builtin Builtin.ObjectAttr
noncomputable abbrev pileObj (its : List Value) (n : Nat) (dp : Addr) : Obj := ⟨.ref 101, some dp, .seq its.toArray n, #[]⟩
section
variable {prog : Program} {w : World} {A : Around} {E : Value → Shared → Prop} {s : Shared} {h₀ h : Heap} {L x dp : Addr} {m : Str → Option Value} {news news' : List (Addr × Obj)} {its : List Value} {n : Nat} {od : Obj} {name : Str} {tk : Tok} {v : Value}
theorem inst_pile (N : News h₀ L h news) (h1 : (x, pileObj its n dp) ∈ news) (h2 : (dp, od) ∈ news) : InstAt h x (pileObj its n dp) 101 (some od) := ⟨(N _ h1).1, rfl, rfl, (N _ h2).1⟩
theorem refuse_pile (self : Value) : refuseLoop self "__setattr__" [.ref 101, .type "list", .type "object"] = pure () := by
  rw [refuseLoop_ref]
  kernel_rfl
theorem mro_pile (X : (hd.heap_1 w.params).In h) : Looks (model prog w) h (mroOf (.ref 101)) [.ref 101, .type "list", .type "object"] := by
  obtain ⟨cd, hc⟩ : ∃ cd, clsIn (hd.heap_1 w.params) 101 = some cd ∧ cd.mro = [.ref 101, .type "list", .type "object"] := ⟨_, by k_is, rfl⟩
  exact hc.2 ▸ (looks_clsIn X hc.1).andThen .now
theorem osa_pile {ox : Obj} {R : Result → Shared → Prop} (X : (hd.heap_1 w.params).In s.heap) (I : InstAt s.heap x ox 101 (some od)) (ha : findIn (hd.heap_1 w.params) (.ref 101) name = some none)
    (h : wpAny (model prog w) A.in1 (storeInOwnDict (.ref x) (.ref 101) (.str name tk) name v false)
      (fun fin s' => match fin with | .done f => R (.ok f) s' | .again c' => c'.quiet = true ∧ codeAny (model prog w) A c' R s') (fun e s' => R (.error e) s') s) :
    codeAny (model prog w) A (.call (.builtin "object.__setattr__") ⟨[.ref x, .str name tk, v], []⟩) R s := by
  have SF := PySem.F.store_object
  have sub : Looks (model prog w) s.heap (isInstance (.ref x) (.type "object")) true := I.type.andThen (looks_mroIn X (by k_is))
  refine codeAny_call_builtin SF.slot.plain SF.entry (@check_slot (model prog w) _ _ s "object.__setattr__" "object" "__setattr__" (.ref x) [.str name tk, v] [] _ SF.kind SF.split sub (SF.args (.ref x) (.str name tk) v) ?_)
  rw [osa_eq, refuse_eq]
  refine wpAny_bind (wpAny_bind (I.type.here (wpAny_bind ((mro_pile X).here ?_))))
  rw [refuse_pile]
  exact wpAny_pure (wpAny_bind (I.type.here (wpAny_bind ((looks_findIn X ha).here (wpAny_bind (wpAny_pure h))))))
theorem set_pile {Q : Unit → Shared → Prop} {es es' : List DictEntry} {k k' : Nat} (F : Fr h₀ L s.heap m) (X₀ : (hd.heap_1 w.params).In h₀) (N : News h₀ L s.heap news) (h1 : (x, pileObj its n dp) ∈ news) (h2 : (dp, dictOf es k) ∈ news)
    (ha : findIn (hd.heap_1 w.params) (.ref 101) name = some none) (hl : (getL name es).isSome = true)
    (e : (putL name (PyData.keyHash w.params name) (.str name (s.toks + 1)) v es, putN name es k) = (es', k')) (U : Upd dp (dictOf es k) (dictOf es' k') news news') (hz : es'.length ≤ 1000)
    (h : ∀ h', Fr h₀ L h' m → News h₀ L h' news' → Q () { s with heap := h', toks := s.toks + 2 }) : wpAny (model prog w) A (setAttr (.ref x) name v) Q E s := by
  obtain ⟨pre, post, rfl, rfl, a, b⟩ := U.split
  obtain ⟨e1, e2⟩ := Prod.mk.inj e
  have X := X₀.keeps F.keep
  have I := inst_pile N h1 h2
  refine set_plain X I (by k_is) (osa_pile (s := { s with toks := s.toks + 1 }) X I ha ?_)
  have hput : Obj.putName name (PyData.keyHash w.params name) (.str name (s.toks + 1)) v (dictOf es k) = dictOf es' k' := by rw [putName_dict, e1, e2]
  obtain ⟨U1, U2⟩ := news_upd (f := Obj.putName name (PyData.keyHash w.params name) (.str name (s.toks + 1)) v) F N a b hput rfl
  have D := (N (dp, dictOf es k) h2).1
  have D' := (U2 (dp, dictOf es' k') (by simp)).1
  obtain ⟨cd, hc, hd'⟩ : ∃ cd, clsIn (hd.heap_1 w.params) 101 = some cd ∧ cd.hasDict = true := ⟨_, by k_is, rfl⟩
  refine wpAny_bind (wpAny_pure (wpAny_bind (wpAny_bind (wpAny_loadPart (N _ h1).1 (wpAny_bind (looks_clsIn X hc _ _ _ _ (fun _ _ e => e) ?_))))))
  rw [hd']
  refine wpAny_pure (a := some dp) (wpAny_bind (wpAny_pure (wpAny_bind ?_)))
  unfold nsSet
  refine wpAny_bind (wpAny_bind (wpAny_askSetting (wpAny_pure (wpAny_bind (wpAny_mkText (wpAny_bind (wpAny_loadPart D ?_)))))))
  have c : aRefKeyMayBeTheName name es.toArray = false := by
    rw [aRefKeyMayBeTheName_at, ← Array.any_toList, ← Array.any_toList]
    unfold getL at hl
    split at hl
    · rename_i en he
      show (!es.any _ && es.any _) = false
      rw [List.any_eq_true.mpr ⟨en, List.mem_of_find?_eq_some he, List.find?_some he⟩]; rfl
    · split at hl
      · cases hl
      · rename_i z; rw [Bool.not_eq_true] at z; show (!es.any _ && es.any _) = false; rw [z, Bool.and_false]
  dsimp only
  rw [c]
  refine wpAny_updatePart D ?_
  refine wpAny_bind (wpAny_lookBehind D' (pastItsLine_dict (by rw [List.size_toArray, sizeLine_eq]; omega)) ?_)
  exact wpAny_pure (h _ U1 U2)

/-- a built-in method of list, met on the pile -/
theorem meth_pile {id : String} {pl : Sem Bool} {Q : Value × List Value → Shared → Prop} (X : (hd.heap_1 w.params).In s.heap) (I : InstAt s.heap x (pileObj its n dp) 101 (some od))
    (hf : findIn (hd.heap_1 w.params) (.ref 101) name = some (some (.builtin id))) (ht : typeOf (.builtin id) = pure (.type "method_descriptor")) (hs : shadowIn (some od) name = some false) (h : Q (.builtin id, [.ref x]) s) :
    wpAny (model prog w) A (getMethod (.ref x) name pl) Q E s := by
  unfold getMethod specialOf
  refine wpAny_bind (wpAny_bind (I.type.here ((looks_findIn X (t := .ref 101) (name := "__getattribute__") (by k_is)).here ?_)))
  refine wpAny_ite_false (by decide +kernel) ?_
  refine wpAny_bind (wpAny_bind (I.type.here ((looks_findIn X (t := .ref 101) (name := "__getattr__") (by k_is)).here ?_)))
  refine wpAny_bind (wpAny_bind (I.type.here ((looks_findIn X hf).here (wpAny_bind (wpAny_of_eq ht ?_)))))
  rw [if_neg (by decide +kernel)]
  refine wpAny_bind (wpAny_loadPart I.at_ ?_)
  obtain ⟨r, a, b⟩ := Option.map_eq_some_iff.mp hs
  refine wpAny_bind (wpAny_bind (wpAny_loadPart I.dict ?_))
  rw [nsLook_of a]
  refine wpAny_pure ?_
  rw [b]
  exact wpAny_bind (wpAny_rule (wpAny_pure h))
/-- a method of the pile's own class -/
theorem meth_pile_fn {f : Addr} {pl : Sem Bool} {Q : Value × List Value → Shared → Prop} (X : (hd.heap_1 w.params).In s.heap) (I : InstAt s.heap x (pileObj its n dp) 101 (some od))
    (hf : findIn (hd.heap_1 w.params) (.ref 101) name = some (some (.ref f))) (ht : typeIn (hd.heap_1 w.params) (.ref f) = some (.type "function")) (hs : shadowIn (some od) name = some false) (h : Q (.ref f, [.ref x]) s) :
    wpAny (model prog w) A (getMethod (.ref x) name pl) Q E s := by
  unfold getMethod specialOf
  refine wpAny_bind (wpAny_bind (I.type.here ((looks_findIn X (t := .ref 101) (name := "__getattribute__") (by k_is)).here ?_)))
  refine wpAny_ite_false (by decide +kernel) ?_
  refine wpAny_bind (wpAny_bind (I.type.here ((looks_findIn X (t := .ref 101) (name := "__getattr__") (by k_is)).here ?_)))
  refine wpAny_bind (wpAny_bind (I.type.here ((looks_findIn X hf).here (wpAny_bind ((looks_typeIn X ht).here ?_)))))
  rw [if_neg (by decide +kernel)]
  refine wpAny_bind (wpAny_loadPart I.at_ ?_)
  obtain ⟨r, a, b⟩ := Option.map_eq_some_iff.mp hs
  refine wpAny_bind (wpAny_bind (wpAny_loadPart I.dict ?_))
  rw [nsLook_of a]
  refine wpAny_pure ?_
  rw [b]
  exact wpAny_bind (wpAny_rule (wpAny_pure h))
theorem sub_pile {ox : Obj} {od : Option Obj} (X : (hd.heap_1 w.params).In s.heap) (I : InstAt s.heap x ox 101 od) : Looks (model prog w) s.heap (isInstance (.ref x) (.type "list")) true := I.type.andThen (looks_mroIn X (by k_is))
end
end Mine
end

section
open PySem PySem.W PyProof.Rows
theorem Mine.freshA2 : True ∧ True := by
  w_top off
  first
  | (walk1; fail)
  | exact ⟨True.intro, True.intro⟩
end

section -- A2
open PySem PySem.W PyProof.Rows PySem.Calls
set_option maxRecDepth 100000
set_option maxHeartbeats 1000000
set_option linter.unusedVariables false
namespace Mine
section
variable {prog : Program} {w : World} {A : Around} {E : Value → Shared → Prop} {s : Shared} {h₀ h : Heap} {L x dp : Addr} {m : Str → Option Value} {news news' : List (Addr × Obj)} {its : List Value} {n : Nat} {od : Obj} {name : Str} {tk : Tok} {v : Value}
theorem check_meth {M : Model} {Q : Unit → Shared → Prop} {i owner nm : String} {self : Value} {rest : List Value} {kw : List (Str × Value)}
    (hk : builtinKind i = some .method) (hs : splitId i = some (owner, nm)) (hi : Looks M s.heap (isInstance self (.type owner)) true) (ha : argsOk i ⟨self :: rest, kw⟩) (q : Q () s) :
    wpAny M A (checkBuiltinCall i ⟨self :: rest, kw⟩) Q E s := by
  simp only [checkBuiltinCall, hk, hs]
  refine wpAny_bind (hi.here ?_)
  simp only [Bool.not_true, Bool.false_eq_true, if_false]
  cases hsig : Manifest.signature? i with
  | none => exact wpAny_pure q
  | some sig =>
    simp only [argsOk, hsig] at ha
    show wpAny M A (Bind.checkArgs i sig ⟨self :: rest, kw⟩) Q E s
    rw [show Bind.checkArgs i sig ⟨self :: rest, kw⟩ = pure () from ha]; exact wpAny_pure q
theorem mapSeq_pile (f : Array Value → Array Value) {its' : List Value} {n' : Nat} (he : f its.toArray = its'.toArray) (hn : (if (f its.toArray).size == its.toArray.size then n else n + 1) = n') : Obj.mapSeq f (pileObj its n dp) = pileObj its' n' dp := by
  show (⟨.ref 101, some dp, .seq (f its.toArray) (if (f its.toArray).size == its.toArray.size then n else n + 1), #[]⟩ : Obj) = _
  rw [hn, he]
theorem append_pile {Q : Value → Shared → Prop} (F : Fr h₀ L s.heap m) (X₀ : (hd.heap_1 w.params).In h₀) (N : News h₀ L s.heap news) (h1 : (x, pileObj its n dp) ∈ news) (h2 : (dp, od) ∈ news)
    (U : Upd x (pileObj its n dp) (pileObj (its ++ [v]) (n + 1) dp) news news') (hz : its.length < 1000)
    (h : ∀ h', Fr h₀ L h' m → News h₀ L h' news' → Q .none { s with heap := h' }) : wpAny (model prog w) A (call (.builtin "list.append") [.ref x, v]) Q E s := by
  obtain ⟨pre, post, rfl, rfl, a, b⟩ := U.split
  have X := X₀.keeps F.keep
  have I := inst_pile N h1 h2
  obtain ⟨U1, U2⟩ := news_upd (f := Obj.mapSeq fun xs => xs.push v) F N a b (mapSeq_pile (its' := its ++ [v]) (n' := n + 1) _ (by simp) (by simp)) rfl
  refine wpAny_call (codeAny_call_builtin PySem.F.slot_list_append.plain PySem.F.entry_list_append (check_meth (nm := "append") (by decide +kernel) (by decide +kernel) (sub_pile X I) (PySem.F.args_list_append_2 _ _) ?_))
  have hl := (N _ h1).1
  obtain ⟨hp, g, d, tk, os⟩ := s
  have hz1 : its.toArray.size ≤ sizeLine := by rw [List.size_toArray, sizeLine_eq]; omega
  have hz2 : (its.toArray.push v).size ≤ sizeLine + 1 := by rw [Array.size_push]; omega
  unfold Builtin.«list.append»
  wp_walk using (wpAny_updateSeq hl rfl (hz := hz1) (_hz' := hz2))
  exact h _ U1 U2
end
end Mine
end

section
open PySem PySem.W PyProof.Rows
theorem Mine.freshA3 : True ∧ True := by
  w_top off
  first
  | (walk1; fail)
  | exact ⟨True.intro, True.intro⟩
end

section -- A3
open PySem PySem.W PyProof.Rows PySem.Calls
set_option maxRecDepth 100000
set_option maxHeartbeats 1000000
set_option linter.unusedVariables false
namespace Mine
section
variable {w : World} {p : Program} {loose : List Str} {mean : ExcName → Option Value} {mg mb : Str → Option Value} {hB : Heap} {s : Shared} {l : List (Addr × Obj)} {d u : Nat} {fr : List Env} {K : Frag} {prog : Program}
  {R : Result → Shared → Prop} {name qual : Str} {params : Arguments} {body : List Stmt} {scope : Scope} {cl : List (Str × Addr)} {dV kV doc pm cdv ct : Value} {an : Option Addr} {fo : Obj} {f : Addr} {args : Args} {binds : List (Str × Value)}
theorem enterS {oc : Value} {od : Option Addr} {osl : Array (Option Value)} (X : K.In hB) (T : Top p loose mean mg mb hB) (hE : Ext hB s.heap) (hO : Own hB s.heap l)
    (ho : K.lookup f = some ⟨oc, od, .func (fnX name qual params body scope cl dV kV doc pm an cdv ct), osl⟩) (hcd : codeIn K cdv qual = true) (hroom : d < recursionLimit)
    (hbind : BindsTo s (fnX name qual params body scope cl dV kV doc pm an cdv ct) args binds) (hloc : ∀ y ∈ binds, scope.names.lookup y.1 = some .local)
    (h : ∀ g L' h₁ tk, Out hB s.heap g L' l →
      Fr g L' h₁ (fun y => binds.reverse.lookup y) → News g L' h₁ l → K.In g → Top p loose mean mg mb g → (∀ p ∈ l, p.1 < L') →
      PySem.wpAt (model prog w) ((Ar d u fr).deeper (envX qual scope L' f cdv cl)) (.func body (envX qual scope L' f cdv cl)) (execs body (envX qual scope L' f cdv cl))
        (fun fl s' => R (.ok (.ret (match fl with | .ret v => v | _ => .none))) s')
        (fun _ _ => False)
        { s with heap := h₁, toks := tk })
    (hcell : ∀ x ∈ scope.names, x.2 ≠ .cell) (hco : scope.isCoroutine = false) (hgen : scope.isGenerator = false) (hk : scope.kind = .function) :
    codeAny (model prog w) (Ar d u fr) (.call (.ref f) args) R s := by
  have nm : ∀ b o, hB.get? b = some o → b ∉ l.map (·.1) := fun b o e q => by
    obtain ⟨p, hp, rfl⟩ := List.mem_map.mp q
    rw [(hO p hp).2] at e; cases e
  have st : ∀ b o, hB.get? b = some o → (hideAll s.heap (l.map (·.1))).get? b = some o := fun b o e => hideAll_get _ (hE b o e) (nm b o e)
  refine ks_codeAny_call_defAt (fd := fnX name qual params body scope cl dV kV doc pm an cdv ct) (body := body) (binds := binds) hroom (hE _ _ (X _ _ ho)) rfl (T.nolimit.keeps hE) (codeRec_of (X.keeps hE) hcd) rfl hbind hcell hloc (fun h₁ hns hk₁ => ?_) hco hgen hk
  exact PySem.wpAt_mono (h (hideAll s.heap (l.map (·.1))) s.heap.objs.size h₁ _ (out_of hE nm) ⟨hns, fun b o e => hk₁ b o (of_hideAll _ e), Nat.le_of_eq (hideAll_size _ _)⟩
    (fun p hp => ⟨hk₁ _ _ (hO p hp).1, Nat.ne_of_lt (Heap.lt_size (hO p hp).1), hideAll_none _ (List.mem_map_of_mem hp)⟩) (X.keeps st) (T.keeps st) (fun p hp => Heap.lt_size (hO p hp).1)) (fun _ _ y => y) fun _ _ y => y.elim
end
section
variable {w : World} {p : Program} {loose : List Str} {mean : ExcName → Option Value} {mg mb : Str → Option Value} {hB g : Heap} {s : Shared} {fr : List Env} {L x dp : Addr} {m : Str → Option Value} {A : Around}
  {Q E : Value → Shared → Prop} {n k : Nat} {its : List Value} {es : List DictEntry}
theorem kw30 : True := by
  w_top off
  k_with "k_inst" => ((refine' inst_pile (by k_asm) (by k_mem) (by k_mem)))
  exact True.intro
theorem kw31 : True := by
  w_top off
  k_with "my enterS" => (k_dflt (refine' enterS (by k_asm) (by k_asm) (by k_asm) (by k_asm) (by k_is) (by k_is) (by decide) (by exact BindsTo.of_eq rfl) (by exact locs rfl) ?_ (by decide) (by exact rfl) (by exact rfl) (by exact rfl); k_whole))
  exact True.intro

end
theorem kw32 : True := by
  w_top off
  k_with_none
  exact True.intro
end Mine
end

section
open PySem PySem.W PyProof.Rows
theorem Mine.freshX3 : True ∧ True := by
  w_top off
  first
  | (walk1; fail)
  | exact ⟨True.intro, True.intro⟩
end

section -- X3
open PySem PySem.W PyProof.Rows PySem.W.X
set_option maxRecDepth 100000
set_option maxHeartbeats 0
set_option linter.unusedVariables false
namespace Mine
/-- a bound built-in method -/
noncomputable abbrev bound (cls id : String) (x : Addr) : Obj := ⟨.type cls, none, .fields #[.builtin id, .ref x], #[]⟩
/-- what a run leaves that makes one object -/
noncomputable def MadeOne (hh : Heap) (gg : Array GenState) (dd : Drawn) (tt : Nat) (os : OsState) (o : Obj) (r : Value) (s' : Shared) : Prop :=
  ∃ a h', r = .ref a ∧ s' = ⟨h', gg, dd, tt, os⟩ ∧ h'.get? a = some o ∧ hh.get? a = none ∧ ∀ b o, hh.get? b = some o → h'.get? b = some o
theorem madeOne_of {hh h' : Heap} {gg : Array GenState} {dd : Drawn} {tt : Nat} {os : OsState} {a : Addr} {o : Obj} (D : Mem hh h' [] [(a, o)]) : MadeOne hh gg dd tt os o (.ref a) ⟨h', gg, dd, tt, os⟩ :=
  ⟨a, h', rfl, rfl, (D.nw _ (.head _)).1, (D.nw _ (.head _)).2, fun b o e => D.keep b o e (by rw [show away [] b = true from rfl, Bool.or_true])⟩
theorem newList_of {hh h' : Heap} {gg : Array GenState} {dd : Drawn} {tt : Nat} {os : OsState} {a d : Nat} (D : Mem hh h' [] [(a, pileObj [] 0 d), (d, dictOf [] 0)]) : ∃ a' d' h'', Value.ref a = .ref a' ∧ (⟨h', gg, dd, tt, os⟩ : Shared) = ⟨h'', gg, dd, tt, os⟩ ∧ h''.get? a' = some (pileObj [] 0 d') ∧ h''.get? d' = some (dictOf [] 0) ∧ hh.get? a' = none ∧ hh.get? d' = none ∧ @LT.lt Nat _ d' a' ∧ ∀ b o, hh.get? b = some o → h''.get? b = some o := by
  refine ⟨a, d, h', rfl, rfl, (D.nw _ (.head _)).1, (D.nw _ (.tail _ (.head _))).1, (D.nw _ (.head _)).2, (D.nw _ (.tail _ (.head _))).2, ?_, fun b o e => D.keep b o e (by rw [show away [] b = true from rfl, Bool.or_true])⟩
  have := D.ord
  simp only [List.map_cons, List.map_nil, List.pairwise_cons, List.mem_cons, List.not_mem_nil, or_false, forall_eq] at this
  exact this.1
section
variable {w : World} {fr : List Env}
theorem kw33 : True := by
  w_top off
  k_with "x_close" => (first | exact madeOne_of (by assumption) | exact newList_of (by assumption))
  exact True.intro
theorem wd_len (hh : Heap) (gg : Array GenState) (dd : Drawn) (tt : Nat) (os : OsState) (x dp : Addr) (its : Array Value) (n : Nat) (X : (hd.heap_1 w.params).In hh)
  (h2 : hh.get? x = some ⟨.ref 101, some dp, .seq its n, #[]⟩) : wpAny (model Challenge.rw_re0023_01.row.prog w) (Ar 480 180 fr) (call (.builtin "wrapper_descriptor.__get__") [.builtin "list.__len__", .ref x, .ref 101]) (MadeOne hh gg dd tt os (bound "method-wrapper" "list.__len__" x)) (fun _ _ => False) ⟨hh, gg, dd, tt, os⟩ := by
  x_run
theorem wd_init (hh : Heap) (gg : Array GenState) (dd : Drawn) (tt : Nat) (os : OsState) (x dp : Addr) (its : Array Value) (n : Nat) (X : (hd.heap_1 w.params).In hh)
  (h2 : hh.get? x = some ⟨.ref 101, some dp, .seq its n, #[]⟩) : wpAny (model Challenge.rw_re0023_01.row.prog w) (Ar 480 180 fr) (call (.builtin "wrapper_descriptor.__get__") [.builtin "list.__init__", .ref x, .ref 101]) (MadeOne hh gg dd tt os (bound "method-wrapper" "list.__init__" x)) (fun _ _ => False) ⟨hh, gg, dd, tt, os⟩ := by
  x_run
theorem md_pop (hh : Heap) (gg : Array GenState) (dd : Drawn) (tt : Nat) (os : OsState) (x dp : Addr) (its : Array Value) (n : Nat) (X : (hd.heap_1 w.params).In hh)
  (h2 : hh.get? x = some ⟨.ref 101, some dp, .seq its n, #[]⟩) : wpAny (model Challenge.rw_re0023_01.row.prog w) (Ar 480 180 fr) (call (.builtin "method_descriptor.__get__") [.builtin "list.pop", .ref x, .ref 101]) (MadeOne hh gg dd tt os (bound "builtin_function_or_method" "list.pop" x)) (fun _ _ => False) ⟨hh, gg, dd, tt, os⟩ := by
  x_run
theorem new_list (hh : Heap) (gg : Array GenState) (dd : Drawn) (tt : Nat) (os : OsState) (v : Value) (X : (hd.heap_1 w.params).In hh) : wpAny (model Challenge.rw_re0023_01.row.prog w) (Ar 480 180 fr) (call (.builtin "list.__new__") [.ref 101, v])
   (fun r s' => ∃ a d h', r = .ref a ∧ s' = ⟨h', gg, dd, tt, os⟩ ∧ h'.get? a = some (pileObj [] 0 d) ∧ h'.get? d = some (dictOf [] 0) ∧ hh.get? a = none ∧ hh.get? d = none ∧ @LT.lt Nat _ d a ∧ ∀ b o, hh.get? b = some o → h'.get? b = some o) (fun _ _ => False) ⟨hh, gg, dd, tt, os⟩ := by
  x_run
end
theorem kw34 : True := by
  w_top off
  k_with_none
  exact True.intro
section
variable {w : World} {fr : List Env}
theorem kw35 : True := by
  w_top off
  k_with "x_close" => (exact ⟨_, _, rfl, rfl⟩)
  exact True.intro
theorem bound_len (hh : Heap) (gg : Array GenState) (dd : Drawn) (tt : Nat) (os : OsState) (x mw dp : Addr) (its : Array Value) (n : Nat) (X : (hd.heap_1 w.params).In hh)
  (h1 : hh.get? mw = some ⟨.type "method-wrapper", none, .fields #[.builtin "list.__len__", .ref x], #[]⟩) (h2 : hh.get? x = some ⟨.ref 101, some dp, .seq its n, #[]⟩) :
  wpAny (model Challenge.rw_re0023_01.row.prog w) (Ar 480 180 fr) (call (.ref mw) []) (fun r s' => ∃ t tk, r = .int its.size t ∧ s' = ⟨hh, gg, dd, tk, os⟩) (fun _ _ => False) ⟨hh, gg, dd, tt, os⟩ := by
  x_run
end
theorem kw36 : True := by
  w_top off
  k_with_none
  exact True.intro
end Mine
end

section
open PySem PySem.W PyProof.Rows
theorem Mine.freshA4 : True ∧ True := by
  w_top off
  first
  | (walk1; fail)
  | exact ⟨True.intro, True.intro⟩
end

section -- A4
open PySem PySem.W PyProof.Rows PySem.Calls
set_option maxRecDepth 100000
set_option maxHeartbeats 1000000
set_option linter.unusedVariables false
namespace Mine
section
variable {prog : Program} {w : World} {M : Model} {A : Around} {E : Value → Shared → Prop} {h : Heap} {g : Array GenState} {d : Drawn} {t : Nat} {os : OsState} {so x dp : Addr} {its : List Value} {n : Nat} {name : Str} {id gid bt T : String} {tk : Tok} {fr : List Env} {od : Obj}
theorem super_ga_b {P : Value → Shared → Prop} (hso : h.get? so = some (ks_superObj 101 x 101)) (X : (hd.heap_1 w.params).In h) (hx : h.get? x = some (pileObj its n dp))
    (hf : alongIn (hd.heap_1 w.params) name [.type "list", .type "object"] = some (some (.builtin id))) (ht : typeOf (.builtin id) = pure (.type T)) (hgt : typeLookup (.type T) "__get__" = pure (some (.builtin gid))) (hn : (name == ("__class__" : Str)) = false)
    (hget : wpAny (model prog w) A (call (.builtin gid) [.builtin id, .ref x, .ref 101]) P E ⟨h, g, d, t, os⟩) :
    wpAny (model prog w) A (Builtin.«super.__getattribute__» ⟨[.ref so, .str name tk], []⟩) (fun fin s' => ∃ v, fin = .done (.ret v) ∧ P v s') E ⟨h, g, d, t, os⟩ := by
  have hxC : x ≠ 101 := by
    intro e
    subst e
    have := X 101 _ (by with_unfolding_all rfl)
    rw [hx] at this; cases this
  have hne : (Value.ref x == Value.ref 101) = false := by simp [hxC]
  have hno := looks_opaque (M := model prog w) (C := 101) X (by k_is)
  have hC := mro_pile (prog := prog) X
  have hl : ([Value.ref 101, .type "list", .type "object"].dropWhile (· != .ref 101)).drop 1 = [.type "list", .type "object"] := rfl
  have hdt : (ks_superObj 101 x 101).data = .fields #[.ref 101, .ref x, .ref 101] := rfl
  have f0 : (#[.ref 101, .ref x, .ref 101] : Array Value)[0]? = some (.ref 101) := rfl
  have f1 : (#[.ref 101, .ref x, .ref 101] : Array Value)[1]? = some (.ref x) := rfl
  have f2 : (#[.ref 101, .ref x, .ref 101] : Array Value)[2]? = some (.ref 101) := rfl
  unfold Builtin.«super.__getattribute__»
  repeat (first
    | (with_reducible refine wpAny_field hso hdt f0 ?_) | (with_reducible refine wpAny_field hso hdt f1 ?_) | (with_reducible refine wpAny_field hso hdt f2 ?_)
    | (with_reducible refine ks_wpAny_notOpaque hno ?_)
    | (with_reducible refine Looks.at hC ?_; rw [hl])
    | (refine ks_forIn_along X (fun _ _ => rfl) rfl ?_ hf)
    | (with_reducible refine wpAny_of_eq ht ?_)
    | (with_reducible refine wpAny_of_eq hgt ?_)
    | (simp only [hn, hne, Bool.or_false, Bool.false_eq_true, if_false])
    | (with_reducible refine wpAny_mono hget (fun v s' hv => ?_) (fun _ _ z => z))
    | wp_step
    | dsimp only)
  all_goals exact ⟨_, rfl, hv⟩

theorem super_meth {pl : Sem Bool} {Q : Value × List Value → Shared → Prop} {P : Value → Shared → Prop} (hso : h.get? so = some (ks_superObj 101 x 101)) (X : (hd.heap_1 w.params).In h) (hx : h.get? x = some (pileObj its n dp))
    (hf : alongIn (hd.heap_1 w.params) name [.type "list", .type "object"] = some (some (.builtin id))) (ht : typeOf (.builtin id) = pure (.type T)) (hgt : typeLookup (.type T) "__get__" = pure (some (.builtin gid))) (hn : (name == ("__class__" : Str)) = false)
    (hget : wpAny (model prog w) A.in1 (call (.builtin gid) [.builtin id, .ref x, .ref 101]) P (fun _ _ => False) ⟨h, g, d, t + 1, os⟩)
    (hq : ∀ v s', P v s' → (∃ a, v = .ref a) ∧ Q (v, []) s') :
    wpAny (model prog w) A (getMethod (.ref so) name pl) Q E ⟨h, g, d, t, os⟩ := by
  have hlk := PySem.F.ks_slot_super_ga.lookup
  have hcan := PySem.F.ks_canon_super_ga
  have hT : ∀ t', (⟨h, g, d, t', os⟩ : Shared).TypeIs (.ref so) "super" := fun _ => ⟨_, hso, rfl⟩
  unfold getMethod
  refine wpAny_bind (wpAny_specialOf (hT _) hlk ?_)
  show wpAny _ _ (if (Manifest.canonical "super.__getattribute__" != "object.__getattribute__") = true then _ else _) _ _ _
  rw [if_pos hcan]
  unfold getAttr getAttrBy
  refine wpAny_bind (wpAny_bind (wpAny_mkText (wpAny_holding (wpAny_bind (wpAny_typeOf (hT _) (wpAny_bind (wpAny_of_eq hlk ?_)))))))
  show wpAny _ _ (getAttrByItsOwn (.ref so) (.str name t) (.type "super") (.builtin "super.__getattribute__") true false) _ _ _
  unfold getAttrByItsOwn hookBefore callGetattribute boundAndCalled
  refine wpAny_bind (wpAny_of_eq (show (if onTheHeap (.type "super") then typeLookup (.type "super") "__getattr__" else pure none) = pure none from rfl) ?_)
  refine wpAny_bind (wpAny_attempt (wpAny_holding ?_))
  show wpAny _ _ (bindSpecial (.builtin "super.__getattribute__") (.ref so) >>= _) _ _ _
  refine wpAny_bind (wpAny_of_eq (PySem.F.ks_slot_super_ga.bind _) ?_)
  refine wpAny_mono (E := fun _ _ => False) (wpAny_call_entry PySem.F.ks_slot_super_ga (hT _) PySem.F.ks_entry_super_ga (super_ga_b hso X hx hf ht hgt hn hget) (PySem.F.ks_gaArgs_super _ _)) (fun v s' hv => ?_) fun _ _ z => z.elim
  obtain ⟨⟨a, rfl⟩, hQ⟩ := hq v s' hv
  exact wpAny_pure (wpAny_pure hQ)
end
section
variable {w : World} {A : Around} {E : Value → Shared → Prop} {s : Shared} {h₀ : Heap} {L so x dp : Addr} {m : Str → Option Value} {news : List (Addr × Obj)} {its : List Value} {n : Nat} {fr : List Env} {pl : Sem Bool} {Q : Value × List Value → Shared → Prop}
theorem made_news {o : Obj} {r : Value} {s' : Shared} {tt : Nat} (F : Fr h₀ L s.heap m) (N : News h₀ L s.heap news) (M : MadeOne s.heap s.gens s.drawn tt s.os o r s') (hf : ∀ b o, h₀.get? b = some o → s.heap.get? b = some o) :
    ∃ a h', r = .ref a ∧ s' = { s with heap := h', toks := tt } ∧ Fr h₀ L h' m ∧ News h₀ L h' ((a, o) :: news) ∧ ∀ q ∈ news, q.1 ≠ a := by
  obtain ⟨a, h', rfl, rfl, ha, hn, hk⟩ := M
  obtain ⟨oL, a1, a2, hL, a3⟩ := F.ns
  refine ⟨a, h', rfl, rfl, ⟨⟨oL, a1, a2, hk _ _ hL, a3⟩, fun b o e => hk _ _ (F.keep _ _ e), F.above⟩, fun q hq => ?_, fun q hq e => ?_⟩
  · rcases List.mem_cons.mp hq with rfl | hq
    · refine ⟨ha, fun e => ?_, ?_⟩
      · dsimp only at e; rw [e, hL] at hn; cases hn
      · cases z : h₀.get? a with
        | none => rfl
        | some o' => have := hf _ _ z; rw [hn] at this; cases this
    · exact ⟨hk _ _ (N q hq).1, (N q hq).2⟩
  · have := (N q hq).1; rw [e, hn] at this; cases this
theorem len_wd : typeOf (.builtin "list.__len__") = pure (.type "wrapper_descriptor") := by show builtinType _ = _; rw [builtinType_eq_fast]; kernel_rfl
theorem init_wd : typeOf (.builtin "list.__init__") = pure (.type "wrapper_descriptor") := by show builtinType _ = _; rw [builtinType_eq_fast]; kernel_rfl
theorem pop_md : typeOf (.builtin "list.pop") = pure (.type "method_descriptor") := by show builtinType _ = _; rw [builtinType_eq_fast]; kernel_rfl
theorem wd_get : typeLookup (.type "wrapper_descriptor") "__get__" = pure (some (.builtin "wrapper_descriptor.__get__")) := by rw [typeLookup_type, builtinLookup_eq_fast]; kernel_rfl
theorem md_get : typeLookup (.type "method_descriptor") "__get__" = pure (some (.builtin "method_descriptor.__get__")) := by rw [typeLookup_type, builtinLookup_eq_fast]; kernel_rfl

theorem super_len_K (F : Fr h₀ L s.heap m) (X₀ : (hd.heap_1 w.params).In h₀) (N : News h₀ L s.heap news) (h1 : (so, ks_superObj 101 x 101) ∈ news) (h2 : (x, pileObj its n dp) ∈ news)
    (a1 : A.handled = none) (a2 : A.depth ≤ 480) (a3 : A.units + 1 ≤ 180) (a4 : A.frames = some fr)
    (h : ∀ a h' tk, Fr h₀ L h' m → News h₀ L h' ((a, bound "method-wrapper" "list.__len__" x) :: news) → (∀ q ∈ news, q.1 ≠ a) → Q (.ref a, []) { s with heap := h', toks := tk }) :
    wpAny (model Challenge.rw_re0023_01.row.prog w) A (getMethod (.ref so) "__len__" pl) Q E s := by
  obtain ⟨hh, gg, dd, tt, os⟩ := s
  have X := X₀.keeps F.keep
  refine super_meth (N.get h1) X (N.get h2) (by kernel_rfl) len_wd wd_get (by decide +kernel) (ar_any (A := A.in1) a1 a2 a3 a4 (wd_len hh gg dd (tt + 1) os x dp its.toArray n X (N.get h2))) fun v s' hM => ?_
  obtain ⟨a, h', rfl, rfl, F', N', hn⟩ := made_news F N hM F.keep
  exact ⟨⟨a, rfl⟩, h a h' _ F' N' hn⟩
theorem super_init_K (F : Fr h₀ L s.heap m) (X₀ : (hd.heap_1 w.params).In h₀) (N : News h₀ L s.heap news) (h1 : (so, ks_superObj 101 x 101) ∈ news) (h2 : (x, pileObj its n dp) ∈ news)
    (a1 : A.handled = none) (a2 : A.depth ≤ 480) (a3 : A.units + 1 ≤ 180) (a4 : A.frames = some fr)
    (h : ∀ a h' tk, Fr h₀ L h' m → News h₀ L h' ((a, bound "method-wrapper" "list.__init__" x) :: news) → (∀ q ∈ news, q.1 ≠ a) → Q (.ref a, []) { s with heap := h', toks := tk }) :
    wpAny (model Challenge.rw_re0023_01.row.prog w) A (getMethod (.ref so) "__init__" pl) Q E s := by
  obtain ⟨hh, gg, dd, tt, os⟩ := s
  have X := X₀.keeps F.keep
  refine super_meth (N.get h1) X (N.get h2) (by kernel_rfl) init_wd wd_get (by decide +kernel) (ar_any (A := A.in1) a1 a2 a3 a4 (wd_init hh gg dd (tt + 1) os x dp its.toArray n X (N.get h2))) fun v s' hM => ?_
  obtain ⟨a, h', rfl, rfl, F', N', hn⟩ := made_news F N hM F.keep
  exact ⟨⟨a, rfl⟩, h a h' _ F' N' hn⟩
theorem super_pop_K (F : Fr h₀ L s.heap m) (X₀ : (hd.heap_1 w.params).In h₀) (N : News h₀ L s.heap news) (h1 : (so, ks_superObj 101 x 101) ∈ news) (h2 : (x, pileObj its n dp) ∈ news)
    (a1 : A.handled = none) (a2 : A.depth ≤ 480) (a3 : A.units + 1 ≤ 180) (a4 : A.frames = some fr)
    (h : ∀ a h' tk, Fr h₀ L h' m → News h₀ L h' ((a, bound "builtin_function_or_method" "list.pop" x) :: news) → (∀ q ∈ news, q.1 ≠ a) → Q (.ref a, []) { s with heap := h', toks := tk }) :
    wpAny (model Challenge.rw_re0023_01.row.prog w) A (getMethod (.ref so) "pop" pl) Q E s := by
  obtain ⟨hh, gg, dd, tt, os⟩ := s
  have X := X₀.keeps F.keep
  refine super_meth (N.get h1) X (N.get h2) (by kernel_rfl) pop_md md_get (by decide +kernel) (ar_any (A := A.in1) a1 a2 a3 a4 (md_pop hh gg dd (tt + 1) os x dp its.toArray n X (N.get h2))) fun v s' hM => ?_
  obtain ⟨a, h', rfl, rfl, F', N', hn⟩ := made_news F N hM F.keep
  exact ⟨⟨a, rfl⟩, h a h' _ F' N' hn⟩
end
end Mine
end

section
open PySem PySem.W PyProof.Rows
theorem Mine.freshA5 : True ∧ True := by
  w_top off
  first
  | (walk1; fail)
  | exact ⟨True.intro, True.intro⟩
end

section -- A5
open PySem PySem.W PyProof.Rows PySem.Calls
set_option maxRecDepth 100000
set_option maxHeartbeats 1000000
set_option linter.unusedVariables false
namespace Mine
section
variable {w : World} {A : Around} {E : Value → Shared → Prop} {s : Shared} {h₀ : Heap} {L so x dp a : Addr} {m : Str → Option Value} {news news' : List (Addr × Obj)} {its : List Value} {n : Nat} {fr : List Env} {Q : Value → Shared → Prop} {env : Env} {pos : Pos} {first : List Value} {id : String} {v : Value} {prog : Program} {od : Obj}
theorem keeps_mw {M : Model} (h : Heap) (X : h.get? a = some (bound "method-wrapper" id x)) : ∃ k, (k = Keeper.frame ∨ k = Keeper.machine ∨ k = Keeper.boundFrame) ∧ Looks M h (keeperOf (.ref a)) k :=
  ⟨.machine, .inr (.inl rfl), (Looks.ld (part := none) X).andThen .now⟩
theorem keeps_bf {M : Model} (h : Heap) (X : h.get? a = some (bound "builtin_function_or_method" id x)) : ∃ k, (k = Keeper.frame ∨ k = Keeper.machine ∨ k = Keeper.boundFrame) ∧ Looks M h (keeperOf (.ref a)) k :=
  ⟨.machine, .inr (.inl rfl), (Looks.ld (part := none) X).andThen .now⟩
theorem callWith_mw (N : News h₀ L s.heap news) (hm : (a, bound "method-wrapper" id x) ∈ news) (h : wpAny (model prog w) A (call (.ref a) (first ++ [])) Q E s) : wpAny (model prog w) A (callWith pos (.ref a) first (backTo pos (starEach [] env)) []) Q E s :=
  callWith_of rfl keeps_mw (evalArgs_nil3 ⟨N.get hm, h⟩)
theorem callWith_bf (N : News h₀ L s.heap news) (hm : (a, bound "builtin_function_or_method" id x) ∈ news) (h : wpAny (model prog w) A (call (.ref a) (first ++ [])) Q E s) : wpAny (model prog w) A (callWith pos (.ref a) first (backTo pos (starEach [] env)) []) Q E s :=
  callWith_of rfl keeps_bf (evalArgs_nil3 ⟨N.get hm, h⟩)

theorem call_len_K (F : Fr h₀ L s.heap m) (X₀ : (hd.heap_1 w.params).In h₀) (N : News h₀ L s.heap news) (h1 : (a, bound "method-wrapper" "list.__len__" x) ∈ news) (h2 : (x, pileObj its n dp) ∈ news)
    (a1 : A.handled = none) (a2 : A.depth ≤ 480) (a3 : A.units ≤ 180) (a4 : A.frames = some fr) (h : ∀ t tk, Q (.int its.length t) { s with toks := tk }) :
    wpAny (model Challenge.rw_re0023_01.row.prog w) A (call (.ref a) []) Q E s := by
  obtain ⟨hh, gg, dd, tt, os⟩ := s
  refine ar_any a1 a2 a3 a4 (wpAny_mono (bound_len hh gg dd tt os x a dp its.toArray n (X₀.keeps F.keep) (N.get h1) (N.get h2)) (fun v s' hv => ?_) (fun _ _ z => z.elim))
  obtain ⟨t, tk, rfl, rfl⟩ := hv
  have := h t tk
  rw [List.size_toArray]
  exact this

theorem chk_pop (y : Value) : (match Manifest.signature? "list.pop" with | some sig => Bind.checkArgs "list.pop" { sig with full := s!"{(Str.ofString "_Accumulator").toString}.{Bind.lastOf "list.pop"}" } ⟨[y], []⟩ | none => pure ()) = pure () := by kernel_rfl
theorem pop_bound {prog : Program} (X : (hd.heap_1 w.params).In s.heap) (I : InstAt s.heap x (pileObj its n dp) 101 (some od)) {Q : Unit → Shared → Prop} (h : Q () s) : wpAny (model prog w) A (checkBoundCall "list.pop" ⟨[.ref x], []⟩) Q E s := by
  have hk : builtinKind "list.pop" = some .method := by decide +kernel
  unfold checkBoundCall
  cases hsig : Manifest.signature? "list.pop" with
  | none => exact wpAny_pure h
  | some sig =>
    have hchk := chk_pop (.ref x)
    rw [hsig] at hchk
    dsimp only at hchk
    rw [hk]
    have m1 : Looks (model prog w) s.heap (isInstance (.ref x) (.type "module")) false := I.type.andThen (looks_mroIn X (by k_is))
    refine wpAny_ite_false rfl ?_
    refine wpAny_bind (m1.here ?_)
    refine wpAny_ite_false (by decide +kernel) ?_
    refine wpAny_bind (wpAny_bind (wpAny_loadPart I.at_ ?_))
    refine wpAny_pure (wpAny_ite_false rfl ?_)
    refine wpAny_bind (I.type.here ?_)
    obtain ⟨cd, hc, hq⟩ : ∃ cd, clsIn (hd.heap_1 w.params) 101 = some cd ∧ cd.qualname = "_Accumulator" := ⟨_, by k_is, rfl⟩
    refine wpAny_bind ((looks_clsIn X hc).here ?_)
    have ty : Looks (model prog w) s.heap (typeOf (.ref 101)) (.type "type") := looks_typeIn X (by k_is)
    refine wpAny_bind (ty.here ?_)
    refine wpAny_ite_true rfl ?_
    rw [hq]
    refine wpAny_of_eq hchk h
theorem chk_init (y : Value) {s : Shared} {Q : Unit → Shared → Prop} {M : Model} (h : Q () s) : wpAny M A (checkBoundCall "list.__init__" ⟨[y], []⟩) Q E s := by
  rw [show checkBoundCall "list.__init__" ⟨[y], []⟩ = pure () from by kernel_rfl]
  exact wpAny_pure h
end
end Mine
end

section
open PySem PySem.W PyProof.Rows
theorem Mine.freshA6 : True ∧ True := by
  w_top off
  first
  | (walk1; fail)
  | exact ⟨True.intro, True.intro⟩
end

section -- A6
open PySem PySem.W PyProof.Rows PySem.Calls
set_option maxRecDepth 100000
set_option maxHeartbeats 1000000
set_option linter.unusedVariables false
namespace Mine
section
variable {w : World} {A : Around} {E : Value → Shared → Prop} {s : Shared} {h₀ : Heap} {L so x dp a : Addr} {m : Str → Option Value} {news news' : List (Addr × Obj)} {its : List Value} {n : Nat} {fr : List Env} {Q : Value → Shared → Prop} {env : Env} {pos : Pos} {first : List Value} {id : String} {v : Value} {prog : Program} {od : Obj}
theorem call_pop_K (F : Fr h₀ L s.heap m) (X₀ : (hd.heap_1 w.params).In h₀) (N : News h₀ L s.heap news) (h1 : (a, bound "builtin_function_or_method" "list.pop" x) ∈ news) (h2 : (x, pileObj (its ++ [v]) n dp) ∈ news) (h3 : (dp, od) ∈ news)
    (U : Upd x (pileObj (its ++ [v]) n dp) (pileObj its (n + 1) dp) news news') (hz : its.length < 1000)
    (h : ∀ h', Fr h₀ L h' m → News h₀ L h' news' → Q v { s with heap := h' }) :
    wpAny (model Challenge.rw_re0023_01.row.prog w) A (call (.ref a) []) Q E s := by
  have X := X₀.keeps F.keep
  have I := inst_pile N h2 h3
  have hm := N.get h1
  have hl := N.get h2
  obtain ⟨pre, post, rfl, rfl, ha, hb⟩ := U.split
  have hlast : ((its ++ [v]).toArray.eraseIdxIfInBounds ((its ++ [v]).toArray.size - 1)) = its.toArray := by
    simp [Array.eraseIdxIfInBounds, List.eraseIdx_append_of_length_le]
  obtain ⟨U1, U2⟩ := news_upd (f := Obj.mapSeq fun xs => xs.eraseIdxIfInBounds ((its ++ [v]).toArray.size - 1)) F N ha hb (mapSeq_pile (its' := its) (n' := n + 1) _ hlast (by rw [hlast]; simp)) rfl
  refine wpAny_call (codeAny_of_tree ?_)
  show wpAny _ _ (callAny (.ref a) ⟨[], []⟩) _ _ _
  unfold callAny
  refine wpAny_bind (wpAny_loadPart hm ?_)
  show wpAny _ _ (checkBoundCall "list.pop" ⟨[.ref x], []⟩ >>= fun _ => again (.builtin "list.pop" ⟨[.ref x], []⟩)) _ _ _
  refine wpAny_bind (pop_bound X I ?_)
  refine wpAny_pure ⟨rfl, codeAny_builtin PySem.F.entry_list_pop ?_⟩
  have hs1 : (its ++ [v]).toArray.size ≤ sizeLine := by rw [List.size_toArray, sizeLine_eq, List.length_append, List.length_singleton]; omega
  have hy : (its ++ [v]).toArray[(its ++ [v]).toArray.size - 1]? = some v := by simp
  replace hl : s.heap.get? x = some { cls := .ref 101, dict := some dp, data := .seq (its ++ [v]).toArray n, slots := #[] } := hl
  generalize hi : (its ++ [v]).toArray = items at *
  have hpos : 0 < items.size := by rw [← hi]; simp
  have hne : ¬ items.isEmpty = true := by
    intro he; have : items.size = 0 := by simpa using he
    omega
  have hk : seqIndex? (-1) items.size = some (items.size - 1) := by
    rw [PySem.MeetsSeq.seqIndex_neg (by omega) (by omega)]; congr 1; omega
  obtain ⟨hp, g, d, tk, os⟩ := s
  dsimp only at hl
  replace hl : hp.get? x = some { cls := .ref 101, dict := some dp, data := .seq items n, slots := #[] } := hl
  unfold Builtin.«list.pop»
  wp_walk using wpAny_loadPart' hl
  simp only [hk, hy, Option.bind_some, Option.map_some]
  have hz' : (items.eraseIdxIfInBounds (items.size - 1)).size ≤ sizeLine + 1 := by rw [hlast, List.size_toArray, sizeLine_eq]; omega
  wp_walk using (wpAny_updateSeq hl rfl (hz := hs1) (_hz' := hz')), wpAny_loadPart' hl
  exact h _ U1 U2
end
end Mine
end

section
open PySem PySem.W PyProof.Rows
theorem Mine.freshA7 : True ∧ True := by
  w_top off
  first
  | (walk1; fail)
  | exact ⟨True.intro, True.intro⟩
end

section -- A7
open PySem PySem.W PyProof.Rows PySem.Calls
set_option maxRecDepth 100000
set_option maxHeartbeats 1000000
set_option linter.unusedVariables false
namespace Mine
section
variable {w : World} {A : Around} {E : Value → Shared → Prop} {s : Shared} {h₀ : Heap} {L so x dp a : Addr} {m : Str → Option Value} {news news' : List (Addr × Obj)} {its : List Value} {n : Nat} {fr : List Env} {Q : Value → Shared → Prop} {env : Env} {pos : Pos} {first : List Value} {id : String} {v : Value} {prog : Program} {od : Obj}
theorem call_init_K (F : Fr h₀ L s.heap m) (X₀ : (hd.heap_1 w.params).In h₀) (N : News h₀ L s.heap news) (h1 : (a, bound "method-wrapper" "list.__init__" x) ∈ news) (h2 : (x, pileObj [] n dp) ∈ news) (h3 : (dp, od) ∈ news)
    (U : Upd x (pileObj [] n dp) (pileObj [] n dp) news news')
    (h : ∀ h', Fr h₀ L h' m → News h₀ L h' news' → Q .none { s with heap := h' }) :
    wpAny (model Challenge.rw_re0023_01.row.prog w) A (call (.ref a) []) Q E s := by
  have X := X₀.keeps F.keep
  have I := inst_pile N h2 h3
  have hm := N.get h1
  have hl := N.get h2
  obtain ⟨pre, post, rfl, rfl, ha, hb⟩ := U.split
  obtain ⟨U1, U2⟩ := news_upd (f := Obj.mapSeq fun _ => #[]) F N ha hb (mapSeq_pile (its' := []) (n' := n) _ rfl rfl) rfl
  refine wpAny_call (codeAny_of_tree ?_)
  show wpAny _ _ (callAny (.ref a) ⟨[], []⟩) _ _ _
  unfold callAny
  refine wpAny_bind (wpAny_loadPart hm ?_)
  show wpAny _ _ (checkBoundCall "list.__init__" ⟨[.ref x], []⟩ >>= fun _ => again (.builtin "list.__init__" ⟨[.ref x], []⟩)) _ _ _
  refine wpAny_bind (chk_init _ ?_)
  refine wpAny_pure ⟨by kernel_rfl, codeAny_builtin PySem.F.entry_list_init ?_⟩
  replace hl : s.heap.get? x = some { cls := .ref 101, dict := some dp, data := .seq #[] n, slots := #[] } := hl
  obtain ⟨hp, g, d, tk, os⟩ := s
  dsimp only at hl
  unfold Builtin.«list.__init__»
  have hs1 : (#[] : Array Value).size ≤ sizeLine := by decide
  have hz' : (#[] : Array Value).size ≤ sizeLine + 1 := by decide
  wp_walk using (wpAny_updateSeq hl rfl (hz := hs1) (_hz' := hz')), wpAny_loadPart' hl
  exact h _ U1 U2
end
section
variable {w : World} {p : Program} {loose : List Str} {mean : ExcName → Option Value} {mg mb : Str → Option Value} {hB g : Heap} {s : Shared} {fr : List Env} {L x dp : Addr} {m : Str → Option Value} {A : Around}
  {Q E : Value → Shared → Prop} {n k : Nat} {its : List Value} {es : List DictEntry}
theorem kw37 : True := by
  w_top off
  k_with "k_inst" => ((refine' inst_pile (by k_asm) (by k_mem) (by k_mem)))
  exact True.intro
theorem kw38 : True := by
  w_top off
  k_with "my enterS" => (k_dflt (refine' enterS (by k_asm) (by k_asm) (by k_asm) (by k_asm) (by k_is) (by k_is) (by decide) (by exact BindsTo.of_eq rfl) (by exact locs rfl) ?_ (by decide) (by exact rfl) (by exact rfl) (by exact rfl); k_whole))
  exact True.intro
theorem kw39 : True := by
  w_top off
  k_with "getMethod ref" => (first | (k_here; refine' super_len_K (by k_asm) (by k_asm) (by k_asm) (by k_mem) (by k_mem) (by exact rfl) (by exact Nat.le_of_ble_eq_true rfl) (by exact Nat.le_of_ble_eq_true rfl) (by exact rfl) ?_) | (k_here; refine' super_pop_K (by k_asm) (by k_asm) (by k_asm) (by k_mem) (by k_mem) (by exact rfl) (by exact Nat.le_of_ble_eq_true rfl) (by exact Nat.le_of_ble_eq_true rfl) (by exact rfl) ?_) | (k_here; refine' super_init_K (by k_asm) (by k_asm) (by k_asm) (by k_mem) (by k_mem) (by exact rfl) (by exact Nat.le_of_ble_eq_true rfl) (by exact Nat.le_of_ble_eq_true rfl) (by exact rfl) ?_))
  exact True.intro
theorem kw40 : True := by
  w_top off
  k_with "callWith ref" => ((k_here; first | (k_here; refine' callWith_mw (by k_asm) (by k_mem) ?_) | (k_here; refine' callWith_bf (by k_asm) (by k_mem) ?_)))
  exact True.intro
theorem kw41 : True := by
  w_top off
  k_with "call ref" => (first | (k_here; refine' call_len_K (by k_asm) (by k_asm) (by k_asm) (by k_mem) (by k_mem) (by exact rfl) (by exact Nat.le_of_ble_eq_true rfl) (by exact Nat.le_of_ble_eq_true rfl) (by exact rfl) ?_) | (k_here; refine' call_pop_K (by k_asm) (by k_asm) (by k_asm) (by k_mem) (by k_mem) (by k_mem) (by k_upd) (by assumption) ?_) | (k_here; refine' call_init_K (by k_asm) (by k_asm) (by k_asm) (by k_mem) (by k_mem) (by k_mem) (by k_upd) ?_))
  exact True.intro
theorem pile_count (X : (hd.heap_1 w.params).In hB) (T : Top p loose mean mg mb hB) (hE : Ext hB s.heap) (hO : Own hB s.heap [(x, pileObj its n dp), (dp, dictOf es k)])
    (hl : its.length < 100)
    (hret : ∀ h' tk' t', Mod s.heap h' [] → Q (.int its.length t') { s with heap := h', toks := tk' }) :
    wpAny (model Challenge.rw_re0023_01.row.prog w) (Ar 450 150 fr) (call (.ref 98) [.ref x]) Q E s := by
  refine wpAny_call ?_
  walk_at "my enterS"
  intro g' L' h' tk out F' N' X' T' hlt
  change Fr _ _ _ (fun y => List.lookup y [("self", Value.ref x)]) at F'
  k_lt hlt
  try dsimp only
  k_steps
  rename News _ _ _ _ => NN
  rename Fr _ _ _ _ => FF
  exact hret _ _ _ ((out.same _ _ _ FF (fun q hq => NN q (.tail _ (.tail _ hq))) rfl).drop (l' := []) (fun q hq => (hO q hq).1))
theorem pile_count_K {news : List (Addr × Obj)} (F : Fr g L s.heap m) (X : (hd.heap_1 w.params).In g) (T : Top p loose mean mg mb g) (N : News g L s.heap news) (h1 : (x, pileObj its n dp) ∈ news) (h2 : (dp, dictOf es k) ∈ news)
    (hl : its.length < 100) (a1 : A.handled = none) (a2 : A.depth ≤ 450) (a3 : A.units ≤ 150) (a4 : A.frames = some fr)
    (h : ∀ h' tk' t, Fr g L h' m → News g L h' news → Q (.int its.length t) { s with heap := h', toks := tk' }) :
    wpAny (model Challenge.rw_re0023_01.row.prog w) A (call (.ref 98) [.ref x]) Q E s := by
  refine ar_any a1 a2 a3 a4 (pile_count (its := its) (n := n) (dp := dp) (es := es) (k := k) X T F.keep (own_of N (by intro q hq; simp only [List.mem_cons, List.not_mem_nil, or_false] at hq; rcases hq with rfl | rfl <;> assumption)) hl fun h' tk' t' M => ?_)
  exact h h' tk' t' (fr_mod F (by simp) M) (news_mod N (by simp) M (fun q hq => .inr ⟨hq, by simp⟩))
end
theorem kw42 : True := by
  w_top off
  k_with_none
  exact True.intro
end Mine
end

section
open PySem PySem.W PyProof.Rows
theorem Mine.freshA8 : True ∧ True := by
  w_top off
  first
  | (walk1; fail)
  | exact ⟨True.intro, True.intro⟩
end

section -- A8
open PySem PySem.W PyProof.Rows PySem.Calls
set_option maxRecDepth 100000
set_option maxHeartbeats 1000000
set_option linter.unusedVariables false
namespace Mine
section
variable {w : World} {p : Program} {loose : List Str} {mean : ExcName → Option Value} {mg mb : Str → Option Value} {hB g : Heap} {s : Shared} {fr : List Env} {L x dp : Addr} {m : Str → Option Value} {A : Around}
  {Q E : Value → Shared → Prop} {n k : Nat} {its : List Value} {es : List DictEntry} {v : Value} {t : Tok}
theorem append_md : typeOf (.builtin "list.append") = pure (.type "method_descriptor") := by show builtinType _ = _; rw [builtinType_eq_fast]; kernel_rfl
noncomputable abbrev tup2 (a b : Value) : Obj := ⟨.type "tuple", none, .seq #[a, b] 0, #[]⟩
theorem meth_pile_fn_K {prog : Program} {f : Addr} {od : Obj} {pl : Sem Bool} {name : Str} {news : List (Addr × Obj)} {Q : Value × List Value → Shared → Prop} (F : Fr g L s.heap m) (X : (hd.heap_1 w.params).In g) (N : News g L s.heap news) (h1 : (x, pileObj its n dp) ∈ news) (h2 : (dp, od) ∈ news)
    (hf : findIn (hd.heap_1 w.params) (.ref 101) name = some (some (.ref f))) (ht : typeIn (hd.heap_1 w.params) (.ref f) = some (.type "function")) (hs : shadowIn (some od) name = some false) (h : Q (.ref f, [.ref x]) s) :
    wpAny (model prog w) A (getMethod (.ref x) name pl) Q E s := meth_pile_fn (X.keeps F.keep) (inst_pile N h1 h2) hf ht hs h
theorem meth_pile_K {prog : Program} {id : String} {od : Obj} {pl : Sem Bool} {name : Str} {news : List (Addr × Obj)} {Q : Value × List Value → Shared → Prop} (F : Fr g L s.heap m) (X : (hd.heap_1 w.params).In g) (N : News g L s.heap news) (h1 : (x, pileObj its n dp) ∈ news) (h2 : (dp, od) ∈ news)
    (hf : findIn (hd.heap_1 w.params) (.ref 101) name = some (some (.builtin id))) (ht : typeOf (.builtin id) = pure (.type "method_descriptor")) (hs : shadowIn (some od) name = some false) (h : Q (.builtin id, [.ref x]) s) :
    wpAny (model prog w) A (getMethod (.ref x) name pl) Q E s := meth_pile (X.keeps F.keep) (inst_pile N h1 h2) hf ht hs h
theorem kw43 : True := by
  w_top off
  k_with "k_inst" => ((refine' inst_pile (by k_asm) (by k_mem) (by k_mem)))
  exact True.intro
theorem kw44 : True := by
  w_top off
  k_with "my enterS" => (k_dflt (refine' enterS (by k_asm) (by k_asm) (by k_asm) (by k_asm) (by k_is) (by k_is) (by decide) (by first | exact BindsTo.of_eq rfl | exact binds_K (Frag.In.keeps (h := _) (by assumption) (by assumption)) rfl (by k_is) rfl rfl rfl) (by exact locs rfl) ?_ (by decide) (by exact rfl) (by exact rfl) (by exact rfl); k_whole))
  exact True.intro
theorem kw45 : True := by
  w_top off
  k_with "getMethod ref" => (first | (k_here; refine' meth_pile_K (by k_asm) (by k_asm) (by k_asm) (by k_mem) (by k_mem) (by k_is) (by exact append_md) (by kernel_rfl) ?_) | (k_here; refine' meth_pile_fn_K (by k_asm) (by k_asm) (by k_asm) (by k_mem) (by k_mem) (by k_is) (by k_is) (by kernel_rfl) ?_) | (k_here; refine' super_len_K (by k_asm) (by k_asm) (by k_asm) (by k_mem) (by k_mem) (by exact rfl) (by exact Nat.le_of_ble_eq_true rfl) (by exact Nat.le_of_ble_eq_true rfl) (by exact rfl) ?_) | (k_here; refine' super_pop_K (by k_asm) (by k_asm) (by k_asm) (by k_mem) (by k_mem) (by exact rfl) (by exact Nat.le_of_ble_eq_true rfl) (by exact Nat.le_of_ble_eq_true rfl) (by exact rfl) ?_) | (k_here; refine' super_init_K (by k_asm) (by k_asm) (by k_asm) (by k_mem) (by k_mem) (by exact rfl) (by exact Nat.le_of_ble_eq_true rfl) (by exact Nat.le_of_ble_eq_true rfl) (by exact rfl) ?_))
  exact True.intro
theorem kw46 : True := by
  w_top off
  k_with "callWith ref" => ((k_here; first | (k_here; refine' callWith_mw (by k_asm) (by k_mem) ?_) | (k_here; refine' callWith_bf (by k_asm) (by k_mem) ?_)))
  exact True.intro
theorem kw47 : True := by
  w_top off
  k_with "call ref" => (first | (k_here; refine' pile_count_K (by k_asm) (by k_asm) (by k_asm) (by k_asm) (by k_mem) (by k_mem) (by assumption) (by exact rfl) (by exact Nat.le_of_ble_eq_true rfl) (by exact Nat.le_of_ble_eq_true rfl) (by exact rfl) ?_; intro _ _ _ _ _; (try k_sweep)) | (k_here; refine' call_len_K (by k_asm) (by k_asm) (by k_asm) (by k_mem) (by k_mem) (by exact rfl) (by exact Nat.le_of_ble_eq_true rfl) (by exact Nat.le_of_ble_eq_true rfl) (by exact rfl) ?_) | (k_here; refine' call_pop_K (by k_asm) (by k_asm) (by k_asm) (by k_mem) (by k_mem) (by k_mem) (by k_upd) (by assumption) ?_) | (k_here; refine' call_init_K (by k_asm) (by k_asm) (by k_asm) (by k_mem) (by k_mem) (by k_mem) (by k_upd) ?_))
  exact True.intro


theorem pile_pop0 (X : (hd.heap_1 w.params).In hB) (T : Top p loose mean mg mb hB) (hE : Ext hB s.heap) (hO : Own hB s.heap [(x, pileObj [] n dp), (dp, dictOf [ent w "_initial_size" t v] k)])
    (hret : ∀ D h' tk' t1 t2, s.heap.get? D = none → Mod s.heap h' [(D, tup2 (.str "" t1) (.str "" t2))] → Q (.ref D) { s with heap := h', toks := tk' }) :
    wpAny (model Challenge.rw_re0023_01.row.prog w) (Ar 430 130 fr) (call (.ref 61) [.ref x]) Q E s := by
  have hl : ([] : List Value).length < 100 := by decide
  refine wpAny_call ?_
  walk_at "my enterS"
  intro g' L' h' tk out F' N' X' T' hlt
  change Fr _ _ _ (fun y => List.lookup y [("self", Value.ref x)]) at F'
  k_lt hlt
  try dsimp only
  k_steps
  rename News _ _ _ _ => NN
  rename Fr _ _ _ _ => FF
  rename _ ∧ _ => LL
  exact hret _ _ _ _ _ (out.fresh NN (.head _) (by simp only [List.map_cons, List.map_nil, List.mem_cons, List.not_mem_nil, or_false, not_or]; exact ⟨Nat.ne_of_gt LL.1, Nat.ne_of_gt LL.2⟩))
    ((out.more _ _ _ FF NN (fun a ha => .tail _ ha)).drop (l' := [_]) (fun q hq => (hO q hq).1))

theorem pile_pop1 {y : Value} (X : (hd.heap_1 w.params).In hB) (T : Top p loose mean mg mb hB) (hE : Ext hB s.heap) (hO : Own hB s.heap [(x, pileObj (its ++ [y]) n dp), (dp, dictOf [ent w "_initial_size" t v] k)])
    (hxd : @Ne Nat x dp) (hl : (its ++ [y]).length < 100)
    (hret : ∀ h' tk', Mod s.heap h' [(x, pileObj its (n + 1) dp)] → Q y { s with heap := h', toks := tk' }) :
    wpAny (model Challenge.rw_re0023_01.row.prog w) (Ar 430 130 fr) (call (.ref 61) [.ref x]) Q E s := by
  have hz : its.length < 1000 := by rw [List.length_append] at hl; omega
  refine wpAny_call ?_
  walk_at "my enterS"
  intro g' L' h' tk out F' N' X' T' hlt
  change Fr _ _ _ (fun y => List.lookup y [("self", Value.ref x)]) at F'
  k_lt hlt
  try dsimp only
  iterate 13 walk1
  · exfalso
    rename _ = (0 : Int) => z
    rw [List.length_append, List.length_singleton] at z
    omega
  walk1
  walk1
  walk1
  show PySem.wpAt _ _ _ _ _ _ _
  refine ks_wpAt_execs_cons ?_
  refine ks_wpAt_Return_some ?_
  refine ks_wpAt_MethodCall ?_
  k_here; k_dflt (refine ks_node (by k_asm) (by k_asm) (by k_asm) (by k_asm) (by k_is) (by rfl) (by rfl) (by k_inst) (by k_is) (by rfl) (by first | rfl | decide +kernel) (by k_is) (by k_is) (by k_is) (by k_is) (by decide) (by rfl) (by rfl) (by rfl) (by rfl) (by decide +kernel) (by first | boot_by_name | rfl | kernel_rfl) ?_; intro so' h' F' N' l1; (try k_lt l1))
  k_steps
  rename News _ _ _ _ => NN
  rename Fr _ _ _ _ => FF
  rename ∀ q, q ∈ _ → _ => hn
  have n1 : @Ne Nat _ _ := hn (so', ks_superObj 101 x 101) (by k_mem)
  have n2 : @Ne Nat _ _ := hn (x, pileObj (its ++ [y]) n dp) (by k_mem)
  dsimp only at n1 n2
  refine call_pop_K FF X' NN (by k_mem) (by k_mem) (od := dictOf [ent w "_initial_size" t v] k) (by k_mem) (by k_upd) hz fun h2 F2 N2 => ?_
  clear FF NN hn
  k_steps
  exact hret _ _ ((out.same _ _ _ F2 (fun q hq => N2 q (.tail _ (.tail _ hq))) rfl).drop (l' := [_]) (fun q hq => (hO q (.tail _ hq)).1))
theorem pile_push {f1 f2 : Value} (X : (hd.heap_1 w.params).In hB) (T : Top p loose mean mg mb hB) (hE : Ext hB s.heap) (hO : Own hB s.heap [(x, pileObj its n dp), (dp, dictOf [ent w "_initial_size" t v] k)])
    (hxd : @Ne Nat x dp) (hl : its.length < 100)
    (hret : ∀ D h' tk', s.heap.get? D = none → Mod s.heap h' [(D, tup2 f1 f2), (x, pileObj (its ++ [.ref D]) (n + 1) dp)] → Q .none { s with heap := h', toks := tk' }) :
    wpAny (model Challenge.rw_re0023_01.row.prog w) (Ar 430 130 fr) (call (.ref 45) [.ref x, f1, f2]) Q E s := by
  have hz : its.length < 1000 := by omega
  refine wpAny_call ?_
  walk_at "my enterS"
  intro g' L' h' tk out F' N' X' T' hlt
  change Fr _ _ _ (fun y => List.lookup y [("string", f2), ("fws", f1), ("self", Value.ref x)]) at F'
  k_lt hlt
  try dsimp only
  k_steps
  rename News _ _ _ _ => NN
  rename Fr _ _ _ _ => FF
  rename _ ∧ _ => LL
  obtain ⟨l1, l2⟩ := LL
  refine append_pile FF X' NN (by k_mem) (od := dictOf [ent w "_initial_size" t v] k) (by k_mem) (by k_upd) hz fun h2 F2 N2 => ?_
  clear FF NN
  k_steps
  exact hret _ _ _ (out.fresh N2 (.head _) (by simp only [List.map_cons, List.map_nil, List.mem_cons, List.not_mem_nil, or_false, not_or]; exact ⟨Nat.ne_of_gt l1, Nat.ne_of_gt l2⟩))
    ((out.more _ _ _ F2 N2 (fun a ha => .tail _ ha)).drop (l' := [_, _]) (fun q hq => (hO q (.tail _ hq)).1))
end
theorem kw48 : True := by
  w_top off
  k_with_none
  exact True.intro
end Mine
end

section
open PySem PySem.W PyProof.Rows
theorem Mine.freshA9 : True ∧ True := by
  w_top off
  first
  | (walk1; fail)
  | exact ⟨True.intro, True.intro⟩
end

section -- A9
open PySem PySem.W PyProof.Rows PySem.Calls
set_option maxRecDepth 100000
set_option maxHeartbeats 1000000
set_option linter.unusedVariables false
namespace Mine
section
variable {w : World} {A : Around} {E : Value → Shared → Prop} {s : Shared} {x dp a sl l : Addr} {its : List Value} {n : Nat} {Q : Unit → Shared → Prop} {v : Value} {prog : Program} {od : Obj}
noncomputable abbrev sliceObj : Obj := { cls := Value.type "slice", data := Data.fields #[Value.none, Value.none, Value.none] }
theorem seqKey_pile (X : (hd.heap_1 w.params).In s.heap) (I : InstAt s.heap x (pileObj its n dp) 101 (some od)) {kv : Value} {Q : Value → Shared → Prop} (h : Q kv s) : wpAny (model prog w) A (sequenceKey (.ref x) kv "__setitem__") Q E s := by
  unfold sequenceKey
  refine wpAny_bind (I.type.here ?_)
  have m1 : Looks (model prog w) s.heap (isSubtype (.ref 101) (.type "collections.deque")) false := looks_mroIn X (by k_is)
  show wpAny _ _ ((seqItemTypes.anyM fun n => isSubtype (.ref 101) (.type n)) >>= _) _ _ _
  refine wpAny_bind ?_
  show wpAny _ _ ((["collections.deque"] : List String).anyM _) _ _ _
  rw [List.anyM]
  refine wpAny_bind (m1.here ?_)
  rw [List.anyM]
  exact wpAny_pure (wpAny_pure h)
theorem setslice_pile (X : (hd.heap_1 w.params).In s.heap) (I : InstAt s.heap x (pileObj its n dp) 101 (some od)) (hs : s.heap.get? sl = some sliceObj) (hl : s.heap.get? l = some (listOf #[] 0)) (hxl : x ≠ l) (hz : its.length < 1000)
    (h : ∀ f, f its.toArray = #[] → Q () { s with heap := s.heap.update x (Obj.mapSeq f) }) : wpAny (model prog w) A (setItem (.ref x) (.ref sl) (.ref l)) Q E s := by
  have hTs : s.TypeIs (.ref sl) "slice" := ⟨_, hs, rfl⟩
  unfold setItem
  refine wpAny_holding ?_
  refine wpAny_bind (seqKey_pile X I ?_)
  unfold callSpecial? specialOf
  refine wpAny_bind (wpAny_bind (wpAny_bind (I.type.here ((looks_findIn X (t := .ref 101) (name := "__setitem__") (by k_is)).here ?_))))
  refine wpAny_holding ?_
  refine wpAny_bind (wpAny_of_eq (PySem.F.slot_list_setitem.bind _) ?_)
  refine wpAny_bind ?_
  refine wpAny_call ?_
  have hk : builtinKind "list.__setitem__" = some .slot := by decide +kernel
  have hsp : splitId "list.__setitem__" = some ("list", "__setitem__") := by decide +kernel
  refine codeAny_call_builtin PySem.F.slot_list_setitem.plain PySem.F.entry_list_setitem (@check_slot (model prog w) _ _ s "list.__setitem__" "list" "__setitem__" (.ref x) [.ref sl, .ref l] [] _ hk hsp (sub_pile X I) (PySem.F.args_list_setitem_3 _ _ _) ?_)
  have hx : s.heap.get? x = some { cls := .ref 101, dict := some dp, data := .seq its.toArray n, slots := #[] } := I.at_
  have hl' : s.heap.get? l = some { cls := .type "list", dict := none, data := .seq #[] 0, slots := #[] } := hl
  have hTl : s.TypeIs (.ref l) "list" := ⟨_, hl, rfl⟩
  have hds : sliceObj.data = Data.fields #[Value.none, Value.none, Value.none] := rfl
  show wpAny _ _ (Builtin.List.listSubscript? (.ref sl) >>= _) _ _ s
  refine wpAny_bind ?_
  unfold Builtin.List.listSubscript?
  refine wpAny_bind (wpAny_specialOf hTs slice_no_index ?_)
  simp only [Option.isNone_none, if_true]
  refine wpAny_pure ?_
  show wpAny _ _ (typeOf (.ref sl) >>= _) _ _ s
  refine wpAny_bind (wpAny_typeOf hTs ?_)
  rw [if_neg (by decide)]
  rw [listSliceParts_eq]
  refine wpAny_bind (wpAny_bind (wpAny_field hs hds (x := Value.none) rfl (wpAny_bind (wpAny_listPart .none ?_))))
  rw [if_neg (by decide)]
  refine wpAny_bind (wpAny_field hs hds (x := Value.none) rfl (wpAny_bind (wpAny_listPart .none ?_)))
  refine wpAny_bind (wpAny_field hs hds (x := Value.none) rfl (wpAny_bind (wpAny_listPart .none (wpAny_pure ?_))))
  have hsr : ¬ (Builtin.List.listSameRef (Value.ref x) (Value.ref l) = true) := by
    simp [Builtin.List.listSameRef, hxl]
  rw [if_neg hsr]
  refine wpAny_bind ?_
  unfold Builtin.List.listAllItems
  refine wpAny_bind (wpAny_typeOf hTl ?_)
  rw [if_pos (by decide)]
  unfold Builtin.List.listItems
  refine wpAny_bind (wpAny_seqItems hl' rfl (wpAny_pure ?_))
  refine wpAny_bind (wpAny_bind (wpAny_seqItems hx rfl (wpAny_pure ?_)))
  refine wpAny_bind (wpAny_of_eq (sliceIndices_raw none none none its.toArray.size (by simp)) ?_)
  have hb : sliceBounds none none none its.toArray.size = (0, (its.toArray.size : Int), 1) := by
    simp [sliceBounds]
  rw [hb]
  rw [if_pos (by rfl)]
  refine wpAny_bind (wpAny_rule ?_)
  have hs1 : its.toArray.size ≤ sizeLine := by rw [List.size_toArray, sizeLine_eq]; omega
  rw [if_neg (by simp only [Builtin.List.listTooLong, decide_eq_true_eq, List.size_toArray, sizeLine_eq]; simp; omega)]
  have hf0 : (fun xs : Array Value => xs.extract 0 ((0 : Int), (its.toArray.size : Int), (1 : Int)).fst.toNat ++ #[] ++ xs.extract (max ((0 : Int), (its.toArray.size : Int), (1 : Int)).fst ((0 : Int), (its.toArray.size : Int), (1 : Int)).2.fst).toNat) its.toArray = #[] := by
    have : (max (0 : Int) (its.length : Int)).toNat = its.length := by omega
    simp [this]
  have h' := h (fun xs : Array Value => xs.extract 0 ((0 : Int), (its.toArray.size : Int), (1 : Int)).fst.toNat ++ #[] ++ xs.extract (max ((0 : Int), (its.toArray.size : Int), (1 : Int)).fst ((0 : Int), (its.toArray.size : Int), (1 : Int)).2.fst).toNat) hf0
  have hz' : ((fun xs : Array Value => xs.extract 0 ((0 : Int), (its.toArray.size : Int), (1 : Int)).fst.toNat ++ #[] ++ xs.extract (max ((0 : Int), (its.toArray.size : Int), (1 : Int)).fst ((0 : Int), (its.toArray.size : Int), (1 : Int)).2.fst).toNat) its.toArray).size ≤ sizeLine + 1 := by rw [hf0]; exact Nat.zero_le _
  unfold Builtin.List.listUpdate
  obtain ⟨hp, g, d, tk, os⟩ := s
  dsimp only at hx
  wp_walk using (wpAny_updateSeq hx rfl (hz := hs1) (_hz' := hz')), wpAny_letGo
  exact h'
theorem setslice_pile_K {h₀ : Heap} {L : Addr} {m : Str → Option Value} {news news' : List (Addr × Obj)} {n' : Nat} (F : Fr h₀ L s.heap m) (X₀ : (hd.heap_1 w.params).In h₀) (N : News h₀ L s.heap news) (h1 : (x, pileObj its n dp) ∈ news) (h2 : (dp, od) ∈ news) (h3 : (l, listOf #[] 0) ∈ news)
    (U : Upd x (pileObj its n dp) (pileObj [] n' dp) news news') (hn : n' = if (0 == its.length) = true then n else n + 1) (hxl : @Ne Nat x l) (hz : its.length < 1000)
    (h : ∀ h', Fr h₀ L h' m → News h₀ L h' news' → Q () { s with heap := h' }) : wpAny (model prog w) A (setItem (.ref x) (.ref s.heap.objs.size) (.ref l)) Q E { s with heap := s.heap.push sliceObj } := by
  have kp : ∀ b o, s.heap.get? b = some o → (s.heap.push sliceObj).get? b = some o := fun b o e => Heap.get?_push_of_some _ e
  have F1 : Fr h₀ L (s.heap.push sliceObj) m := by
    obtain ⟨oL, a1, a2, hL, a3⟩ := F.ns
    exact ⟨⟨oL, a1, a2, kp _ _ hL, a3⟩, fun b o e => kp _ _ (F.keep _ _ e), F.above⟩
  have N1 : News h₀ L (s.heap.push sliceObj) news := fun q hq => ⟨kp _ _ (N q hq).1, (N q hq).2⟩
  refine setslice_pile (its := its) (n := n) (dp := dp) (od := od) (X₀.keeps F1.keep) (inst_pile N1 h1 h2) (by heap_get) (N1.get h3) hxl hz fun f hf => ?_
  obtain ⟨pre, post, rfl, rfl, ha, hb⟩ := U.split
  obtain ⟨U1, U2⟩ := news_upd (f := Obj.mapSeq f) F1 N1 ha hb (mapSeq_pile (its' := []) (n' := n') f hf (by rw [hf, hn]; rfl)) rfl
  exact h _ U1 U2
end
section
variable {w : World} {p : Program} {loose : List Str} {mean : ExcName → Option Value} {mg mb : Str → Option Value} {hB g : Heap} {s : Shared} {fr : List Env} {L x dp : Addr} {m : Str → Option Value} {A : Around}
  {Q E : Value → Shared → Prop} {n k : Nat} {its : List Value} {es : List DictEntry} {v : Value} {t : Tok}
theorem kw49 : True := by
  w_top off
  k_with "k_inst" => ((refine' inst_pile (by k_asm) (by k_mem) (by k_mem)))
  exact True.intro
theorem kw50 : True := by
  w_top off
  k_with "my enterS" => (k_dflt (refine' enterS (by k_asm) (by k_asm) (by k_asm) (by k_asm) (by k_is) (by k_is) (by decide) (by first | exact BindsTo.of_eq rfl | exact binds_K (Frag.In.keeps (h := _) (by assumption) (by assumption)) rfl (by k_is) rfl rfl rfl) (by exact locs rfl) ?_ (by decide) (by exact rfl) (by exact rfl) (by exact rfl); k_whole))
  exact True.intro
theorem kw51 : True := by
  w_top off
  k_with "getMethod ref" => (first | (k_here; refine' meth_pile_K (by k_asm) (by k_asm) (by k_asm) (by k_mem) (by k_mem) (by k_is) (by exact append_md) (by kernel_rfl) ?_) | (k_here; refine' meth_pile_fn_K (by k_asm) (by k_asm) (by k_asm) (by k_mem) (by k_mem) (by k_is) (by k_is) (by kernel_rfl) ?_) | (k_here; refine' super_len_K (by k_asm) (by k_asm) (by k_asm) (by k_mem) (by k_mem) (by exact rfl) (by exact Nat.le_of_ble_eq_true rfl) (by exact Nat.le_of_ble_eq_true rfl) (by exact rfl) ?_) | (k_here; refine' super_pop_K (by k_asm) (by k_asm) (by k_asm) (by k_mem) (by k_mem) (by exact rfl) (by exact Nat.le_of_ble_eq_true rfl) (by exact Nat.le_of_ble_eq_true rfl) (by exact rfl) ?_) | (k_here; refine' super_init_K (by k_asm) (by k_asm) (by k_asm) (by k_mem) (by k_mem) (by exact rfl) (by exact Nat.le_of_ble_eq_true rfl) (by exact Nat.le_of_ble_eq_true rfl) (by exact rfl) ?_))
  exact True.intro
theorem kw52 : True := by
  w_top off
  k_with "callWith ref" => ((k_here; first | (k_here; refine' callWith_mw (by k_asm) (by k_mem) ?_) | (k_here; refine' callWith_bf (by k_asm) (by k_mem) ?_)))
  exact True.intro
theorem kw53 : True := by
  w_top off
  k_with "call ref" => (first | (k_here; refine' pile_count_K (by k_asm) (by k_asm) (by k_asm) (by k_asm) (by k_mem) (by k_mem) (by assumption) (by exact rfl) (by exact Nat.le_of_ble_eq_true rfl) (by exact Nat.le_of_ble_eq_true rfl) (by exact rfl) ?_; intro _ _ _ _ _; (try k_sweep)) | (k_here; refine' call_len_K (by k_asm) (by k_asm) (by k_asm) (by k_mem) (by k_mem) (by exact rfl) (by exact Nat.le_of_ble_eq_true rfl) (by exact Nat.le_of_ble_eq_true rfl) (by exact rfl) ?_) | (k_here; refine' call_pop_K (by k_asm) (by k_asm) (by k_asm) (by k_mem) (by k_mem) (by k_mem) (by k_upd) (by assumption) ?_) | (k_here; refine' call_init_K (by k_asm) (by k_asm) (by k_asm) (by k_mem) (by k_mem) (by k_mem) (by k_upd) ?_))
  exact True.intro


theorem pile_reset (X : (hd.heap_1 w.params).In hB) (T : Top p loose mean mg mb hB) (hE : Ext hB s.heap) (hO : Own hB s.heap [(x, pileObj its n dp), (dp, dictOf [ent w "_initial_size" t v] k)])
    (hxd : @Ne Nat x dp) (hl : its.length < 100)
    (hret : ∀ h' tk' n' t1 t2, Mod s.heap h' [(x, pileObj [] n' dp), (dp, dictOf [ent w "_initial_size" t1 (.int 0 t2)] k)] → Q .none { s with heap := h', toks := tk' }) :
    wpAny (model Challenge.rw_re0023_01.row.prog w) (Ar 430 130 fr) (call (.ref 83) [.ref x]) Q E s := by
  have hz : its.length < 1000 := by omega
  refine wpAny_call ?_
  walk_at "my enterS"
  intro g' L' h' tk out F' N' X' T' hlt
  change Fr _ _ _ (fun y => List.lookup y [("startval", Value.none), ("self", Value.ref x)]) at F'
  k_lt hlt
  try dsimp only
  k_steps
  rename News _ _ _ _ => NN
  rename Fr _ _ _ _ => FF
  rename _ ∧ _ => LL
  obtain ⟨l1, l2⟩ := LL
  refine setslice_pile_K FF X' NN (by k_mem) (od := dictOf [ent w "_initial_size" t v] k) (by k_mem) (by k_mem) (by k_upd) rfl (Nat.ne_of_lt l1) hz fun h2 F2 N2 => ?_
  clear FF NN
  k_steps
  refine set_pile (es' := [ent w "_initial_size" t _]) (k' := k) F2 X' N2 (by k_mem) (by k_mem) (by k_is) rfl rfl (by k_upd) (by simp) fun h3 F3 N3 => ?_
  clear F2 N2
  k_steps
  exact hret _ _ _ _ _ ((out.same _ _ _ F3 (fun q hq => N3 q (.tail _ hq)) rfl))
end
theorem kw54 : True := by
  w_top off
  k_with_none
  exact True.intro
end Mine
end

section
open PySem PySem.W PyProof.Rows
theorem Mine.freshAA : True ∧ True := by
  w_top off
  first
  | (walk1; fail)
  | exact ⟨True.intro, True.intro⟩
end

section -- AA
open PySem PySem.W PyProof.Rows PySem.Calls
set_option maxRecDepth 100000
set_option maxHeartbeats 1000000
set_option linter.unusedVariables false
namespace Mine
section
variable {w : World} {p : Program} {loose : List Str} {mean : ExcName → Option Value} {mg mb : Str → Option Value} {hB g : Heap} {s : Shared} {fr : List Env} {L x dp : Addr} {m : Str → Option Value} {A : Around}
  {Q E : Value → Shared → Prop} {n k : Nat} {its : List Value} {es : List DictEntry} {v : Value} {t : Tok}
theorem kw55 : True := by
  w_top off
  k_with "k_inst" => ((refine' inst_pile (by k_asm) (by k_mem) (by k_mem)))
  exact True.intro
theorem kw56 : True := by
  w_top off
  k_with "my enterS" => (k_dflt (refine' enterS (by k_asm) (by k_asm) (by k_asm) (by k_asm) (by k_is) (by k_is) (by decide) (by first | exact BindsTo.of_eq rfl | exact binds_K (Frag.In.keeps (h := _) (by assumption) (by assumption)) rfl (by k_is) rfl rfl rfl) (by exact locs rfl) ?_ (by decide) (by exact rfl) (by exact rfl) (by exact rfl); k_whole))
  exact True.intro
theorem kw57 : True := by
  w_top off
  k_with "getMethod ref" => (first | (k_here; refine' meth_pile_K (by k_asm) (by k_asm) (by k_asm) (by k_mem) (by k_mem) (by k_is) (by exact append_md) (by kernel_rfl) ?_) | (k_here; refine' meth_pile_fn_K (by k_asm) (by k_asm) (by k_asm) (by k_mem) (by k_mem) (by k_is) (by k_is) (by kernel_rfl) ?_) | (k_here; refine' super_len_K (by k_asm) (by k_asm) (by k_asm) (by k_mem) (by k_mem) (by exact rfl) (by exact Nat.le_of_ble_eq_true rfl) (by exact Nat.le_of_ble_eq_true rfl) (by exact rfl) ?_) | (k_here; refine' super_pop_K (by k_asm) (by k_asm) (by k_asm) (by k_mem) (by k_mem) (by exact rfl) (by exact Nat.le_of_ble_eq_true rfl) (by exact Nat.le_of_ble_eq_true rfl) (by exact rfl) ?_) | (k_here; refine' super_init_K (by k_asm) (by k_asm) (by k_asm) (by k_mem) (by k_mem) (by exact rfl) (by exact Nat.le_of_ble_eq_true rfl) (by exact Nat.le_of_ble_eq_true rfl) (by exact rfl) ?_))
  exact True.intro
theorem kw58 : True := by
  w_top off
  k_with "callWith ref" => ((k_here; first | (k_here; refine' callWith_mw (by k_asm) (by k_mem) ?_) | (k_here; refine' callWith_bf (by k_asm) (by k_mem) ?_)))
  exact True.intro
theorem kw59 : True := by
  w_top off
  k_with "call ref" => (first | (k_here; refine' pile_count_K (by k_asm) (by k_asm) (by k_asm) (by k_asm) (by k_mem) (by k_mem) (by assumption) (by exact rfl) (by exact Nat.le_of_ble_eq_true rfl) (by exact Nat.le_of_ble_eq_true rfl) (by exact rfl) ?_; intro _ _ _ _ _; (try k_sweep)) | (k_here; refine' call_len_K (by k_asm) (by k_asm) (by k_asm) (by k_mem) (by k_mem) (by exact rfl) (by exact Nat.le_of_ble_eq_true rfl) (by exact Nat.le_of_ble_eq_true rfl) (by exact rfl) ?_) | (k_here; refine' call_pop_K (by k_asm) (by k_asm) (by k_asm) (by k_mem) (by k_mem) (by k_mem) (by k_upd) (by assumption) ?_) | (k_here; refine' call_init_K (by k_asm) (by k_asm) (by k_asm) (by k_mem) (by k_mem) (by k_mem) (by k_upd) ?_))
  exact True.intro


theorem pile_init {R : Result → Shared → Prop} (X : (hd.heap_1 w.params).In hB) (T : Top p loose mean mg mb hB) (hE : Ext hB s.heap) (hO : Own hB s.heap [(x, pileObj [] 0 dp), (dp, dictOf [] 0)])
    (hxd : @Ne Nat x dp)
    (hret : ∀ h' tk' t1, Mod s.heap h' [(x, pileObj [] 0 dp), (dp, dictOf [ent w "_initial_size" t1 v] 1)] → R (.ok (.ret .none)) { s with heap := h', toks := tk' }) :
    codeAny (model Challenge.rw_re0023_01.row.prog w) (Ar 430 130 fr) (.call (.ref 38) ⟨[.ref x, v], []⟩) R s := by
  walk_at "my enterS"
  intro g' L' h' tk out F' N' X' T' hlt
  change Fr _ _ _ (fun y => List.lookup y [("initial_size", v), ("self", Value.ref x)]) at F'
  k_lt hlt
  try dsimp only
  k_steps
  refine set_pile (es' := [ent w "_initial_size" _ _]) (k' := 1) F' X' N' (by k_mem) (by k_mem) (by k_is) rfl rfl (by k_upd) (by simp) fun h2 F2 N2 => ?_
  clear F' N'
  show PySem.wpAt _ _ _ _ _ _ _
  refine ks_wpAt_execs_cons ?_
  refine ks_wpAt_Expr_any ?_
  refine ks_wpAt_MethodCall ?_
  k_here; k_dflt (refine ks_node (by k_asm) (by k_asm) (by k_asm) (by k_asm) (by k_is) (by rfl) (by rfl) (by k_inst) (by k_is) (by rfl) (by first | rfl | decide +kernel) (by k_is) (by k_is) (by k_is) (by k_is) (by decide) (by rfl) (by rfl) (by rfl) (by rfl) (by decide +kernel) (by first | boot_by_name | rfl | kernel_rfl) ?_; intro so' h' F' N' l1; (try k_lt l1))
  k_steps
  rename News _ _ _ _ => NN
  rename Fr _ _ _ _ => FF
  rename ∀ q, q ∈ _ → _ => hn
  have n1 : @Ne Nat _ _ := hn (so', ks_superObj 101 x 101) (by k_mem)
  have n2 : @Ne Nat _ _ := hn (x, pileObj [] 0 dp) (by k_mem)
  dsimp only at n1 n2
  refine call_init_K FF X' NN (by k_mem) (by k_mem) (od := dictOf [ent w "_initial_size" _ v] 1) (by k_mem) (by k_upd) fun h2 F2 N2 => ?_
  clear FF NN hn
  k_steps
  exact hret _ _ _ (out.same _ _ _ F2 (fun q hq => N2 q (.tail _ (.tail _ hq))) rfl)
end
theorem kw60 : True := by
  w_top off
  k_with_none
  exact True.intro
end Mine
end

section
open PySem PySem.W PyProof.Rows
theorem Mine.freshAB : True ∧ True := by
  w_top off
  first
  | (walk1; fail)
  | exact ⟨True.intro, True.intro⟩
end

section -- AB
open PySem PySem.W PyProof.Rows PySem.Calls
set_option maxRecDepth 100000
set_option maxHeartbeats 1000000
set_option linter.unusedVariables false
namespace Mine
section
variable {w : World} {p : Program} {loose : List Str} {mean : ExcName → Option Value} {mg mb : Str → Option Value} {hB h : Heap} {s : Shared} {fr : List Env} {L x dp : Addr} {m : Str → Option Value} {A : Around}
  {Q E : Value → Shared → Prop} {n k : Nat} {its : List Value} {es : List DictEntry} {v : Value} {t : Tok} {prog : Program}
theorem made_pile {M : Model} (X : (hd.heap_1 w.params).In h) : Looks M h (Bind.madeBy (.ref 101)) (some "list.__new__") := by
  obtain ⟨oc, od, cd, sl, ho, e3, hl⟩ : ∃ oc od cd sl, (hd.heap_1 w.params).lookup 101 = some ⟨oc, od, .cls cd, sl⟩ ∧ (sl.toList[4]?).join = some (.builtin "list.__new__") ∧ cd.mro = [.ref 101, .type "list", .type "object"] := ⟨_, _, _, _, by k_is, rfl, rfl⟩
  have hc : clsIn (hd.heap_1 w.params) 101 = some cd := by unfold clsIn; rw [ho]
  have hm : Looks M h (mroOf (.ref 101)) cd.mro := (looks_clsIn X hc).andThen .now
  intro A Q E s k q
  unfold Bind.madeBy
  refine wpAny_bind (hm A _ E s k ?_)
  rw [hl, List.forIn_cons]
  refine wpAny_bind (wpAny_bind (wpAny_bind (wpAny_bind (wpAny_loadPart (k _ _ (X _ _ ho)) (wpAny_pure ?_)))))
  dsimp only
  rw [← Array.getElem?_toList, e3]
  exact wpAny_pure (wpAny_pure (wpAny_pure q))
theorem make_pile (X : (hd.heap_1 w.params).In hB) (T : Top p loose mean mg mb hB) (hE : Ext hB s.heap)
    (hret : ∀ h' tk' x dp t1, s.heap.get? x = none → s.heap.get? dp = none → @LT.lt Nat _ dp x → Mod s.heap h' [(x, pileObj [] 0 dp), (dp, dictOf [ent w "_initial_size" t1 v] 1)] → Q (.ref x) { s with heap := h', toks := tk' }) :
    wpAny (model Challenge.rw_re0023_01.row.prog w) (Ar 410 110 fr) (call (.ref 101) [v]) Q E s := by
  have Xs := X.keeps hE
  obtain ⟨hh, gg, dd, tt, os⟩ := s
  obtain ⟨oc, od, cd, sl, ho, e4⟩ : ∃ oc od cd sl, (hd.heap_1 w.params).lookup 101 = some ⟨oc, od, .cls cd, sl⟩ ∧ cd.mro = [.ref 101, .type "list", .type "object"] := ⟨_, _, _, _, by k_is, rfl⟩
  have call' : Looks (model Challenge.rw_re0023_01.row.prog w) hh (specialOf (.ref 101) "__call__") (some (.builtin "type.__call__")) := looks_specialIn Xs (by k_is)
  have typ : Looks (model Challenge.rw_re0023_01.row.prog w) hh (isInstance (.ref 101) (.type "type")) true := looks_instIn Xs (by k_is)
  have hC := Xs _ _ ho
  refine wpAny_call ?_
  refine codeAny_of_tree ?_
  show wpAny _ _ (callAny (.ref 101) _) _ _ _
  refine nd_load hC ?_
  show wpAny _ _ (callAny.viaDunder (.ref 101) _) _ _ _
  unfold callAny.viaDunder
  refine wpAny_bind (call'.at ?_)
  dsimp only
  rw [tc_bind]
  refine wpAny_bind (wpAny_pure (wpAny_bind (wpAny_pure ?_)))
  refine wpAny_pure (a := Fin.again (.call (.builtin "type.__call__") ⟨.ref 101 :: [v], []⟩)) (And.intro rfl ?_)
  refine codeAny_call_builtin_at (Code.quiet_builtin _ (by decide +kernel)) entry_typeCall (check_slot tc_kind tc_split typ (tc_args _ _ _) ?_)
  unfold Builtin.«type.__call__»
  have hm := mro_pile (prog := Challenge.rw_re0023_01.row.prog) Xs
  have md := made_pile (M := model Challenge.rw_re0023_01.row.prog w) Xs
  dsimp only
  refine wpAny_ite_false rfl ?_
  refine wpAny_bind (hm.here ?_)
  refine wpAny_ite_false rfl ?_
  refine wpAny_bind (md.here ?_)
  refine wpAny_bind (wpAny_pure (wpAny_bind (wpAny_holding ?_)))
  refine ar_any (d := 480) (u := 180) (fr := fr) rfl (by simp only [depth_under_make]; decide) (Nat.le_of_ble_eq_true rfl) rfl ?_
  refine wpAny_mono (new_list hh gg dd tt os v Xs) (fun r s' hr => ?_) (fun _ _ z => z.elim)
  obtain ⟨x, dp, h', rfl, rfl, hx, hd', nx, nd, lt, kp⟩ := hr
  have X1 := Xs.keeps kp
  have hE' : Ext hB h' := fun b o e => kp _ _ (hE b o e)
  have I : InstAt h' x (pileObj [] 0 dp) 101 (some (dictOf [] 0)) := ⟨hx, rfl, rfl, hd'⟩
  have self1 : Looks (model Challenge.rw_re0023_01.row.prog w) h' (isSubtype (.ref 101) (.ref 101)) true := looks_mroIn X1 (by k_is)
  have no : ∀ a, hh.get? a = none → hB.get? a = none := fun a e => by
    cases z : hB.get? a with
    | none => rfl
    | some o => have := hE _ _ z; rw [e] at this; cases this
  refine wpAny_bind ?_
  unfold isInstance
  refine wpAny_bind (I.type.here (self1.here ?_))
  refine wpAny_ite_false rfl ?_
  refine wpAny_bind (wpAny_holding ?_)
  unfold callSpecial? specialOf
  refine wpAny_bind (wpAny_bind (I.type.here ((looks_findIn X1 (t := .ref 101) (name := "__init__") (by k_is)).here ?_)))
  refine wpAny_holding ?_
  refine wpAny_bind ((bind_fn X1 (.ref x) (by k_is)).here ?_)
  refine wpAny_bind (wpAny_call ?_)
  refine ar_code (d := 430) (u := 130) (fr := fr) rfl (by simp only [depth_under_make]; decide) (Nat.le_of_ble_eq_true rfl) rfl ?_
  refine pile_init (s := ⟨h', gg, dd, tt, os⟩) X T hE' (dp := dp) ?_ (Nat.ne_of_gt lt) fun h2 tk2 t1 M => ?_
  · intro q hq
    simp only [List.mem_cons, List.not_mem_nil, or_false] at hq
    rcases hq with rfl | rfl
    · exact ⟨hx, no _ nx⟩
    · exact ⟨hd', no _ nd⟩
  refine wpAny_pure ?_
  refine wpAny_ite_false rfl ?_
  exact wpAny_pure (hret _ _ _ _ _ nx nd lt (M.past kp))
end
end Mine
end

section
open PySem PySem.W PyProof.Rows
theorem Mine.freshLX : True ∧ True := by
  w_top off
  first
  | (walk1; fail)
  | exact ⟨True.intro, True.intro⟩
end

section -- LX
open PySem PySem.W PyProof.Rows
set_option maxRecDepth 100000
set_option maxHeartbeats 2000000
namespace Mine
theorem kw61 : True := by
  w_top off
  k_with "my enterC" => (k_dflt (refine' enterCK (by k_asm) (by k_asm) (by k_asm) (by k_asm) (by k_is) (by k_is) (by decide) (by exact BindsTo.of_eq rfl) (by exact rfl) (by decide +kernel) ?_ (by exact rfl) (by exact rfl) (by exact rfl); k_whole))
  exact True.intro
local macro_rules | `(tactic| walk_at "setAttr ref") => `(tactic| (k_here; (with_reducible show wpAny _ _ (setAttr (Value.ref _) (PySem.Str.ofString "read") _) _ _ _); k_dflt (refine' fn_setAttr_K ?k1 ?k2 ?k3 ?_; (case k1 => k_asm); (case k2 => k_asm); (case k3 => k_updF); k_whole); intro h' sd' F' N' l1; (try dsimp only at N'); (try k_lt l1); (try k_sweep)))
section
variable {w : World} {p : Program} {loose : List Str} {mean : ExcName → Option Value} {mg mb : Str → Option Value} {hB : Heap} {s : Shared} {fr : List Env}
  {Q E : Value → Shared → Prop} {x : Str} {t : Tok}


theorem lex_end {g' h' : Heap} {L' : Addr} {gens : Array GenState} {dr : Drawn} {tk : Nat} {os : OsState} {m : Str → Option Value} {A : Around} {sd st cS f1 c1 l cA cT : Addr} {fdS : FuncData} {qn : Str} {doc pm ct : Value} {oS oR oA oT : Obj} {tab : Array Value} {tr ti tq : Tok} {vs : Array Value}
  (X' : (hd.heap_1 w.params).In g') (T' : Top p loose mean mg mb g') (FF : Fr g' L' h' m)
  (NN : News g' L' h' [(sd, dictOf [ent w "read" tr (.ref f1)] 1), (st, fnObj fdS (some sd)), (cS, oS), (f1, fnObj (fnX "_law_read_on" qn roP roB roS [("text", cT), ("at", cA)] .none .none doc pm none (.ref c1) ct) none), (c1, oR), (l, listOf #[.int 0 ti] 0), (cA, oA), (cT, oT), (156, tabObj tab)])
  (out : Out hB s.heap g' L' [(156, tabObj #[])])
  (hA : oA.data = .cell (some (.ref l))) (hT : oT.data = .cell (some (.str x t))) (hR1 : oR.data = .fields vs) (hR2 : vs[1]? = some (.str qn tq)) (hx : x.length < 1000)
  (b1 : @LT.lt Nat _ 156 cT) (b2 : @LT.lt Nat _ cT cA) (b3 : @LT.lt Nat _ cA l) (b4 : @LT.lt Nat _ l c1) (b5 : @LT.lt Nat _ c1 f1) (b6 : @LT.lt Nat _ f1 cS) (b7 : @LT.lt Nat _ cS st) (b8 : @LT.lt Nat _ st sd)
  (a1 : A.handled = none) (a2 : A.depth ≤ 410) (a3 : A.units ≤ 110) (a4 : A.frames = some fr)
  (hret : ∀ h' tk' (z : Lex) tl ti tab, z.Ok → z.x = x → z.n = 0 → @LT.lt Nat _ z.mc z.pb → @LT.lt Nat _ z.dm z.mc → @LT.lt Nat _ z.aL z.dm → (∀ q ∈ ((z.pb, listOf #[] 0) :: z.objs w 1 0 tl ti), s.heap.get? q.1 = none) →
    Mod s.heap h' ((156, tabObj tab) :: (z.pb, listOf #[] 0) :: z.objs w 1 0 tl ti) → Q (.ref z.mc) ⟨h', gens, dr, tk', os⟩) :
  wpAny (model Challenge.rw_re0023_01.row.prog w) A (call (.ref 150) [.ref st]) Q E ⟨h', gens, dr, tk, os⟩ := by
  refine ar_any a1 a2 a3 a4 (make_lex (s := ⟨h', gens, dr, tk, os⟩) X' T' FF.keep fun h2 tk2 mc dm pb t1 t2 t3 t4 t5 t6 e1 e2 e3 M => ?_)
  have sz : ∀ q ∈ [(sd, dictOf [ent w "read" tr (.ref f1)] 1), (st, fnObj fdS (some sd)), (cS, oS), (f1, fnObj (fnX "_law_read_on" qn roP roB roS [("text", cT), ("at", cA)] .none .none doc pm none (.ref c1) ct) none), (c1, oR), (l, listOf #[.int 0 ti] 0), (cA, oA), (cT, oT), (156, tabObj tab)], @LT.lt Nat _ q.1 dm := fun q hq => Nat.lt_of_lt_of_le (Heap.lt_size (NN q hq).1) e1
  have s1 := sz _ (.head _)
  dsimp only at s1
  have hl : ∀ q ∈ [(pb, listOf #[] 0), (mc, instObj 150 dm), (dm, dictOf [ent w "lineno" t1 (.int 1 t5), ent w "instream" t2 (.ref st), ent w "whitespace" t3 (.str "\n\t\r " t6), ent w "pushback" t4 (.ref pb)] 4)], g'.get? q.1 = none ∧ q.1 ≠ L' := by
    exact all_cons (fresh_fr FF (Nat.le_trans e1 (Nat.le_of_lt (Nat.lt_trans e2 e3)))) (all_cons (fresh_fr FF (Nat.le_trans e1 (Nat.le_of_lt e2))) (all_cons (fresh_fr FF e1) all_nil))
  have F2 := fr_mod FF hl M
  have N2 : News g' L' h2 ([(pb, listOf #[] 0), (mc, instObj 150 dm), (dm, dictOf [ent w "lineno" t1 (.int 1 t5), ent w "instream" t2 (.ref st), ent w "whitespace" t3 (.str "\n\t\r " t6), ent w "pushback" t4 (.ref pb)] 4)] ++ [(sd, dictOf [ent w "read" tr (.ref f1)] 1), (st, fnObj fdS (some sd)), (cS, oS), (f1, fnObj (fnX "_law_read_on" qn roP roB roS [("text", cT), ("at", cA)] .none .none doc pm none (.ref c1) ct) none), (c1, oR), (l, listOf #[.int 0 ti] 0), (cA, oA), (cT, oT), (156, tabObj tab)]) := by
    refine news_mod NN hl M fun q hq => ?_
    rcases List.mem_append.mp hq with hq | hq
    · exact .inl hq
    · have := sz q hq
      exact .inr ⟨hq, all_cons (Nat.ne_of_gt (Nat.lt_trans this (Nat.lt_trans e2 e3))) (all_cons (Nat.ne_of_gt (Nat.lt_trans this e2)) (all_cons (Nat.ne_of_gt this) all_nil))⟩
  have fresh : ∀ q ∈ ([(pb, listOf #[] 0), (mc, instObj 150 dm), (dm, dictOf [ent w "lineno" t1 (.int 1 t5), ent w "instream" t2 (.ref st), ent w "whitespace" t3 (.str "\n\t\r " t6), ent w "pushback" t4 (.ref pb)] 4)] ++ [(sd, dictOf [ent w "read" tr (.ref f1)] 1), (st, fnObj fdS (some sd)), (cS, oS), (f1, fnObj (fnX "_law_read_on" qn roP roB roS [("text", cT), ("at", cA)] .none .none doc pm none (.ref c1) ct) none), (c1, oR), (l, listOf #[.int 0 ti] 0), (cA, oA), (cT, oT), (156, tabObj tab)]), @Ne Nat q.1 156 → s.heap.get? q.1 = none := fun q hq ne => out.fresh N2 hq (by simp only [List.map_cons, List.map_nil, List.mem_cons, List.not_mem_nil, or_false]; exact ne)
  have MM := out.more _ _ _ F2 N2 (by intro a ha; simp only [List.map_cons, List.map_nil, List.mem_cons, List.not_mem_nil, or_false] at ha; subst ha; simp)
  let z : Lex := { mc := mc, dm := dm, pb := pb, st := st, sd := sd, rd := f1, cR := c1, cA := cA, cT := cT, aL := l, fdS := fdS, q := qn, doc := doc, pm := pm, ct := ct, oR := oR, oA := oA, oT := oT, x := x, tT := t, t1 := t1, t2 := t2, t3 := t3, t4 := t4, tr := tr, tw := t6, n := 0 }
  have hsub : ∀ y ∈ ((156, tabObj tab) :: (z.pb, listOf #[] 0) :: z.objs w 1 0 t5 ti), y ∈ ([(pb, listOf #[] 0), (mc, instObj 150 dm), (dm, dictOf [ent w "lineno" t1 (.int 1 t5), ent w "instream" t2 (.ref st), ent w "whitespace" t3 (.str "\n\t\r " t6), ent w "pushback" t4 (.ref pb)] 4)] ++ [(sd, dictOf [ent w "read" tr (.ref f1)] 1), (st, fnObj fdS (some sd)), (cS, oS), (f1, fnObj (fnX "_law_read_on" qn roP roB roS [("text", cT), ("at", cA)] .none .none doc pm none (.ref c1) ct) none), (c1, oR), (l, listOf #[.int 0 ti] 0), (cA, oA), (cT, oT), (156, tabObj tab)]) := by
    refine all_cons (.tail _ (.tail _ (.tail _ (.tail _ (.tail _ (.tail _ (.tail _ (.tail _ (.tail _ (.tail _ (.tail _ (.head _)))))))))))) ?_
    refine all_cons (.head _) ?_
    refine all_cons (.tail _ (.tail _ (.tail _ (.tail _ (.tail _ (.tail _ (.tail _ (.tail _ (.head _))))))))) ?_
    refine all_cons (.tail _ (.tail _ (.head _))) ?_
    refine all_cons (.tail _ (.head _)) ?_
    refine all_cons (.tail _ (.tail _ (.tail _ (.tail _ (.head _))))) ?_
    refine all_cons (.tail _ (.tail _ (.tail _ (.head _)))) ?_
    refine all_cons (.tail _ (.tail _ (.tail _ (.tail _ (.tail _ (.tail _ (.head _))))))) ?_
    refine all_cons (.tail _ (.tail _ (.tail _ (.tail _ (.tail _ (.tail _ (.tail _ (.head _)))))))) ?_
    refine all_cons (.tail _ (.tail _ (.tail _ (.tail _ (.tail _ (.tail _ (.tail _ (.tail _ (.tail _ (.head _)))))))))) ?_
    refine all_cons (.tail _ (.tail _ (.tail _ (.tail _ (.tail _ (.tail _ (.tail _ (.tail _ (.tail _ (.tail _ (.head _))))))))))) ?_
    exact all_nil
  have kcT : @LT.lt Nat _ 156 cT := b1
  have kcA : @LT.lt Nat _ 156 cA := Nat.lt_trans kcT b2
  have kl : @LT.lt Nat _ 156 l := Nat.lt_trans kcA b3
  have kc1 : @LT.lt Nat _ 156 c1 := Nat.lt_trans kl b4
  have kf1 : @LT.lt Nat _ 156 f1 := Nat.lt_trans kc1 b5
  have kcS : @LT.lt Nat _ 156 cS := Nat.lt_trans kf1 b6
  have kst : @LT.lt Nat _ 156 st := Nat.lt_trans kcS b7
  have ksd : @LT.lt Nat _ 156 sd := Nat.lt_trans kst b8
  have kdm : @LT.lt Nat _ 156 dm := Nat.lt_trans ksd s1
  have kmc : @LT.lt Nat _ 156 mc := Nat.lt_trans kdm e2
  have kpb : @LT.lt Nat _ 156 pb := Nat.lt_trans kmc e3
  have qf1 : @LT.lt Nat _ l f1 := Nat.lt_trans b4 b5
  have qst : @LT.lt Nat _ l st := Nat.lt_trans (Nat.lt_trans qf1 b6) b7
  have qsd : @LT.lt Nat _ l sd := Nat.lt_trans qst b8
  have qdm : @LT.lt Nat _ l dm := Nat.lt_trans qsd s1
  have qmc : @LT.lt Nat _ l mc := Nat.lt_trans qdm e2
  have df1 : @LT.lt Nat _ f1 dm := Nat.lt_trans b6 (Nat.lt_trans b7 (Nat.lt_trans b8 s1))
  have big : ∀ y ∈ ((z.pb, listOf #[] 0) :: z.objs w 1 0 t5 ti), @Ne Nat y.1 156 := by
    exact all_cons (Nat.ne_of_gt kpb) (all_cons (Nat.ne_of_gt kl) (all_cons (Nat.ne_of_gt kdm) (all_cons (Nat.ne_of_gt kmc) (all_cons (Nat.ne_of_gt kst) (all_cons (Nat.ne_of_gt ksd) (all_cons (Nat.ne_of_gt kf1) (all_cons (Nat.ne_of_gt kc1) (all_cons (Nat.ne_of_gt kcA) (all_cons (Nat.ne_of_gt kcT) (all_nil))))))))))
  refine hret h2 tk2 z t5 ti tab ?_ rfl rfl e3 e2 qdm (fun y hy => fresh y (hsub y (.tail _ hy)) (big y hy)) (MM.sub hsub ?_)
  · exact { hA := hA, hT := hT, code := ⟨vs, tq, hR1, hR2⟩, len := hx, a1 := Nat.ne_of_lt qdm, a2 := Nat.ne_of_lt qmc, a3 := Nat.ne_of_lt qst, a4 := Nat.ne_of_lt qsd, a5 := Nat.ne_of_lt qf1, a6 := Nat.ne_of_lt b4, a7 := Nat.ne_of_gt b3, a8 := Nat.ne_of_gt (Nat.lt_trans b2 b3), d2 := Nat.ne_of_lt e2, d3 := Nat.ne_of_gt (Nat.lt_trans b8 s1), d4 := Nat.ne_of_gt s1, d5 := Nat.ne_of_gt df1, d6 := Nat.ne_of_gt (Nat.lt_trans b5 df1), d7 := Nat.ne_of_gt (Nat.lt_trans b3 qdm), d8 := Nat.ne_of_gt (Nat.lt_trans b2 (Nat.lt_trans b3 qdm)) }
  · refine all_cons (.inr (.inr (fresh _ (.head _) (Nat.ne_of_gt kpb)))) ?_
    refine all_cons (.inr (.inr (fresh _ (.tail _ (.head _)) (Nat.ne_of_gt kmc)))) ?_
    refine all_cons (.inr (.inr (fresh _ (.tail _ (.tail _ (.head _))) (Nat.ne_of_gt kdm)))) ?_
    refine all_cons (.inr (.inr (fresh _ (.tail _ (.tail _ (.tail _ (.head _)))) (Nat.ne_of_gt ksd)))) ?_
    refine all_cons (.inr (.inr (fresh _ (.tail _ (.tail _ (.tail _ (.tail _ (.head _))))) (Nat.ne_of_gt kst)))) ?_
    refine all_cons (.inr (.inr (fresh _ (.tail _ (.tail _ (.tail _ (.tail _ (.tail _ (.head _)))))) (Nat.ne_of_gt kcS)))) ?_
    refine all_cons (.inr (.inr (fresh _ (.tail _ (.tail _ (.tail _ (.tail _ (.tail _ (.tail _ (.head _))))))) (Nat.ne_of_gt kf1)))) ?_
    refine all_cons (.inr (.inr (fresh _ (.tail _ (.tail _ (.tail _ (.tail _ (.tail _ (.tail _ (.tail _ (.head _)))))))) (Nat.ne_of_gt kc1)))) ?_
    refine all_cons (.inr (.inr (fresh _ (.tail _ (.tail _ (.tail _ (.tail _ (.tail _ (.tail _ (.tail _ (.tail _ (.head _))))))))) (Nat.ne_of_gt kl)))) ?_
    refine all_cons (.inr (.inr (fresh _ (.tail _ (.tail _ (.tail _ (.tail _ (.tail _ (.tail _ (.tail _ (.tail _ (.tail _ (.head _)))))))))) (Nat.ne_of_gt kcA)))) ?_
    refine all_cons (.inr (.inr (fresh _ (.tail _ (.tail _ (.tail _ (.tail _ (.tail _ (.tail _ (.tail _ (.tail _ (.tail _ (.tail _ (.head _))))))))))) (Nat.ne_of_gt kcT)))) ?_
    exact all_cons (.inl (.head _)) all_nil

theorem law_lexer 
  (X : (hd.heap_1 w.params).In hB) (T : Top p loose mean mg mb hB) (hE : Ext hB s.heap) (Cd : CodeHd hB 160 156)
  (hO : Own hB s.heap [(156, tabObj #[])]) (hx : x.length < 1000)
  (hret : ∀ h' tk' (z : Lex) tl ti tab, z.Ok → z.x = x → z.n = 0 → @LT.lt Nat _ z.mc z.pb → @LT.lt Nat _ z.dm z.mc → @LT.lt Nat _ z.aL z.dm → (∀ q ∈ ((z.pb, listOf #[] 0) :: z.objs w 1 0 tl ti), s.heap.get? q.1 = none) →
    Mod s.heap h' ((156, tabObj tab) :: (z.pb, listOf #[] 0) :: z.objs w 1 0 tl ti) → Q (.ref z.mc) { s with heap := h', toks := tk' }) :
  wpAny (model Challenge.rw_re0023_01.row.prog w) (Ar 400 100 fr) (call (.ref 161) [.str x t]) Q E s := by
  refine wpAny_call ?_
  walk_at "my enterC"
  intro g' L' h' tk' cells' out F' N' Y' X' T' hlt
  have Cd' := Cd.keeps out.base
  k_lt hlt
  k_cells Y'
  rename_i o1 o2 d1 d2
  have d2' : o2.data = .cell (some (.str x t)) := d2.trans rfl

  simp only [List.cons_append, List.nil_append] at N'
  try dsimp only
  k_steps
  rename News _ _ _ _ => NN
  rename Fr _ _ _ _ => FF
  refine lex_end X' T' FF NN out (by assumption) d2' (by assumption) (by assumption) hx ?_ ?_ ?_ ?_ ?_ ?_ ?_ ?_ rfl (Nat.le_of_ble_eq_true rfl) (Nat.le_of_ble_eq_true rfl) rfl hret
  all_goals clear NN FF hret
  · exact Nat.lt_succ_of_lt hlt
  · exact Nat.lt_succ_self _
  all_goals
    repeat (rename _ ∧ _ => H1; cases H1)
    assumption
end
end Mine
theorem Mine.kw62 : True := by
  w_top off
  k_with_none
  exact True.intro
end

section
open PySem PySem.W PyProof.Rows
theorem Mine.freshCL : True ∧ True := by
  w_top off
  first
  | (walk1; fail)
  | exact ⟨True.intro, True.intro⟩
end

section -- CL
open PySem PySem.W PyProof.Rows
set_option maxRecDepth 100000
set_option maxHeartbeats 1000000
set_option linter.unusedVariables false
namespace Mine
/-- what _comment_line answers -/
noncomputable def noteOf (x : Str) : Str := if (Txt.rstrip x).length = 0 then "#" else "# " ++ Txt.rstrip x
section
variable {w : World} {p : Program} {loose : List Str} {mean : ExcName → Option Value} {mg mb : Str → Option Value} {hB g : Heap} {s : Shared} {fr : List Env} {L : Addr} {m : Str → Option Value} {A : Around}
  {Q E : Value → Shared → Prop} {x : Str} {t : Tok}
theorem kw63 : True := by
  w_top off
  k_with "my enter" => (k_dflt (refine' enterK (by k_asm) (by k_asm) (by k_asm) (by k_asm) (by k_is) (by k_is) (by decide) (by exact BindsTo.of_eq rfl) (by exact locs rfl) ?_ (by decide) (by exact rfl) (by exact rfl) (by exact rfl); k_whole))
  exact True.intro

theorem comment_line (X : (hd.heap_1 w.params).In hB) (T : Top p loose mean mg mb hB) (hE : Ext hB s.heap) (hO : Own hB s.heap []) (hl : x.length < 100)
    (hret : ∀ h' tk' t', Mod s.heap h' [] → Q (.str (noteOf x) t') { s with heap := h', toks := tk' }) :
    wpAny (model Challenge.rw_re0023_01.row.prog w) (Ar 430 130 fr) (call (.ref 112) [.str x t]) Q E s := by
  refine wpAny_call ?_
  walk_at "my enter"
  intro g' L' h' tk out F' N' X' T' hlt
  change Fr _ _ _ (fun y => List.lookup y [("line", Value.str x t)]) at F'
  try dsimp only
  k_steps
  · rename ((Txt.rstrip x).length : Int) ≠ 0 => hne
    rename Fr _ _ _ _ => FF
    have e : noteOf x = "# " ++ Txt.rstrip x := if_neg (by omega)
    rw [e] at hret
    exact hret _ _ _ ((out.same _ _ _ FF (fun q hq => nomatch hq) rfl))
  · rename ((Txt.rstrip x).length : Int) = 0 => hne
    rename Fr _ _ _ _ => FF
    have e : noteOf x = "#" := if_pos (by omega)
    rw [e] at hret
    exact hret _ _ _ ((out.same _ _ _ FF (fun q hq => nomatch hq) rfl))
end
theorem kw64 : True := by
  w_top off
  k_with_none
  exact True.intro
end Mine
end

section
open PySem PySem.W PyProof.Rows
theorem Mine.freshWT : True ∧ True := by
  w_top off
  first
  | (walk1; fail)
  | exact ⟨True.intro, True.intro⟩
end

section -- WT
open PySem PySem.W PyProof.Rows
set_option maxRecDepth 100000
set_option maxHeartbeats 1000000
set_option linter.unusedVariables false
namespace Mine
noncomputable def noPos : Pos := { line := 0, col := 0, endLine := 0, endCol := 0 }
noncomputable def whlOfS : Option Stmt → PySem.Expr × List Stmt
  | some (.While t body _ _) => (t, body)
  | _ => (.Constant .none 0 noPos, [])
noncomputable def wsAll : Arguments × List Stmt × Scope := fnOfS (Challenge.pw_re0023_01.main.body[10]?)
noncomputable def wsB : List Stmt := wsAll.2.1
noncomputable def wsS : Scope := wsAll.2.2
noncomputable def wsFor : List Stmt := forOfS wsB[2]?
noncomputable def wsTest : PySem.Expr := (whlOfS wsFor[2]?).1
noncomputable def wsBody : List Stmt := (whlOfS wsFor[2]?).2
noncomputable abbrev wsEnv (L : Addr) : Env := envX "_law_way_sum" wsS L 168 (.ref 167) []
theorem kf_of {vs : List Value} {gs : List Int} (h : IntsAre vs gs) : kf_ints vs = true := by
  induction h with
  | nil => rfl
  | cons n t _ ih => simpa [kf_ints] using ih
theorem any_of {vs : List Value} {gs : List Int} (h : IntsAre vs gs) (k : Int) : vs.any (isInt k) = gs.contains k := by
  induction h with
  | nil => rfl
  | cons n t _ ih =>
    rw [List.any_cons, List.contains_cons, ih]
    congr 1
    show (n == k) = (k == n)
    exact Bool.beq_comm
section
variable {w : World} {p : Program} {loose : List Str} {mean : ExcName → Option Value} {mg mb : Str → Option Value} {hB g : Heap} {s : Shared} {fr : List Env} {L wy sz go ix : Addr} {ox : Obj} {m : Str → Option Value} {A : Around}
  {Q E : Value → Shared → Prop} {nG nW nS : Nat} {vG vW vS : List Value} {gs ws ss : List Int} {a mt : Int} {ta tm : Tok} {news : List (Addr × Obj)} {prog : Program}
theorem item_K {value slice : PySem.Expr} {l : Addr} {vs : List Value} {ns : List Int} {n : Nat} {k : Int} {u : Tok} (N : News g L s.heap news) (hm : (l, listOf vs.toArray n) ∈ news) (hi : IntsAre vs ns)
    (h0 : 0 ≤ k) (h1 : k < ns.length) (hfit : k < 2 ^ 63) (h : ∀ t, Q (.int (ns.getD k.toNat 0) t) s)
    (hs : subscripted slice false (.ref l) (.int k u) = operate [.ref l, .int k u] (getItem (.ref l) (.int k u)) := by with_unfolding_all rfl) :
    wpAny (model prog w) A (subscriptTail value slice (.ref l) (.int k u)) Q E s := item_anyK (PySem.IsL.isList (n := n) (N _ hm).1) hi h0 h1 hfit h hs
theorem notin_K {k : Int} {t : Tok} {b : Bool} {D : Addr} (N : News g L s.heap news) (hm : (D, listOf vG.toArray nG) ∈ news) (hi : IntsAre vG gs) (e : (!gs.contains k) = b) (h : Q (.bool b) s) :
    wpAny (model prog w) A (compareOp .NotIn (.int k t) (.ref D)) Q E s := kf_notin N hm (kf_of hi) (by rw [any_of hi]; exact e) h
theorem kw65 : True := by
  w_top off
  k_with "eval Name" => ((k_here; k_dflt (refine' nameX_L (by k_asm) (by first | assumption | rfl) ?_ (by rfl) (by rfl); k_whole)))
  exact True.intro
theorem kw66 : True := by
  w_top off
  k_with "subscriptTail Name Name ref int" => ((k_here; refine' item_K (by k_asm) (by k_mem) (by assumption) (by assumption) (by assumption) (by omega) ?_))
  exact True.intro
theorem kw67 : True := by
  w_top off
  k_with "compareOp NotIn int ref" => ((k_here; refine' notin_K (by k_asm) (by k_mem) (by assumption) (by assumption) ?_))
  exact True.intro
theorem ws_turn {Q : Flow → Shared → Prop} (X : (hd.heap_1 w.params).In g) (T : Top p loose mean mg mb g) (F : Fr g L s.heap m) (N : News g L s.heap [(ix, ox), (go, listOf vG.toArray nG), (wy, listOf vW.toArray nW), (sz, listOf vS.toArray nS)])
    (n1 : @Ne Nat wy go) (n2 : @Ne Nat sz go) (n3 : @Ne Nat ix go) (iG : IntsAre vG gs) (iW : IntsAre vW ws) (iS : IntsAre vS ss) (hz : vG.length < 100)
    (m1 : m "at" = some (.int a ta)) (m2 : m "met" = some (.int mt tm)) (m3 : m "gone" = some (.ref go)) (m4 : m "way" = some (.ref wy)) (m5 : m "sizes" = some (.ref sz))
    (a0 : 0 ≤ a) (a1 : a < ws.length) (a2 : a < ss.length) (a3 : a < 2 ^ 63)
    (h : ∀ h' tk' m' t1 t2, Fr g L h' m' → News g L h' [(ix, ox), (go, listOf (vG ++ [Value.int a ta]).toArray (nG + 1)), (wy, listOf vW.toArray nW), (sz, listOf vS.toArray nS)] →
      m' "at" = some (.int (ws.getD a.toNat 0) t1) → m' "met" = some (.int (mt + ss.getD a.toNat 0) t2) → m' "gone" = some (.ref go) → m' "way" = some (.ref wy) → m' "sizes" = some (.ref sz) → m' "begin" = m "begin" → m' "due" = m "due" → Q .next { s with heap := h', toks := tk' }) :
    wpAny (model Challenge.rw_re0023_01.row.prog w) ((Ar 430 130 fr).deeper (wsEnv L)) (execs wsBody (wsEnv L)) Q (fun _ _ => False) s := by
  generalize hb : wsBody = b
  generalize hs : wsS = sc
  replace hb := hb.symm
  replace hs := hs.symm
  conv at hb => rhs; whnf
  conv at hs => rhs; whnf
  subst hb hs
  try dsimp only
  k_steps
  rename News _ _ _ _ => NN
  rename Fr _ _ _ _ => FF
  rw [List.push_toArray] at NN
  exact h _ _ _ _ _ FF NN rfl rfl m3 m4 m5 rfl rfl
theorem ws_test {Q : Bool → Shared → Prop} {b : Bool} (X : (hd.heap_1 w.params).In g) (T : Top p loose mean mg mb g) (F : Fr g L s.heap m) (N : News g L s.heap [(ix, ox), (go, listOf vG.toArray nG), (wy, listOf vW.toArray nW), (sz, listOf vS.toArray nS)])
    (iG : IntsAre vG gs) (m1 : m "at" = some (.int a ta)) (m3 : m "gone" = some (.ref go)) (e : (!gs.contains a) = b) (h : Q b s) :
    wpAny (model Challenge.rw_re0023_01.row.prog w) ((Ar 430 130 fr).deeper (wsEnv L)) (isTrue wsTest (wsEnv L) (eval wsTest (wsEnv L))) Q (fun _ _ => False) s := by
  generalize hb : wsTest = b
  generalize hs : wsS = sc
  replace hb := hb.symm
  replace hs := hs.symm
  conv at hb => rhs; whnf
  conv at hs => rhs; whnf
  subst hb hs
  try dsimp only
  k_steps
  have e' : (!gs.any fun x => x == a) = b := by
    rw [← e, List.contains_eq_any_beq]
    congr 2
    funext x
    exact Bool.beq_comm
  rw [e']
  exact h
end
theorem kw68 : True := by
  w_top off
  k_with_none
  exact True.intro
noncomputable def wsRun : Nat → List Int → List Int → List Int → Int → Int → List Int × Int
  | 0, _, _, gs, _, mt => (gs, mt)
  | k + 1, ws, ss, gs, a, mt => if gs.contains a then (gs, mt) else wsRun k ws ss (gs ++ [a]) (ws.getD a.toNat 0) (mt + ss.getD a.toNat 0)
noncomputable def wsStops : Nat → List Int → List Int → Int → Bool
  | 0, _, gs, a => gs.contains a
  | k + 1, ws, gs, a => gs.contains a || (decide (0 ≤ a) && decide (a < 4) && wsStops k ws (gs ++ [a]) (ws.getD a.toNat 0))
section
variable {w : World} {p : Program} {loose : List Str} {mean : ExcName → Option Value} {mg mb : Str → Option Value} {hB g : Heap} {fr : List Env} {L wy sz go ix : Addr} {ox : Obj} {A : Around}
  {nW nS : Nat} {vW vS : List Value} {ws ss : List Int}
theorem ints_snoc {vs : List Value} {gs : List Int} (h : IntsAre vs gs) (a : Int) (t : Tok) : IntsAre (vs ++ [.int a t]) (gs ++ [a]) := IntsAre.append h (.cons _ _ .nil)
theorem ws_loop {Q : Flow → Shared → Prop} (X : (hd.heap_1 w.params).In g) (T : Top p loose mean mg mb g) (n1 : @Ne Nat wy go) (n2 : @Ne Nat sz go) (n3 : @Ne Nat ix go) (iW : IntsAre vW ws) (iS : IntsAre vS ss) (lW : ws.length = 4) (lS : ss.length = 4) :
    ∀ (k : Nat) (gs : List Int) (vG : List Value) (nG : Nat) (a mt : Int) (ta tm : Tok) (m : Str → Option Value) (s : Shared), wsStops k ws gs a = true → Fr g L s.heap m →
      News g L s.heap [(ix, ox), (go, listOf vG.toArray nG), (wy, listOf vW.toArray nW), (sz, listOf vS.toArray nS)] → IntsAre vG gs → vG.length + k < 100 →
      m "at" = some (.int a ta) → m "met" = some (.int mt tm) → m "gone" = some (.ref go) → m "way" = some (.ref wy) → m "sizes" = some (.ref sz) →
      (∀ h' tk' m' vG' nG' t2, Fr g L h' m' → News g L h' [(ix, ox), (go, listOf vG'.toArray nG'), (wy, listOf vW.toArray nW), (sz, listOf vS.toArray nS)] → IntsAre vG' (wsRun k ws ss gs a mt).1 → vG'.length ≤ vG.length + k →
        m' "met" = some (.int (wsRun k ws ss gs a mt).2 t2) → m' "gone" = some (.ref go) → m' "way" = some (.ref wy) → m' "sizes" = some (.ref sz) → m' "due" = m "due" → Q .next { s with heap := h', toks := tk' }) →
      WhlRest Challenge.rw_re0023_01.row.prog w ((Ar 430 130 fr).deeper (wsEnv L)) (fun _ _ => False) (wsEnv L) wsTest wsBody [] Q (k + 1) s := by
  intro k
  induction k with
  | zero =>
    intro gs vG nG a mt ta tm m s hst F N iG hz m1 m2 m3 m4 m5 h
    simp only [wsStops] at hst
    refine whl_turn (fun _ _ f => f.elim) (ws_test X T F N iG m1 m3 (b := false) (by rw [hst]; rfl) ?_)
    refine WhlIf.no rfl ?_
    exact wpAny_execs_nil (h _ _ _ _ _ _ F N iG (Nat.le_refl _) m2 m3 m4 m5 rfl)
  | succ k ih =>
    intro gs vG nG a mt ta tm m s hst F N iG hz m1 m2 m3 m4 m5 h
    cases hc : gs.contains a with
    | true =>
      refine whl_turn (fun _ _ f => f.elim) (ws_test X T F N iG m1 m3 (b := false) (by rw [hc]; rfl) ?_)
      refine WhlIf.no rfl ?_
      simp only [wsRun, hc, if_true] at h
      exact wpAny_execs_nil (h _ _ _ _ _ _ F N iG (Nat.le_add_right _ _) m2 m3 m4 m5 rfl)
    | false =>
      simp only [wsStops, hc, Bool.false_or, Bool.and_eq_true, decide_eq_true_eq] at hst
      obtain ⟨⟨a0, a1⟩, hst⟩ := hst
      simp only [wsRun, hc, Bool.false_eq_true, if_false] at h
      refine whl_turn (fun _ _ f => f.elim) (ws_test X T F N iG m1 m3 (b := true) (by rw [hc]; rfl) ?_)
      refine WhlIf.yes rfl ?_
      refine ws_turn X T F N n1 n2 n3 iG iW iS (by omega) m1 m2 m3 m4 m5 a0 (by rw [lW]; exact a1) (by rw [lS]; exact a1) (by omega) fun h' tk' m' t1 t2 F' N' b1 b2 b3 b4 b5 b6 b7 => ?_
      show WhlRest _ _ _ _ _ _ _ _ _ (k + 1) _
      refine ih _ _ _ _ _ _ _ _ _ hst F' N' (ints_snoc iG a ta) (by rw [List.length_append, List.length_singleton]; omega) b1 b2 b3 b4 b5 fun h2 tk2 m2' vG' nG' t2' F2 N2 i2 l2 c1 c2 c3 c4 c5 => ?_
      exact h _ _ _ _ _ _ F2 N2 i2 (by rw [List.length_append, List.length_singleton] at l2; omega) c1 c2 c3 c4 (c5.trans b7)
end
end Mine
end

section
open PySem PySem.W PyProof.Rows
theorem Mine.freshWU : True ∧ True := by
  w_top off
  first
  | (walk1; fail)
  | exact ⟨True.intro, True.intro⟩
end

section -- WU
open PySem PySem.W PyProof.Rows
set_option maxRecDepth 100000
set_option maxHeartbeats 1000000
set_option linter.unusedVariables false
namespace Mine
noncomputable abbrev pos0 (x : Int) : Int := if x > 0 then x else 0
section
variable {w : World} {p : Program} {loose : List Str} {mean : ExcName → Option Value} {mg mb : Str → Option Value} {hB g : Heap} {s : Shared} {fr : List Env} {L wy sz go ix : Addr} {ox : Obj} {m : Str → Option Value} {A : Around}
  {Q E : Value → Shared → Prop} {nG nW nS : Nat} {vG vW vS : List Value} {gs ws ss : List Int} {a mt b du : Int} {ta tm tb td : Tok} {news : List (Addr × Obj)} {prog : Program}
theorem kw69 : True := by
  w_top off
  k_with "eval Name" => ((k_here; k_dflt (refine' nameX_L (by k_asm) (by first | assumption | rfl) ?_ (by rfl) (by rfl); k_whole)))
  exact True.intro
theorem kw70 : True := by
  w_top off
  k_with "WhlRest" => (fail "by hand")
  exact True.intro
theorem ws_step {Q : Flow → Shared → Prop} (X : (hd.heap_1 w.params).In g) (T : Top p loose mean mg mb g) (F : Fr g L s.heap m) (N : News g L s.heap [(ix, ox), (go, listOf vG.toArray nG), (wy, listOf vW.toArray nW), (sz, listOf vS.toArray nS)])
    (n1 : @Ne Nat wy go) (n2 : @Ne Nat sz go) (n3 : @Ne Nat ix go) (iG : IntsAre vG gs) (iW : IntsAre vW ws) (iS : IntsAre vS ss) (lW : ws.length = 4) (lS : ss.length = 4) (hz : vG.length < 90)
    (m1 : m "begin" = some (.int b tb)) (m2 : m "due" = some (.int du td)) (m3 : m "gone" = some (.ref go)) (m4 : m "way" = some (.ref wy)) (m5 : m "sizes" = some (.ref sz))
    (hst : wsStops 4 ws gs b = true)
    (h : ∀ h' tk' m' vG' nG' t2, Fr g L h' m' → News g L h' [(ix, ox), (go, listOf vG'.toArray nG'), (wy, listOf vW.toArray nW), (sz, listOf vS.toArray nS)] → IntsAre vG' (wsRun 4 ws ss gs b 0).1 → vG'.length ≤ vG.length + 4 →
      m' "due" = some (.int (du + pos0 (wsRun 4 ws ss gs b 0).2) t2) → m' "gone" = some (.ref go) → m' "way" = some (.ref wy) → m' "sizes" = some (.ref sz) → Q .next { s with heap := h', toks := tk' }) :
    wpAny (model Challenge.rw_re0023_01.row.prog w) ((Ar 430 130 fr).deeper (wsEnv L)) (execs wsFor (wsEnv L)) Q (fun _ _ => False) s := by
  generalize hb : wsFor = b
  generalize hs : wsS = sc
  replace hb := hb.symm
  replace hs := hs.symm
  conv at hb => rhs; whnf
  conv at hs => rhs; whnf
  subst hb hs
  try dsimp only
  iterate 10 walk1
  rename News _ _ _ _ => NN
  rename Fr _ _ _ _ => FF
  refine ws_loop X T n1 n2 n3 iW iS lW lS 4 _ _ _ _ _ _ _ _ _ hst FF NN iG (by omega) rfl rfl m3 m4 m5 fun h2 tk2 m2' vG' nG' t2' F2 N2 i2 l2 c1 c2 c3 c4 c5 => ?_
  replace c5 := c5.trans m2
  clear FF NN m1 m2 m3 m4 m5
  k_steps
  rename News _ _ _ _ => NN
  rename Fr _ _ _ _ => FF
  exact h _ _ _ _ _ _ FF NN i2 l2 rfl c2 c3 c4
end
theorem kw71 : True := by
  w_top off
  k_with_none
  exact True.intro
noncomputable def wsSteps : List Int → List Int → List Int → List Int → Int → Int
  | [], _, _, _, du => du
  | b :: bs, ws, ss, gs, du => wsSteps bs ws ss (wsRun 4 ws ss gs b 0).1 (du + pos0 (wsRun 4 ws ss gs b 0).2)
noncomputable def wsAllStop : List Int → List Int → List Int → List Int → Bool
  | [], _, _, _ => true
  | b :: bs, ws, ss, gs => wsStops 4 ws gs b && wsAllStop bs ws ss (wsRun 4 ws ss gs b 0).1
section
variable {w : World} {p : Program} {loose : List Str} {mean : ExcName → Option Value} {mg mb : Str → Option Value} {hB g : Heap} {s : Shared} {fr : List Env} {L wy sz go : Addr} {m : Str → Option Value} {A : Around}
  {Q E : Value → Shared → Prop} {nW nS : Nat} {vW vS : List Value} {ws ss : List Int}
theorem kw72 : True := by
  w_top off
  k_with "eval Name" => ((k_here; k_dflt (refine' nameX_L (by k_asm) (by first | assumption | rfl) ?_ (by rfl) (by rfl); k_whole)))
  exact True.intro
theorem kw73 : True := by
  w_top off
  k_with "my enter" => (k_dflt (refine' enterK (by k_asm) (by k_asm) (by k_asm) (by k_asm) (by k_is) (by k_is) (by decide) (by exact BindsTo.of_eq rfl) (by exact locs rfl) ?_ (by decide) (by exact rfl) (by exact rfl) (by exact rfl); k_whole))
  exact True.intro
theorem way_sum (X : (hd.heap_1 w.params).In hB) (T : Top p loose mean mg mb hB) (hE : Ext hB s.heap) (hO : Own hB s.heap [(wy, listOf vW.toArray nW), (sz, listOf vS.toArray nS)]) 
    (iW : IntsAre vW ws) (iS : IntsAre vS ss) (lW : ws.length = 4) (lS : ss.length = 4) (hst : wsAllStop [0, 1, 2, 3] ws ss [] = true)
    (hret : ∀ h' tk' t', Mod s.heap h' [] → Q (.int (wsSteps [0, 1, 2, 3] ws ss [] 0) t') { s with heap := h', toks := tk' }) :
    wpAny (model Challenge.rw_re0023_01.row.prog w) (Ar 430 130 fr) (call (.ref 168) [.ref wy, .ref sz]) Q E s := by
  refine wpAny_call ?_
  walk_at "my enter"
  intro g' L' h' tk out F' N' X' T' hlt
  change Fr _ _ _ (fun y => List.lookup y [("sizes", Value.ref sz), ("way", Value.ref wy)]) at F'
  k_lt hlt
  try dsimp only
  iterate 22 walk1
  simp only [wsAllStop, Bool.and_eq_true, Bool.and_true] at hst
  obtain ⟨st0, st1, st2, st3⟩ := hst
  rename News _ _ _ _ => NN
  rename Fr _ _ _ _ => FF
  rename _ ∧ _ ∧ _ => LL
  obtain ⟨g1, g2, g3⟩ := LL
  rename wy < _ ∧ sz < _ => LL
  obtain ⟨g4, g5⟩ := LL
  have q1 : @Ne Nat _ _ := Nat.ne_of_lt g4
  have q2 : @Ne Nat _ _ := Nat.ne_of_lt g5
  have q3 : @Ne Nat _ _ := Nat.ne_of_gt g1
  refine ws_step X' T' FF NN q1 q2 q3 IntsAre.nil iW iS lW lS (by decide) rfl rfl rfl rfl rfl st0 fun h2 tk2 m2 vG2 nG2 t2 F2 N2 i2 l2 c1 c2 c3 c4 => ?_
  clear FF NN
  iterate 3 walk1
  rename News _ _ _ _ => NN
  rename Fr _ _ _ _ => FF
  refine ws_step (b := 1) X' T' FF NN q1 q2 q3 i2 iW iS lW lS (by simp only [List.length_nil] at l2; omega) rfl c1 c2 c3 c4 st1 fun h3 tk3 m3 vG3 nG3 t3 F3 N3 i3 l3 d1 d2 d3 d4 => ?_
  clear FF NN
  iterate 3 walk1
  rename News _ _ _ _ => NN
  rename Fr _ _ _ _ => FF
  refine ws_step (b := 2) X' T' FF NN q1 q2 q3 i3 iW iS lW lS (by simp only [List.length_nil] at l2; omega) rfl d1 d2 d3 d4 st2 fun h4 tk4 m4 vG4 nG4 t4 F4 N4 i4 l4 e1 e2 e3 e4 => ?_
  clear FF NN
  iterate 3 walk1
  rename News _ _ _ _ => NN
  rename Fr _ _ _ _ => FF
  refine ws_step (b := 3) X' T' FF NN q1 q2 q3 i4 iW iS lW lS (by simp only [List.length_nil] at l2; omega) rfl e1 e2 e3 e4 st3 fun h5 tk5 m5 vG5 nG5 t5 F5 N5 i5 l5 f1 f2 f3 f4 => ?_
  clear FF NN
  k_steps
  rename News _ _ _ _ => NN
  rename Fr _ _ _ _ => FF
  exact hret _ _ _ ((out.same _ _ _ FF (fun q hq => NN q (.tail _ hq)) rfl).drop (l' := []) (fun q hq => (hO q hq).1))
end
theorem kw74 : True := by
  w_top off
  k_with_none
  exact True.intro
end Mine
end

section
open PySem PySem.W PyProof.Rows
theorem Mine.freshLB : True ∧ True := by
  w_top off
  first
  | (walk1; fail)
  | exact ⟨True.intro, True.intro⟩
end

section -- LB
open PySem PySem.W PyProof.Rows
set_option maxRecDepth 100000
set_option maxHeartbeats 4000000
set_option linter.unusedVariables false
namespace Mine
noncomputable def lwAll : Arguments × List Stmt × Scope := fnOfS (Challenge.pw_re0023_01.main.body[11]?)
noncomputable def lwB : List Stmt := lwAll.2.1
noncomputable def lwS : Scope := lwAll.2.2
noncomputable abbrev lwEnv (fA : Addr) (cD : Value) (L : Addr) : Env := envOfC "law" lwS L fA cD
end Mine
end

section
open PySem PySem.W PyProof.Rows
theorem Mine.freshLB2 : True ∧ True := by
  w_top off
  first
  | (walk1; fail)
  | exact ⟨True.intro, True.intro⟩
end

section -- LB2
open PySem PySem.W PyProof.Rows
set_option maxRecDepth 100000
set_option maxHeartbeats 4000000
set_option linter.unusedVariables false
namespace Mine
noncomputable def lwNum : List Stmt := forOfS lwB[5]?
noncomputable def lwRing : List Stmt := forOfS lwB[16]?
noncomputable def lwPush : List Stmt := forOfS lwRing[0]?
noncomputable def lwTurn : List Stmt := forOfS lwRing[1]?
noncomputable def lwStep : List Stmt := forOfS lwTurn[2]?
end Mine
end

section
open PySem PySem.W PyProof.Rows
theorem Mine.freshLC0 : True ∧ True := by
  w_top off
  first
  | (walk1; fail)
  | exact ⟨True.intro, True.intro⟩
end

section -- LC0
open PySem PySem.W PyProof.Rows
set_option maxRecDepth 100000
set_option maxHeartbeats 1000000
set_option linter.unusedVariables false
namespace Mine
section
variable {prog : Program} {w : World} {A : Around} {E : Value → Shared → Prop} {s : Shared} {h₀ : Heap} {L : Addr} {m : Str → Option Value} {env : Env}
theorem str_st {y : Str} {t : Tok} {T : String} {I : Addr} : ∀ i (h h' : Heap) (o : Obj) (nw : List (Addr × Obj)), h.IsStrIter I T y t i → h.get? I = some o → h'.get? I = some o → (∀ b o, h₀.get? b = some o → h'.get? b = some o) → News h₀ L h' nw → True → h'.IsStrIter I T y t i :=
  fun i h h' o nw st e e' _ _ _ => by
    obtain ⟨o', q, r⟩ := st
    rw [e] at q; cases q
    exact ⟨o, e', r⟩
/-- a list comprehension over a text's signs -/
theorem ListComp_S {elt iter : PySem.Expr} {x y : Str} {t : Tok} {px : Pos} {scope : Scope} {cl : List (Str × Addr)} {pos : Pos} {Q : Value → Shared → Prop} {news : List (Addr × Obj)}
    (hclos : closureFor scope env = pure cl) (hcell : ∀ y ∈ scope.names, y.2 ≠ .cell) (hkind : scope.kind = .function)
    (hnames : ∀ y ∈ scope.names, y.2 = .local → scope.names.lookup y.1 = some .local) (hx : scope.names.lookup x = some .local) (hh : A.handled = none)
    (h : wpAny (model prog w) A (eval iter env) (fun xv s₁ => xv = .str y t ∧ Fr h₀ L s₁.heap m ∧ News h₀ L s₁.heap news ∧ ∀ g, LCg.CompRest prog w A h₀ L m env elt x scope cl { s₁ with heap := g } (fun _ => True) (SignAt y) (LCg.FinE h₀ L m { s₁ with heap := g } Q) y.cps.size 0 [] news) E s)
    (hsz : y.cps.size ≤ sizeLine)
    (hs : ∀ x, foldedSetIterable iter env x = pure x := by intro _; rfl) :
    wpAny (model prog w) A (eval (.ListComp elt [⟨.Name x px, iter, [], 0⟩] scope pos) env) Q E s := by
  rw [eval_ListComp]
  refine wpAny_comprehension_free (use := none) rfl hs hclos hkind hnames (wpAny_mono h (fun xv s₁ h₁ => ?_) fun _ _ e => e)
  obtain ⟨rfl, F, N, R⟩ := h₁
  have fin : ∀ (s₂ : Shared) (g : Heap), s₂ = { s₁ with heap := g } → ∀ D C h tk m' ys news', Fr h₀ L h m → News h₀ L h ((D, LCg.lst ys) :: news') → LCg.Off1 D news' → h.Ns C m' → h₀.get? C = none → h₀.get? D = none → C ≠ L → D ≠ L → C ≠ D → (∀ p ∈ news', p.1 ≠ C) → LCg.FinE h₀ L m s₂ Q ys news' →
      ∃ m', h.Ns C m' ∧ ∀ h'', Heap.SameBut C h h'' → Q (.ref D) { s₁ with heap := h'', toks := tk } := by
    intro s₂ g e D C h tk m' ys news' F' N' o1 hn hC₀ hD₀ hCL hDL hCD offC fin
    subst e
    refine ⟨m', hn, fun h'' hs'' => fin D h'' tk (F'.change hs'' hCL hC₀) (fun p hp => ?_) o1⟩
    refine ⟨hs''.extBut _ _ ?_ (N' p hp).1, (N' p hp).2⟩
    rcases List.mem_cons.mp hp with rfl | hp
    · exact Ne.symm hCD
    · exact offC p hp
  have lt : ∀ (o : Obj), ∀ b ∈ [s₁.heap.objs.size], b < (s₁.heap.push o).objs.size := fun o b hb => by
    rw [List.mem_singleton.mp hb, Heap.size_push]; exact Nat.lt_succ_self _
  cases ha : y.cps.all (· < 128)
  · refine wpAny_pyIter_wide ha ?_
    exact LCg.block_U (Walks.strWide hh s₁.heap.objs.size y t) hsz (fun i h st => by obtain ⟨o, e, _⟩ := st; exact ⟨o, e⟩) str_st hcell hkind hx ⟨_, Heap.get?_push_size _ rfl, rfl, rfl⟩ (lt _)
      (F.keeps fun _ _ e => Heap.get?_push_of_some _ e) (N.grown fun _ _ e => Heap.get?_push_of_some _ e) (Nat.ne_of_lt F.ns.lt) (next_is_new F) (fun p hp => Nat.ne_of_lt (Heap.lt_size (N p hp).1)) trivial (R _) (fin _ _ rfl)
  · refine wpAny_pyIter_ascii ha ?_
    exact LCg.block_U (Walks.strAscii hh s₁.heap.objs.size y t) hsz (fun i h st => by obtain ⟨o, e, _⟩ := st; exact ⟨o, e⟩) str_st hcell hkind hx ⟨_, Heap.get?_push_size _ rfl, rfl, rfl⟩ (lt _)
      (F.keeps fun _ _ e => Heap.get?_push_of_some _ e) (N.grown fun _ _ e => Heap.get?_push_of_some _ e) (Nat.ne_of_lt F.ns.lt) (next_is_new F) (fun p hp => Nat.ne_of_lt (Heap.lt_size (N p hp).1)) trivial (R _) (fin _ _ rfl)
theorem sign_rest {elt : PySem.Expr} {x y : Str} {scope : Scope} {cl : List (Str × Addr)} {Fin : List Value → List (Addr × Obj) → Prop} {news : List (Addr × Obj)} (f : Nat → Str)
    (turn : ∀ c t I oI C oC D m₂ ys h tk (E' : Value → Shared → Prop), LCg.NsObj oC m₂ → m₂ x = some (.str ⟨#[c]⟩ t) → Fr h₀ L h m → News h₀ L h ((I, oI) :: (C, oC) :: (D, LCg.lst ys) :: news) → LCg.Off3 I C D news → ((@Ne Nat I C) ∧ (@Ne Nat I D) ∧ (@Ne Nat C D)) →
      wpAny (model prog w) A (eval elt (compEnvC scope cl C env)) (fun r s₂ => ∃ t' k', r = .str (f c) t' ∧ s₂ = { s with heap := h, toks := k' }) E' { s with heap := h, toks := tk })
    (fin : ∀ ys, CarriedAll ys (y.cps.toList.map fun c => PyData.str (f c)) → Fin ys news) :
    LCg.CompRest prog w A h₀ L m env elt x scope cl s (fun _ => True) (SignAt y) Fin y.cps.size 0 [] news := by
  have key : ∀ (j i : Nat) (ys : List Value), i + j = y.cps.size → StrsAre ys ((y.cps.toList.take i).map f) → LCg.CompRest prog w A h₀ L m env elt x scope cl s (fun _ => True) (SignAt y) Fin j i ys news := by
    intro j
    induction j with
    | zero =>
      intro i ys hi hy
      have e : i = y.cps.toList.length := by rw [Array.length_toList]; omega
      subst e
      rw [List.take_length] at hy
      have hc := hy.carried
      rw [List.map_map] at hc
      exact LCg.CompRest.zero (fin ys hc)
    | succ j ih =>
      intro i ys hi hy
      refine LCg.CompRest.succ ?_
      intro v I oI C oC D m₂ h tk E' hv hC hx F N off ne
      obtain ⟨c, u, hc, rfl⟩ := hv
      refine wpAny_mono (turn c u I oI C oC D m₂ ys h tk E' hC hx F N off ne) (fun r s₂ hq => ?_) fun _ _ e => e
      obtain ⟨t', k', rfl, rfl⟩ := hq
      refine ⟨h, k', news, rfl, F, N, off, trivial, ?_⟩
      refine ih (i + 1) _ (by omega) ?_
      rw [List.take_add_one, Array.getElem?_toList, hc]
      simpa using kct_snoc hy
  exact key y.cps.size 0 [] (by omega) (by simp only [List.take_zero, List.map_nil]; exact .nil)
end
end Mine
end

section
open PySem PySem.W PyProof.Rows
theorem Mine.freshLC1 : True ∧ True := by
  w_top off
  first
  | (walk1; fail)
  | exact ⟨True.intro, True.intro⟩
end

section -- LC1
open PySem PySem.W PyProof.Rows
set_option maxRecDepth 100000
set_option maxHeartbeats 2000000
set_option linter.unusedVariables false
namespace Mine
/-- a number's word -/
noncomputable def wordS (n : Int) : Str := if n.fmod 7 - 3 < 0 then Txt.mul (Txt.item "x\"\\#" ((n.fdiv 7).fmod 4)) (-(n.fmod 7 - 3)) ++ Txt.mul (Txt.item " \t\n\u2003" ((n.fdiv 7).fmod 4)) ((n.fdiv 28).fmod 3) else Txt.mul (Txt.item " \t\n\u2003" ((n.fdiv 7).fmod 4)) (n.fmod 7 - 3)
section
variable {fA : Addr} {cD : Value} {w : World} {p : Program} {loose : List Str} {mean : ExcName → Option Value} {mg mb : Str → Option Value} {g : Heap} {s : Shared} {fr : List Env} {L wd sz I : Addr} {vW vS : List Value} {nW nS : Nat} {n : Int} {tn tt : Tok} {tx : Str} {oI : Obj} {m : Str → Option Value}
theorem kw75 : True := by
  w_top off
  k_with "eval Name" => ((k_here; k_dflt (refine' nameX_L (by k_asm) (by first | assumption | rfl) ?_ (by rfl) (by rfl); k_whole)))
  exact True.intro
theorem item1 {A : Around} {E : Value → Shared → Prop} {value slice : PySem.Expr} {x : PySem.Str} {t u : Tok} {n : Nat} {i : Int} {Q : Value → Shared → Prop} {prog : Program} (hk : x.length = n) (h0 : -(n : Int) ≤ i) (h1 : i < (n : Int)) (hn : n ≤ 16777216) (h : ∀ t' k, (Txt.item x i).length = 1 → Q (.str (Txt.item x i) t') { s with toks := k })
    (hs : subscripted slice false (.str x t) (.int i u) = operate [.str x t, .int i u] (getItem (.str x t) (.int i u)) := by with_unfolding_all rfl)
    (ht : ∀ r, letTemporaryGo value (.str x t) r = pure () := by intro _; with_unfolding_all rfl) :
    wpAny (model prog w) A (subscriptTail value slice (.str x t) (.int i u)) Q E s := KXi.item hk h0 h1 hn (h _ _) hs ht
local macro_rules | `(tactic| walk_at "subscriptTail") => `(tactic| (k_here; (with_reducible show wpAny _ _ (subscriptTail _ _ (Value.str _ _) (Value.int _ _)) _ _ _); (refine item1 (by kxi_len) (by omega) (by omega) (by decide) ?_); intro _ _ kxiE; (try dsimp only)))
local macro_rules | `(tactic| walk_at "binaryOp Mult str int") => `(tactic| (k_here; (refine KXi.mul (n := 1) (by assumption) (by decide) (by omega) (by omega) ?_); intro _ _ kxiZ kxiN))
theorem num_a {Q : Flow → Shared → Prop} (X : (hd.heap_1 w.params).In g) (T : Top p loose mean mg mb g) (F : Fr g L s.heap m) {news : List (Addr × Obj)} (N : News g L s.heap news)
    (n0 : 0 ≤ n) (n1 : n < 168) (m1 : m "n" = some (.int n tn))
    (h : ∀ h' tk' m' t1 t2, Fr g L h' m' → News g L h' news → m' "word" = some (.str (wordS n) t1) → m' "size" = some (.int (n.fmod 7 - 3) t2) → m' "n" = m "n" → m' "words" = m "words" → m' "sizes" = m "sizes" → m' "text" = m "text" → Q .next { s with heap := h', toks := tk' }) :
    wpAny (model Challenge.rw_re0023_01.row.prog w) ((Ar 310 50 fr).deeper (lwEnv fA cD L)) (execs (lwNum.take 4) (lwEnv fA cD L)) Q (fun _ _ => False) s := by
  have f1 := fmod_lo n (n := 7) (by decide)
  have f2 := fmod_hi n (n := 7) (by decide)
  have f3 := fmod_lo (n.fdiv 7) (n := 4) (by decide)
  have f4 := fmod_hi (n.fdiv 7) (n := 4) (by decide)
  have f5 := fmod_lo (n.fdiv 28) (n := 3) (by decide)
  have f6 := fmod_hi (n.fdiv 28) (n := 3) (by decide)
  obtain ⟨h0, g0, d0, k0, o0⟩ := s
  dsimp only at F N h
  generalize hb : lwNum = b
  generalize hs : lwS = sc
  replace hb := hb.symm
  replace hs := hs.symm
  conv at hb => rhs; whnf
  conv at hs => rhs; whnf
  subst hb hs
  try dsimp only [List.take_succ_cons, List.take_zero]
  k_steps
  · have e : wordS n = _ := if_pos (by assumption)
    rw [e] at h
    rename News _ _ _ _ => NN
    rename Fr _ _ _ _ => FF
    exact h _ _ _ _ _ FF NN rfl rfl rfl rfl rfl rfl
  · have e : wordS n = _ := if_neg (by assumption)
    rw [e] at h
    rename News _ _ _ _ => NN
    rename Fr _ _ _ _ => FF
    exact h _ _ _ _ _ FF NN rfl rfl rfl rfl rfl rfl
end
theorem kw76 : True := by
  w_top off
  k_with_none
  exact True.intro
end Mine
end

section
open PySem PySem.W PyProof.Rows
theorem Mine.freshLC2 : True ∧ True := by
  w_top off
  first
  | (walk1; fail)
  | exact ⟨True.intro, True.intro⟩
end

section -- LC2
open PySem PySem.W PyProof.Rows
set_option maxRecDepth 100000
set_option maxHeartbeats 2000000
set_option linter.unusedVariables false
namespace Mine
section
variable {fA : Addr} {cD : Value} {w : World} {p : Program} {loose : List Str} {mean : ExcName → Option Value} {mg mb : Str → Option Value} {g : Heap} {s : Shared} {fr : List Env} {L wd sz : Addr} {vW vS : List Value} {nW nS : Nat} {m : Str → Option Value} {wv sv : Value} {rest : List (Addr × Obj)}
theorem kw77 : True := by
  w_top off
  k_with "eval Name" => ((k_here; k_dflt (refine' nameX_L (by k_asm) (by first | assumption | rfl) ?_ (by rfl) (by rfl); k_whole)))
  exact True.intro
theorem kw78 : True := by
  w_top off
  k_with "k_all" => (assumption)
  exact True.intro
theorem num_b {Q : Flow → Shared → Prop} (X : (hd.heap_1 w.params).In g) (T : Top p loose mean mg mb g) (F : Fr g L s.heap m) (N : News g L s.heap ((wd, listOf vW.toArray nW) :: (sz, listOf vS.toArray nS) :: rest))
    (d1 : @Ne Nat wd sz) (r1 : ∀ p ∈ rest, p.1 ≠ wd) (r2 : ∀ p ∈ rest, p.1 ≠ sz) (hW : vW.length < 100) (hS : vS.length < 100)
    (m1 : m "word" = some wv) (m2 : m "size" = some sv) (m3 : m "words" = some (.ref wd)) (m4 : m "sizes" = some (.ref sz))
    (h : ∀ h' tk', Fr g L h' m → News g L h' ((wd, listOf (vW ++ [wv]).toArray (nW + 1)) :: (sz, listOf (vS ++ [sv]).toArray (nS + 1)) :: rest) → Q .next { s with heap := h', toks := tk' }) :
    wpAny (model Challenge.rw_re0023_01.row.prog w) ((Ar 310 50 fr).deeper (lwEnv fA cD L)) (execs ((lwNum.drop 4).take 2) (lwEnv fA cD L)) Q (fun _ _ => False) s := by
  obtain ⟨h0, g0, d0, k0, o0⟩ := s
  dsimp only at F N h
  generalize hb : lwNum = b
  generalize hs : lwS = sc
  replace hb := hb.symm
  replace hs := hs.symm
  conv at hb => rhs; whnf
  conv at hs => rhs; whnf
  subst hb hs
  simp only [List.take_succ_cons, List.take_zero, List.drop_succ_cons, List.drop_zero]
  k_steps
  rename News _ _ _ _ => NN
  rename Fr _ _ _ _ => FF
  rw [List.push_toArray, List.push_toArray] at NN
  exact h _ _ FF NN
end
theorem kw79 : True := by
  w_top off
  k_with_none
  exact True.intro
end Mine
end

section
open PySem PySem.W PyProof.Rows
theorem Mine.freshLC3 : True ∧ True := by
  w_top off
  first
  | (walk1; fail)
  | exact ⟨True.intro, True.intro⟩
end

section -- LC3
open PySem PySem.W PyProof.Rows
set_option maxRecDepth 100000
set_option maxHeartbeats 2000000
set_option linter.unusedVariables false
namespace Mine
/-- a place where the walk is to stop -/
structure Stop (P : Prop) : Prop where
  it : P
/-- a name within a comprehension -/
theorem nameC {M : Model} {A : Around} {E : Value → Shared → Prop} {s : Shared} {h₀ : Heap} {L C : Addr} {oC : Obj} {m₂ : Str → Option Value} {scope : Scope} {cl : List (Str × Addr)} {env : Env} {x : Str} {pos : Pos} {v : Value} {news : List (Addr × Obj)} {Q : Value → Shared → Prop}
    (N : News h₀ L s.heap news) (hn : LCg.NsObj oC m₂) (hm : (C, oC) ∈ news) (hv : m₂ x = some v) (h : Q v s) (hk : scope.kind = .function := by rfl) (hx : scope.names.lookup x = some .local := by rfl) (hd : (x == ("__debug__" : Str)) = false := by decide) :
    wpAny M A (eval (.Name x pos) (compEnvC scope cl C env)) Q E s :=
  wpAny_Name (wpAny_loadName_local (by simp [compEnvC, relabel, hk]) (lookup_relabel_local hx) (hn.ns (N _ hm).1) hv h) hd
noncomputable def escB (c : Nat) : Str := ("\\" : Str) ++ ⟨#[c]⟩
noncomputable def escQ (c : Nat) : Str := if (34 = c ∨ 92 = c) then ("\\" : Str) ++ ⟨#[c]⟩ else ⟨#[c]⟩
theorem len_escB (c : Nat) : (escB c).length ≤ 2 := Nat.le_refl _
theorem len_escQ (c : Nat) : (escQ c).length ≤ 2 := by
  unfold escQ
  split
  · exact Nat.le_refl _
  · exact Nat.le_succ _
theorem len_join (l : List Str) : (Txt.join (Str.ofString "") l).length = (l.map (·.length)).sum := by
  show (Builtin.Str.glued (PySem.Str.ofString "") l).length = _
  rw [StrLaws.glued_eq_join]
  cases l with
  | nil => rfl
  | cons a r =>
    have z : (PySem.Str.ofString "").length = 0 := by decide
    rw [len_join_cons, z]
    simp
theorem len_join_le (f : Nat → Str) (hf : ∀ c, (f c).length ≤ 2) (l : List Nat) : (Txt.join (Str.ofString "") (l.map f)).length ≤ 2 * l.length := by
  rw [len_join]
  induction l with
  | nil => exact Nat.le_refl _
  | cons a r ih =>
    have := hf a
    simp only [List.map_cons, List.sum_cons, List.length_cons] at ih ⊢
    omega
theorem escQ_no {c : Nat} (h : (Builtin.Str.occurrences (Str.ofString "\"\\") { cps := #[c] } 0 (Str.ofString "\"\\").length 1).isEmpty = true) : escQ c = ⟨#[c]⟩ := by
  have e := StrLaws.found_one (Str.ofString "\"\\") c
  rw [h] at e
  have e2 : ¬ (c ∈ (Str.ofString "\"\\").cps.toList) := of_decide_eq_false e.symm
  have e3 : (Str.ofString "\"\\").cps.toList = [34, 92] := by decide +kernel
  rw [e3] at e2
  simp only [List.mem_cons, List.not_mem_nil, or_false] at e2
  exact if_neg (fun z => e2 (z.imp Eq.symm Eq.symm))
theorem escQ_yes {c : Nat} (h : (Builtin.Str.occurrences (Str.ofString "\"\\") { cps := #[c] } 0 (Str.ofString "\"\\").length 1).isEmpty = false) : escQ c = "\\" ++ ⟨#[c]⟩ := by
  have e := StrLaws.found_one (Str.ofString "\"\\") c
  rw [h] at e
  have e2 : (c ∈ (Str.ofString "\"\\").cps.toList) := of_decide_eq_true e.symm
  have e3 : (Str.ofString "\"\\").cps.toList = [34, 92] := by decide +kernel
  rw [e3] at e2
  simp only [List.mem_cons, List.not_mem_nil, or_false] at e2
  exact if_pos (e2.imp Eq.symm Eq.symm)
structure EltEnd (x : Str) (s : Shared) (r : Value) (s₂ : Shared) : Prop where
  it : ∃ t' k', r = .str x t' ∧ s₂ = { s with toks := k' }
/-- a number's piece of the text -/
noncomputable def pieceS (n : Int) (W : Str) : Str := if n.fdiv 84 = 1 ∧ (W == "") = false then Txt.join "" (W.cps.toList.map escB) ++ "\n" else ("\"" ++ Txt.join "" (W.cps.toList.map escQ)) ++ "\"\n"
section
variable {fA : Addr} {cD : Value} {w : World} {p : Program} {loose : List Str} {mean : ExcName → Option Value} {mg mb : Str → Option Value} {g : Heap} {s : Shared} {fr : List Env} {L wd sz I : Addr} {vW vS : List Value} {nW nS : Nat} {n : Int} {tn tt tw : Tok} {tx W : Str} {oI : Obj} {m : Str → Option Value}
theorem kw80 : True := by
  w_top off
  k_with "eval Name" => ((k_here; k_dflt (first | (refine' nameX_L (by k_asm) (by first | assumption | rfl) ?_ (by rfl) (by rfl); k_whole) | (refine' nameC (by k_asm) (by assumption) (by k_mem) (by assumption) ?_ (by rfl) (by rfl) (by decide); k_whole))))
  exact True.intro
theorem kw81 : True := by
  w_top off
  k_with "eval ListComp" => ((k_here; (try dsimp only); refine Stop.it ?_))
  exact True.intro
theorem num_c {Q : Flow → Shared → Prop} (X : (hd.heap_1 w.params).In g) (T : Top p loose mean mg mb g) (F : Fr g L s.heap m) {news : List (Addr × Obj)} (N : News g L s.heap news)
    (n0 : 0 ≤ n) (n1 : n < 168) (m1 : m "n" = some (.int n tn)) (m2 : m "word" = some (.str W tw)) (m3 : m "text" = some (.str tx tt)) (hW : W.length ≤ 5) (hx : tx.length < 200)
    (hq : ∀ h' tk' m' t1, Fr g L h' m' → News g L h' news → m' "text" = some (.str (tx ++ pieceS n W) t1) → m' "words" = m "words" → m' "sizes" = m "sizes" → Q .next { s with heap := h', toks := tk' }) :
    wpAny (model Challenge.rw_re0023_01.row.prog w) ((Ar 310 50 fr).deeper (lwEnv fA cD L)) (execs (lwNum.drop 6) (lwEnv fA cD L)) Q (fun _ _ => False) s := by
  have hWn : W.cps.size ≤ 5 := hW
  have hWs : W.cps.size ≤ sizeLine := by rw [sizeLine_eq]; omega
  obtain ⟨h0, g0, d0, k0, o0⟩ := s
  dsimp only at F N hq
  generalize hb : lwNum = b
  generalize hs : lwS = sc
  replace hb := hb.symm
  replace hs := hs.symm
  conv at hb => rhs; whnf
  conv at hs => rhs; whnf
  subst hb hs
  try dsimp only [List.drop_succ_cons, List.drop_zero]
  k_steps
  · refine Stop.mk ?_
    refine ListComp_S (m := m) (h₀ := g) (L := L) (y := W) (t := tw) (news := news) (by with_unfolding_all rfl) (by decide) rfl (by decide) rfl rfl ?_ hWs
    refine nameX_L F m2 ⟨rfl, F, N, fun g' => ?_⟩ rfl rfl
    refine sign_rest escB (fun c t I oI C oC D m₂ ys h tk E' hC hx2 F2 N2 off ne => ?_) (fun ys hc D h tk F2 N2 o1 => ?_)
    · clear F N
      dsimp only
      refine wpAny_mono (Q := EltEnd (escB c) ⟨h, g0, d0, tk, o0⟩) ?_ (fun _ _ q => ?_) (fun _ _ q => q)
      · k_steps
        exact ⟨⟨_, _, rfl, rfl⟩⟩
      · exact q.it
    · clear F N 
      dsimp only
      have lj := len_join_le escB len_escB W.cps.toList
      have lj2 : (Txt.join (Str.ofString "") (W.cps.toList.map escB)).length ≤ 10 := by rw [Array.length_toList] at lj; omega
      walk1
      refine KT.join_B (l := W.cps.toList) 2 (News.isList N2 (.head _)) (by assumption) (fun c _ => len_escB c) (by simp only [Array.length_toList]; omega) (by decide) ?_
      intro _ _
      dsimp only
      generalize hJ : Txt.join (Str.ofString "") (W.cps.toList.map escB) = J at lj2
      clear lj
      k_steps
      rename News _ _ _ _ => NN
      rename Fr _ _ _ _ => FF
      rename (W != _) = true => z1
      have e : pieceS n W = J ++ "\n" := (if_pos ⟨by assumption, by simpa [bne] using z1⟩).trans (by rw [← hJ])
      rw [e, ← PySem.Str.append_assoc] at hq
      exact hq _ _ _ _ FF (fun q hq => NN q (.tail _ hq)) rfl rfl rfl
  · refine Stop.mk ?_
    refine ListComp_S (m := m) (h₀ := g) (L := L) (y := W) (t := tw) (news := news) (by with_unfolding_all rfl) (by decide) rfl (by decide) rfl rfl ?_ hWs
    refine nameX_L F m2 ⟨rfl, F, N, fun g' => ?_⟩ rfl rfl
    refine sign_rest escQ (fun c t I oI C oC D m₂ ys h tk E' hC hx2 F2 N2 off ne => ?_) (fun ys hc D h tk F2 N2 o1 => ?_)
    · clear F N
      dsimp only
      refine wpAny_mono (Q := EltEnd (escQ c) ⟨h, g0, d0, tk, o0⟩) ?_ (fun _ _ q => ?_) (fun _ _ q => q)
      · k_steps
        all_goals first
          | (have e := escQ_yes (c := c) (by assumption); exact ⟨⟨_, _, by rw [e], rfl⟩⟩)
          | (have e := escQ_no (c := c) (by assumption); exact ⟨⟨_, _, by rw [e], rfl⟩⟩)
      · exact q.it
    · clear F N 
      dsimp only
      have lj := len_join_le escQ len_escQ W.cps.toList
      have lj2 : (Txt.join (Str.ofString "") (W.cps.toList.map escQ)).length ≤ 10 := by rw [Array.length_toList] at lj; omega
      walk1
      refine KT.join_B (l := W.cps.toList) 2 (News.isList N2 (.head _)) (by assumption) (fun c _ => len_escQ c) (by simp only [Array.length_toList]; omega) (by decide) ?_
      intro _ _
      dsimp only
      generalize hJ : Txt.join (Str.ofString "") (W.cps.toList.map escQ) = J at lj2
      clear lj
      k_steps
      rename News _ _ _ _ => NN
      rename Fr _ _ _ _ => FF
      rename (W != _) = false => z1
      have e : pieceS n W = ("\"" ++ J) ++ "\"\n" := (if_neg (fun z => by have z2 := z.2; rw [bne, z2] at z1; cases z1)).trans (by rw [← hJ])
      rw [e, ← PySem.Str.append_assoc, ← PySem.Str.append_assoc] at hq
      exact hq _ _ _ _ FF (fun q hq => NN q (.tail _ hq)) rfl rfl rfl
  · refine Stop.mk ?_
    refine ListComp_S (m := m) (h₀ := g) (L := L) (y := W) (t := tw) (news := news) (by with_unfolding_all rfl) (by decide) rfl (by decide) rfl rfl ?_ hWs
    refine nameX_L F m2 ⟨rfl, F, N, fun g' => ?_⟩ rfl rfl
    refine sign_rest escQ (fun c t I oI C oC D m₂ ys h tk E' hC hx2 F2 N2 off ne => ?_) (fun ys hc D h tk F2 N2 o1 => ?_)
    · clear F N
      dsimp only
      refine wpAny_mono (Q := EltEnd (escQ c) ⟨h, g0, d0, tk, o0⟩) ?_ (fun _ _ q => ?_) (fun _ _ q => q)
      · k_steps
        all_goals first
          | (have e := escQ_yes (c := c) (by assumption); exact ⟨⟨_, _, by rw [e], rfl⟩⟩)
          | (have e := escQ_no (c := c) (by assumption); exact ⟨⟨_, _, by rw [e], rfl⟩⟩)
      · exact q.it
    · clear F N 
      dsimp only
      have lj := len_join_le escQ len_escQ W.cps.toList
      have lj2 : (Txt.join (Str.ofString "") (W.cps.toList.map escQ)).length ≤ 10 := by rw [Array.length_toList] at lj; omega
      walk1
      refine KT.join_B (l := W.cps.toList) 2 (News.isList N2 (.head _)) (by assumption) (fun c _ => len_escQ c) (by simp only [Array.length_toList]; omega) (by decide) ?_
      intro _ _
      dsimp only
      generalize hJ : Txt.join (Str.ofString "") (W.cps.toList.map escQ) = J at lj2
      clear lj
      k_steps
      rename News _ _ _ _ => NN
      rename Fr _ _ _ _ => FF
      have e : pieceS n W = ("\"" ++ J) ++ "\"\n" := (if_neg (fun z => absurd z.1 (by assumption))).trans (by rw [← hJ])
      rw [e, ← PySem.Str.append_assoc, ← PySem.Str.append_assoc] at hq
      exact hq _ _ _ _ FF (fun q hq => NN q (.tail _ hq)) rfl rfl rfl
end
theorem kw82 : True := by
  w_top off
  k_with_none
  exact True.intro
end Mine
end

section
open PySem PySem.W PyProof.Rows
theorem Mine.freshM1 : True ∧ True := by
  w_top off
  first
  | (walk1; fail)
  | exact ⟨True.intro, True.intro⟩
end

section -- M1
set_option maxRecDepth 100000
namespace Mine
noncomputable def encN : List Nat → Nat
  | [] => 0
  | x :: l => 32 ^ x + encN l
noncomputable def decN : List Nat → List Nat
  | [] => []
  | 0 :: l => decN l
  | (x + 1) :: l => x :: decN l
theorem dec_len : ∀ l : List Nat, (decN l).length ≤ l.length
  | [] => Nat.le_refl _
  | 0 :: l => Nat.le_succ_of_le (dec_len l)
  | (_ + 1) :: l => Nat.succ_le_succ (dec_len l)
theorem enc_dec : ∀ l : List Nat, encN l = l.count 0 + 32 * encN (decN l)
  | [] => rfl
  | 0 :: l => by have := enc_dec l; simp only [encN, decN, List.count_cons_self]; omega
  | (x + 1) :: l => by
    have := enc_dec l
    simp only [encN, decN, Nat.pow_succ]
    rw [List.count_cons_of_ne (by omega)]
    omega
theorem count_dec : ∀ (l : List Nat) (v : Nat), l.count (v + 1) = (decN l).count v
  | [], _ => rfl
  | 0 :: l, v => by simp only [decN]; rw [List.count_cons_of_ne (by omega)]; exact count_dec l v
  | (x + 1) :: l, v => by
    simp only [decN, List.count_cons]
    rw [count_dec l v]
    simp
theorem enc_count : ∀ (v : Nat) (l k : List Nat), l.length < 32 → k.length < 32 → encN l = encN k → l.count v = k.count v
  | 0, l, k, hl, hk, e => by
    have a := enc_dec l; have b := enc_dec k
    have c1 : l.count 0 ≤ l.length := List.count_le_length
    have c2 : k.count 0 ≤ k.length := List.count_le_length
    omega
  | v + 1, l, k, hl, hk, e => by
    have a := enc_dec l; have b := enc_dec k
    have c1 : l.count 0 ≤ l.length := List.count_le_length
    have c2 : k.count 0 ≤ k.length := List.count_le_length
    have := dec_len l; have := dec_len k
    rw [count_dec, count_dec]
    exact enc_count v _ _ (by omega) (by omega) (by omega)
theorem enc_perm {l k : List Nat} (hl : l.length < 32) (hk : k.length < 32) (e : encN l = encN k) : l.Perm k :=
  List.perm_iff_count.mpr fun v => enc_count v l k hl hk e
noncomputable def leftsN (a b c d : Nat) : List Nat := [(((((((((((Nat.add 0 a).sub 3)).add d).sub 3)).add c).sub 3)).add b).sub 3), (((((((((((Nat.add 0 d).sub 3)).add c).sub 3)).add b).sub 3)).add a).sub 3), (((((((((((Nat.add 0 c).sub 3)).add b).sub 3)).add a).sub 3)).add d).sub 3), (((((((((((Nat.add 0 b).sub 3)).add a).sub 3)).add d).sub 3)).add c).sub 3), (((((((((((Nat.add 0 a).sub 3)).add c).sub 3)).add d).sub 3)).add b).sub 3), (((((((((((Nat.add 0 c).sub 3)).add d).sub 3)).add b).sub 3)).add a).sub 3), (((((((((((Nat.add 0 d).sub 3)).add b).sub 3)).add a).sub 3)).add c).sub 3), (((((((((((Nat.add 0 b).sub 3)).add a).sub 3)).add c).sub 3)).add d).sub 3), (((((((((((Nat.add 0 a).sub 3)).add c).sub 3)).add b).sub 3)).add d).sub 3), (((((((((((Nat.add 0 c).sub 3)).add b).sub 3)).add d).sub 3)).add a).sub 3), (((((((((((Nat.add 0 b).sub 3)).add d).sub 3)).add a).sub 3)).add c).sub 3), (((((((((((Nat.add 0 d).sub 3)).add a).sub 3)).add c).sub 3)).add b).sub 3), (((((((((((Nat.add 0 a).sub 3)).add d).sub 3)).add b).sub 3)).add c).sub 3), (((((((((((Nat.add 0 d).sub 3)).add b).sub 3)).add c).sub 3)).add a).sub 3), (((((((((((Nat.add 0 b).sub 3)).add c).sub 3)).add a).sub 3)).add d).sub 3), (((((((((((Nat.add 0 c).sub 3)).add a).sub 3)).add d).sub 3)).add b).sub 3), (((((((((((Nat.add 0 a).sub 3)).add b).sub 3)).add d).sub 3)).add c).sub 3), (((((((((((Nat.add 0 b).sub 3)).add d).sub 3)).add c).sub 3)).add a).sub 3), (((((((((((Nat.add 0 d).sub 3)).add c).sub 3)).add a).sub 3)).add b).sub 3), (((((((((((Nat.add 0 c).sub 3)).add a).sub 3)).add b).sub 3)).add d).sub 3), (((((((((((Nat.add 0 a).sub 3)).add b).sub 3)).add c).sub 3)).add d).sub 3), (((((((((((Nat.add 0 b).sub 3)).add c).sub 3)).add d).sub 3)).add a).sub 3), (((((((((((Nat.add 0 c).sub 3)).add d).sub 3)).add a).sub 3)).add b).sub 3), (((((((((((Nat.add 0 d).sub 3)).add a).sub 3)).add b).sub 3)).add c).sub 3)]
noncomputable def duesN (a b c d : Nat) : List Nat := [(Nat.add (Nat.add (Nat.sub a 3) (Nat.sub (Nat.add b d) 6)) (Nat.sub c 3)), (Nat.add (Nat.sub (Nat.add a d) 6) (Nat.sub (Nat.add b c) 6)), (Nat.add (Nat.add (Nat.sub (Nat.add a c) 6) (Nat.sub b 3)) (Nat.sub d 3)), (Nat.add (Nat.sub (Nat.add a b) 6) (Nat.sub (Nat.add c d) 6)), (Nat.add (Nat.sub a 3) (Nat.sub (Nat.add (Nat.add b c) d) 9)), (Nat.sub (Nat.add (Nat.add (Nat.add a c) b) d) 12), (Nat.add (Nat.sub (Nat.add (Nat.add a d) c) 9) (Nat.sub b 3)), (Nat.add (Nat.add (Nat.sub (Nat.add a b) 6) (Nat.sub c 3)) (Nat.sub d 3)), (Nat.add (Nat.add (Nat.sub a 3) (Nat.sub (Nat.add b c) 6)) (Nat.sub d 3)), (Nat.add (Nat.sub (Nat.add (Nat.add a c) d) 9) (Nat.sub b 3)), (Nat.sub (Nat.add (Nat.add (Nat.add a b) d) c) 12), (Nat.add (Nat.sub (Nat.add (Nat.add a d) b) 9) (Nat.sub c 3)), (Nat.add (Nat.sub a 3) (Nat.sub (Nat.add (Nat.add b d) c) 9)), (Nat.add (Nat.add (Nat.sub (Nat.add a d) 6) (Nat.sub b 3)) (Nat.sub c 3)), (Nat.add (Nat.sub (Nat.add (Nat.add a b) c) 9) (Nat.sub d 3)), (Nat.sub (Nat.add (Nat.add (Nat.add a c) d) b) 12), (Nat.add (Nat.add (Nat.sub a 3) (Nat.sub b 3)) (Nat.sub (Nat.add c d) 6)), (Nat.add (Nat.sub (Nat.add (Nat.add a b) d) 9) (Nat.sub c 3)), (Nat.sub (Nat.add (Nat.add (Nat.add a d) b) c) 12), (Nat.add (Nat.sub (Nat.add (Nat.add a c) b) 9) (Nat.sub d 3)), (Nat.add (Nat.add (Nat.add (Nat.sub a 3) (Nat.sub b 3)) (Nat.sub c 3)) (Nat.sub d 3)), (Nat.sub (Nat.add (Nat.add (Nat.add a b) c) d) 12), (Nat.add (Nat.sub (Nat.add a c) 6) (Nat.sub (Nat.add b d) 6)), (Nat.sub (Nat.add (Nat.add (Nat.add a d) c) b) 12)]
noncomputable def encL (a b c d : Nat) : Nat := (Nat.add (Nat.add (Nat.add (Nat.add (Nat.add (Nat.add (Nat.add (Nat.add (Nat.add (Nat.add (Nat.add (Nat.add (Nat.add (Nat.add (Nat.add (Nat.add (Nat.add (Nat.add (Nat.add (Nat.add (Nat.add (Nat.add (Nat.add (Nat.pow 32 (((((((((((Nat.add 0 a).sub 3)).add d).sub 3)).add c).sub 3)).add b).sub 3)) (Nat.pow 32 (((((((((((Nat.add 0 d).sub 3)).add c).sub 3)).add b).sub 3)).add a).sub 3))) (Nat.pow 32 (((((((((((Nat.add 0 c).sub 3)).add b).sub 3)).add a).sub 3)).add d).sub 3))) (Nat.pow 32 (((((((((((Nat.add 0 b).sub 3)).add a).sub 3)).add d).sub 3)).add c).sub 3))) (Nat.pow 32 (((((((((((Nat.add 0 a).sub 3)).add c).sub 3)).add d).sub 3)).add b).sub 3))) (Nat.pow 32 (((((((((((Nat.add 0 c).sub 3)).add d).sub 3)).add b).sub 3)).add a).sub 3))) (Nat.pow 32 (((((((((((Nat.add 0 d).sub 3)).add b).sub 3)).add a).sub 3)).add c).sub 3))) (Nat.pow 32 (((((((((((Nat.add 0 b).sub 3)).add a).sub 3)).add c).sub 3)).add d).sub 3))) (Nat.pow 32 (((((((((((Nat.add 0 a).sub 3)).add c).sub 3)).add b).sub 3)).add d).sub 3))) (Nat.pow 32 (((((((((((Nat.add 0 c).sub 3)).add b).sub 3)).add d).sub 3)).add a).sub 3))) (Nat.pow 32 (((((((((((Nat.add 0 b).sub 3)).add d).sub 3)).add a).sub 3)).add c).sub 3))) (Nat.pow 32 (((((((((((Nat.add 0 d).sub 3)).add a).sub 3)).add c).sub 3)).add b).sub 3))) (Nat.pow 32 (((((((((((Nat.add 0 a).sub 3)).add d).sub 3)).add b).sub 3)).add c).sub 3))) (Nat.pow 32 (((((((((((Nat.add 0 d).sub 3)).add b).sub 3)).add c).sub 3)).add a).sub 3))) (Nat.pow 32 (((((((((((Nat.add 0 b).sub 3)).add c).sub 3)).add a).sub 3)).add d).sub 3))) (Nat.pow 32 (((((((((((Nat.add 0 c).sub 3)).add a).sub 3)).add d).sub 3)).add b).sub 3))) (Nat.pow 32 (((((((((((Nat.add 0 a).sub 3)).add b).sub 3)).add d).sub 3)).add c).sub 3))) (Nat.pow 32 (((((((((((Nat.add 0 b).sub 3)).add d).sub 3)).add c).sub 3)).add a).sub 3))) (Nat.pow 32 (((((((((((Nat.add 0 d).sub 3)).add c).sub 3)).add a).sub 3)).add b).sub 3))) (Nat.pow 32 (((((((((((Nat.add 0 c).sub 3)).add a).sub 3)).add b).sub 3)).add d).sub 3))) (Nat.pow 32 (((((((((((Nat.add 0 a).sub 3)).add b).sub 3)).add c).sub 3)).add d).sub 3))) (Nat.pow 32 (((((((((((Nat.add 0 b).sub 3)).add c).sub 3)).add d).sub 3)).add a).sub 3))) (Nat.pow 32 (((((((((((Nat.add 0 c).sub 3)).add d).sub 3)).add a).sub 3)).add b).sub 3))) (Nat.pow 32 (((((((((((Nat.add 0 d).sub 3)).add a).sub 3)).add b).sub 3)).add c).sub 3)))
noncomputable def encD (a b c d : Nat) : Nat := (Nat.add (Nat.add (Nat.add (Nat.add (Nat.add (Nat.add (Nat.add (Nat.add (Nat.add (Nat.add (Nat.add (Nat.add (Nat.add (Nat.add (Nat.add (Nat.add (Nat.add (Nat.add (Nat.add (Nat.add (Nat.add (Nat.add (Nat.add (Nat.pow 32 (Nat.add (Nat.add (Nat.sub a 3) (Nat.sub (Nat.add b d) 6)) (Nat.sub c 3))) (Nat.pow 32 (Nat.add (Nat.sub (Nat.add a d) 6) (Nat.sub (Nat.add b c) 6)))) (Nat.pow 32 (Nat.add (Nat.add (Nat.sub (Nat.add a c) 6) (Nat.sub b 3)) (Nat.sub d 3)))) (Nat.pow 32 (Nat.add (Nat.sub (Nat.add a b) 6) (Nat.sub (Nat.add c d) 6)))) (Nat.pow 32 (Nat.add (Nat.sub a 3) (Nat.sub (Nat.add (Nat.add b c) d) 9)))) (Nat.pow 32 (Nat.sub (Nat.add (Nat.add (Nat.add a c) b) d) 12))) (Nat.pow 32 (Nat.add (Nat.sub (Nat.add (Nat.add a d) c) 9) (Nat.sub b 3)))) (Nat.pow 32 (Nat.add (Nat.add (Nat.sub (Nat.add a b) 6) (Nat.sub c 3)) (Nat.sub d 3)))) (Nat.pow 32 (Nat.add (Nat.add (Nat.sub a 3) (Nat.sub (Nat.add b c) 6)) (Nat.sub d 3)))) (Nat.pow 32 (Nat.add (Nat.sub (Nat.add (Nat.add a c) d) 9) (Nat.sub b 3)))) (Nat.pow 32 (Nat.sub (Nat.add (Nat.add (Nat.add a b) d) c) 12))) (Nat.pow 32 (Nat.add (Nat.sub (Nat.add (Nat.add a d) b) 9) (Nat.sub c 3)))) (Nat.pow 32 (Nat.add (Nat.sub a 3) (Nat.sub (Nat.add (Nat.add b d) c) 9)))) (Nat.pow 32 (Nat.add (Nat.add (Nat.sub (Nat.add a d) 6) (Nat.sub b 3)) (Nat.sub c 3)))) (Nat.pow 32 (Nat.add (Nat.sub (Nat.add (Nat.add a b) c) 9) (Nat.sub d 3)))) (Nat.pow 32 (Nat.sub (Nat.add (Nat.add (Nat.add a c) d) b) 12))) (Nat.pow 32 (Nat.add (Nat.add (Nat.sub a 3) (Nat.sub b 3)) (Nat.sub (Nat.add c d) 6)))) (Nat.pow 32 (Nat.add (Nat.sub (Nat.add (Nat.add a b) d) 9) (Nat.sub c 3)))) (Nat.pow 32 (Nat.sub (Nat.add (Nat.add (Nat.add a d) b) c) 12))) (Nat.pow 32 (Nat.add (Nat.sub (Nat.add (Nat.add a c) b) 9) (Nat.sub d 3)))) (Nat.pow 32 (Nat.add (Nat.add (Nat.add (Nat.sub a 3) (Nat.sub b 3)) (Nat.sub c 3)) (Nat.sub d 3)))) (Nat.pow 32 (Nat.sub (Nat.add (Nat.add (Nat.add a b) c) d) 12))) (Nat.pow 32 (Nat.add (Nat.sub (Nat.add a c) 6) (Nat.sub (Nat.add b d) 6)))) (Nat.pow 32 (Nat.sub (Nat.add (Nat.add (Nat.add a d) c) b) 12)))
noncomputable def n7 : List Nat := [0, 1, 2, 3, 4, 5, 6]
theorem encL_eq (a b c d : Nat) : encN (leftsN a b c d) = encL a b c d := by
  simp only [leftsN, encN, encL, Nat.add_eq, Nat.pow_eq, Nat.add_zero, Nat.add_assoc]
theorem encD_eq (a b c d : Nat) : encN (duesN a b c d) = encD a b c d := by
  simp only [duesN, encN, encD, Nat.add_eq, Nat.pow_eq, Nat.add_zero, Nat.add_assoc]
noncomputable def okAt (a : Nat) : Bool := n7.all fun b => n7.all fun c => n7.all fun d => Nat.beq (encL a b c d) (encD a b c d)
theorem ok0 : okAt 0 = true := by decide +kernel
theorem ok1 : okAt 1 = true := by decide +kernel
theorem ok2 : okAt 2 = true := by decide +kernel
theorem ok3 : okAt 3 = true := by decide +kernel
theorem ok4 : okAt 4 = true := by decide +kernel
theorem ok5 : okAt 5 = true := by decide +kernel
theorem ok6 : okAt 6 = true := by decide +kernel
end Mine
end

section
open PySem PySem.W PyProof.Rows
theorem Mine.freshM2 : True ∧ True := by
  w_top off
  first
  | (walk1; fail)
  | exact ⟨True.intro, True.intro⟩
end

section -- M2
open PySem PySem.W PyProof.Rows
set_option maxRecDepth 100000
set_option maxHeartbeats 2000000
set_option linter.unusedVariables false
namespace Mine
/-- a number's size -/
noncomputable abbrev sizeS (n : Int) : Int := n.fmod 7 - 3
/-- all that the law asks of a word -/
noncomputable def wordFacts (n : Int) : Bool :=
  decide ((wordS n).length ≤ 5) && (if sizeS n < 0 then (!(noteOf (wordS n) == "#")) && decide (((Txt.slice (noteOf (wordS n)) (some 2) none).length : Int) = -(sizeS n)) && decide ((wordS n).length ≠ 0) else (noteOf (wordS n) == "#") && decide (((wordS n).length : Int) = sizeS n)) 
noncomputable def allFacts : Nat → Bool
  | 0 => true
  | k + 1 => wordFacts (k : Int) && allFacts k
theorem allFacts168 : allFacts 168 = true := by decide +kernel
theorem facts_of : ∀ {N k : Nat}, allFacts N = true → k < N → wordFacts (k : Int) = true
  | N + 1, k, h, hk => by
    simp only [allFacts, Bool.and_eq_true] at h
    rcases Nat.lt_succ_iff_lt_or_eq.mp hk with hk | rfl
    · exact facts_of h.2 hk
    · exact h.1
theorem word_facts {n : Int} (h0 : 0 ≤ n) (h1 : n < 168) : wordFacts n = true := by
  obtain ⟨k, rfl⟩ := Int.eq_ofNat_of_zero_le h0
  exact facts_of allFacts168 (by omega)
end Mine
end

section
open PySem PySem.W PyProof.Rows
theorem Mine.freshLD : True ∧ True := by
  w_top off
  first
  | (walk1; fail)
  | exact ⟨True.intro, True.intro⟩
end

section -- LD
open PySem PySem.W PyProof.Rows
set_option maxRecDepth 100000
set_option maxHeartbeats 1000000
set_option linter.unusedVariables false
namespace Mine
theorem execs_wp {M : Model} {Γ : Ctx} {env : Env} {b : List Stmt} {Q : Flow → Pos → Shared → Prop} {E : Value → Pos → Shared → Prop} : ∀ (a : List Stmt) {p : Pos} {s : Shared},
    Sem.wp M Γ (execs a env) (fun f p' s' => match f with | .next => Sem.wp M Γ (execs b env) Q E p' s' | f => Q f p' s') E p s → Sem.wp M Γ (execs (a ++ b) env) Q E p s
  | [], p, s, h => h
  | st :: a, p, s, h => by
    rw [execs_cons, Sem.wp_bind'] at h
    rw [List.cons_append, execs_cons, Sem.wp_bind']
    refine Sem.wp_mono M Γ _ (fun f p' s' h' => ?_) (fun _ _ _ h' => h') _ _ h
    cases f
    · exact execs_wp a h'
    all_goals exact h'
theorem execs_app {M : Model} {A : Around} {E : Value → Shared → Prop} {env : Env} {b : List Stmt} {Q : Flow → Shared → Prop} (a : List Stmt) {s : Shared} (h : wpAny M A (execs a env) (fun f s' => match f with | .next => wpAny M A (execs b env) Q E s' | f => Q f s') E s) : wpAny M A (execs (a ++ b) env) Q E s := fun Γ p hΓ => by
  refine execs_wp a ?_
  refine Sem.wp_mono M Γ _ (fun f p' s' h' => ?_) (fun _ _ _ h' => h') _ _ (h Γ p hΓ)
  cases f
  · exact h' Γ p' hΓ
  all_goals exact h'
theorem execs_at {M : Model} {A : Around} {E : Value → Shared → Prop} {env : Env} {Q : Flow → Shared → Prop} (n : Nat) {l : List Stmt} {s : Shared} (h : wpAny M A (execs (l.take n) env) (fun f s' => match f with | .next => wpAny M A (execs (l.drop n) env) Q E s' | f => Q f s') E s) : wpAny M A (execs l env) Q E s := by
  have e := execs_app (l.take n) h
  rwa [List.take_append_drop] at e
theorem str_snoc {vs : List Value} {gs : List Str} (h : StrsAre vs gs) (a : Str) (t : Tok) : StrsAre (vs ++ [.str a t]) (gs ++ [a]) := kct_snoc h
noncomputable def textFrom (tx : Str) (l : List Int) : Str := l.foldl (fun t n => t ++ pieceS n (wordS n)) tx
theorem len_piece (n : Int) (W : Str) (h : W.length ≤ 5) : (pieceS n W).length ≤ 13 := by
  have h' : W.cps.toList.length ≤ 5 := by rw [Array.length_toList]; exact h
  have a := len_join_le escB len_escB W.cps.toList
  have b := len_join_le escQ len_escQ W.cps.toList
  have z1 : (Str.ofString "\n").length = 1 := by decide +kernel
  have z2 : (Str.ofString "\"").length = 1 := by decide +kernel
  have z3 : (Str.ofString "\"\n").length = 2 := by decide +kernel
  unfold pieceS
  split
  · rw [PySem.Str.length_append]; omega
  · rw [PySem.Str.length_append, PySem.Str.length_append]; omega
section
variable {fA : Addr} {cD : Value} {w : World} {p : Program} {loose : List Str} {mean : ExcName → Option Value} {mg mb : Str → Option Value} {g : Heap} {s : Shared} {fr : List Env} {L wd sz I nu : Addr} {vW vS : List Value} {nW nS : Nat} {n : Int} {tn tt tw : Tok} {tx W : Str} {it on : Obj} {m : Str → Option Value} {rest : List (Addr × Obj)}
theorem word_len {n : Int} (n0 : 0 ≤ n) (n1 : n < 168) : (wordS n).length ≤ 5 := by
  have f := word_facts n0 n1
  simp only [wordFacts, Bool.and_eq_true, decide_eq_true_eq] at f
  exact f.1
theorem num_turn {Q : Flow → Shared → Prop} (X : (hd.heap_1 w.params).In g) (T : Top p loose mean mg mb g) (F : Fr g L s.heap m)
    (N : News g L s.heap ((wd, listOf vW.toArray nW) :: (sz, listOf vS.toArray nS) :: rest))
    (d1 : @Ne Nat wd sz) (r1 : ∀ p ∈ rest, p.1 ≠ wd) (r2 : ∀ p ∈ rest, p.1 ≠ sz) (hW : vW.length < 100) (hS : vS.length < 100)
    (n0 : 0 ≤ n) (n1 : n < 168) (m1 : m "n" = some (.int n tn)) (m2 : m "words" = some (.ref wd)) (m3 : m "sizes" = some (.ref sz)) (m4 : m "text" = some (.str tx tt)) (hx : tx.length < 200)
    (hq : ∀ h' tk' m' t1 t2 t3, Fr g L h' m' → News g L h' ((wd, listOf (vW ++ [Value.str (wordS n) t1]).toArray (nW + 1)) :: (sz, listOf (vS ++ [Value.int (sizeS n) t2]).toArray (nS + 1)) :: rest) →
      m' "words" = some (.ref wd) → m' "sizes" = some (.ref sz) → m' "text" = some (.str (tx ++ pieceS n (wordS n)) t3) → Q .next { s with heap := h', toks := tk' }) :
    wpAny (model Challenge.rw_re0023_01.row.prog w) ((Ar 310 50 fr).deeper (lwEnv fA cD L)) (execs lwNum (lwEnv fA cD L)) Q (fun _ _ => False) s := by
  refine execs_at 4 (num_a X T F N n0 n1 m1 fun h' tk' m' t1 t2 F' N' a1 a2 a3 a4 a5 a6 => ?_)
  dsimp only
  refine execs_at 2 (num_b X T F' N' d1 r1 r2 hW hS a1 a2 (a4.trans m2) (a5.trans m3) fun h2 tk2 F2 N2 => ?_)
  dsimp only
  rw [List.drop_drop]
  refine num_c X T F2 N2 n0 n1 (a3.trans m1) a1 (a6.trans m4) (word_len n0 n1) hx fun h3 tk3 m3' t3 F3 N3 b1 b2 b3 => ?_
  exact hq _ _ _ _ _ _ F3 N3 (b2.trans (a4.trans m2)) (b3.trans (a5.trans m3)) b1
theorem nums_rest {Q : Flow → Shared → Prop} {lp : Addr × Obj} (X : (hd.heap_1 w.params).In g) (T : Top p loose mean mg mb g) (d1 : @Ne Nat wd sz) (r1 : ∀ p ∈ rest, p.1 ≠ wd) (r2 : ∀ p ∈ rest, p.1 ≠ sz) (i1 : @Ne Nat I wd) (i2 : @Ne Nat I sz) (i3 : ∀ p ∈ rest, p.1 ≠ I) (hlp : lp ∈ rest) :
    ∀ (ls : List Int) (vs : List Value) (done : List Int) (vW vS : List Value) (nW nS : Nat) (m : Str → Option Value) (tx : Str) (tt : Tok), IntsAre vs ls → (∀ n ∈ ls, 0 ≤ n ∧ n < 168) → StrsAre vW (done.map wordS) → IntsAre vS (done.map sizeS) →
      tx.length + 13 * ls.length < 200 → done.length + ls.length < 50 → m "words" = some (.ref wd) → m "sizes" = some (.ref sz) → m "text" = some (.str tx tt) →
      (∀ h tk m' vW' vS' nW' nS' t3, Fr g L h m' → News g L h ((wd, listOf vW'.toArray nW') :: (sz, listOf vS'.toArray nS') :: rest) → StrsAre vW' ((done ++ ls).map wordS) → IntsAre vS' ((done ++ ls).map sizeS) → m' "words" = some (.ref wd) → m' "sizes" = some (.ref sz) →
        m' "text" = some (.str (textFrom tx ls) t3) → Q .next { s with heap := h, toks := tk }) →
      ListRest Challenge.rw_re0023_01.row.prog w ((Ar 310 50 fr).deeper (lwEnv fA cD L)) (fun _ _ => False) g (lwEnv fA cD L) "n" lwNum Q s I lp vs m ((wd, listOf vW.toArray nW) :: (sz, listOf vS.toArray nS) :: rest) := by
  intro ls
  induction ls with
  | nil =>
    intro vs done vW vS nW nS m tx tt hv hl sW sS hx hd m2 m3 m4 hq
    cases hv
    refine ListRest.zero fun h tk F N => ?_
    rw [List.append_nil] at hq
    exact hq h tk m vW vS nW nS tt F N sW sS m2 m3 m4
  | cons n ls ih =>
    intro vs done vW vS nW nS m tx tt hv hl sW sS hx hd m2 m3 m4 hq
    obtain ⟨n0, n1⟩ := hl n (.head _)
    cases hv with
    | cons _ tn hv' =>
    rename_i vs
    have l1 : vW.length < 100 := by have := StrsAre.length sW; rw [List.length_map] at this; omega
    have l2 : vS.length < 100 := by have := sS.length; rw [List.length_map] at this; omega
    rw [List.length_cons] at hx hd
    have z := len_piece n (wordS n) (word_len n0 n1)
    refine ListRest.succ fun it h tk hc F N => ?_
    have N' : News g L h ((wd, listOf vW.toArray nW) :: (sz, listOf vS.toArray nS) :: (I, it) :: rest) := fun q hq => N q (by simp only [List.mem_cons] at hq ⊢; rcases hq with e | e | e | e <;> simp only [e, true_or, or_true])
    refine num_turn (tn := tn) (tt := tt) (s := { s with heap := h, toks := tk }) X T F N' d1 ?_ ?_ l1 l2 n0 n1 rfl m2 m3 m4 (by omega) fun h' tk' m' t1 t2 t3 F' N2 b1 b2 b3 => ?_
    · intro q hq
      rcases List.mem_cons.mp hq with rfl | hq
      · exact i1
      · exact r1 q hq
    · intro q hq
      rcases List.mem_cons.mp hq with rfl | hq
      · exact i2
      · exact r2 q hq
    refine ⟨h', tk', m', (wd, listOf (vW ++ [Value.str (wordS n) t1]).toArray (nW + 1)) :: (sz, listOf (vS ++ [Value.int (sizeS n) t2]).toArray (nS + 1)) :: rest, rfl, F', fun q hq => N2 q (by simp only [List.mem_cons] at hq ⊢; rcases hq with e | e | e | e <;> simp only [e, true_or, or_true]), ?_, .tail _ (.tail _ hlp), ?_⟩
    · intro q hq
      rcases List.mem_cons.mp hq with rfl | hq
      · exact Ne.symm i1
      · rcases List.mem_cons.mp hq with rfl | hq
        · exact Ne.symm i2
        · exact i3 q hq
    · refine ih vs (done ++ [n]) _ _ _ _ m' (tx ++ pieceS n (wordS n)) t3 hv' (fun k hk => hl k (.tail _ hk)) ?_ ?_ ?_ ?_ b1 b2 b3 ?_
      · rw [List.map_append]; exact str_snoc sW _ _
      · rw [List.map_append]; exact ints_snoc sS _ _
      · rw [PySem.Str.length_append]; omega
      · rw [List.length_append, List.length_singleton]; omega
      · intro h tk m' vW' vS' nW' nS' t3 F N sW' sS'
        rw [List.append_assoc, List.singleton_append] at sW' sS'
        exact hq h tk m' vW' vS' nW' nS' t3 F N sW' sS'
end
end Mine
end

section
open PySem PySem.W PyProof.Rows
theorem Mine.freshLE : True ∧ True := by
  w_top off
  first
  | (walk1; fail)
  | exact ⟨True.intro, True.intro⟩
end

section -- LE
open PySem PySem.W PyProof.Rows
set_option maxRecDepth 100000
set_option maxHeartbeats 1000000
set_option linter.unusedVariables false
namespace Mine
theorem lwB5 : ∃ p1 p2 p3, lwB.drop 5 = .For (.Name "n" p1) (.Name "numbers" p2) lwNum [] p3 :: lwB.drop 6 := ⟨_, _, _, by with_unfolding_all rfl⟩
section
variable {fA : Addr} {cD : Value} {w : World} {p : Program} {loose : List Str} {mean : ExcName → Option Value} {mg mb : Str → Option Value} {g : Heap} {s : Shared} {fr : List Env} {L wd sz I nu : Addr} {nW nS nN : Nat} {tt : Tok} {m : Str → Option Value} {rest : List (Addr × Obj)} {vN : List Value} {ls : List Int}
theorem law_5 {Q : Flow → Shared → Prop} (X : (hd.heap_1 w.params).In g) (T : Top p loose mean mg mb g) (F : Fr g L s.heap m)
    (N : News g L s.heap ((wd, listOf #[] nW) :: (sz, listOf #[] nS) :: rest))
    (d1 : @Ne Nat wd sz) (r1 : ∀ p ∈ rest, p.1 ≠ wd) (r2 : ∀ p ∈ rest, p.1 ≠ sz) (hnu : (nu, listOf vN.toArray nN) ∈ rest) (iN : IntsAre vN ls) (hl : ∀ n ∈ ls, 0 ≤ n ∧ n < 168) (h4 : ls.length = 4)
    (m1 : m "numbers" = some (.ref nu)) (m2 : m "words" = some (.ref wd)) (m3 : m "sizes" = some (.ref sz)) (m4 : m "text" = some (.str "" tt))
    (hq : ∀ h tk m' vW' vS' nW' nS' t3, Fr g L h m' → News g L h ((wd, listOf vW'.toArray nW') :: (sz, listOf vS'.toArray nS') :: rest) → StrsAre vW' (ls.map wordS) → IntsAre vS' (ls.map sizeS) → m' "words" = some (.ref wd) → m' "sizes" = some (.ref sz) →
        m' "text" = some (.str (textFrom "" ls) t3) → wpAny (model Challenge.rw_re0023_01.row.prog w) ((Ar 310 50 fr).deeper (lwEnv fA cD L)) (execs (lwB.drop 6) (lwEnv fA cD L)) Q (fun _ _ => False) { s with heap := h, toks := tk }) :
    wpAny (model Challenge.rw_re0023_01.row.prog w) ((Ar 310 50 fr).deeper (lwEnv fA cD L)) (execs (lwB.drop 5) (lwEnv fA cD L)) Q (fun _ _ => False) s := by
  obtain ⟨p1, p2, p3, e⟩ := lwB5
  rw [e]
  refine wpAny_execs_cons (For_invVF F rfl rfl (nameX_L F m1 ?_ rfl rfl))
  refine iter_listUnr (vs := vN) (news := ((wd, listOf #[] nW) :: (sz, listOf #[] nS) :: rest)) rfl F N (.tail _ (.tail _ hnu)) rfl rfl fun I hI => ?_
  have i1 : @Ne Nat I wd := Ne.symm (Nat.ne_of_lt (hI _ (.head _)))
  have i2 : @Ne Nat I sz := Ne.symm (Nat.ne_of_lt (hI _ (.tail _ (.head _))))
  have i3 : ∀ p ∈ rest, p.1 ≠ I := fun p hp => Nat.ne_of_lt (hI _ (.tail _ (.tail _ hp)))
  refine nums_rest X T d1 r1 r2 i1 i2 i3 hnu ls vN [] [] [] nW nS m "" tt iN hl .nil .nil (by rw [h4]; decide +kernel) (by rw [h4]; decide) m2 m3 m4 fun h tk m' vW' vS' nW' nS' t3 F' N' sW sS a2 a3 a4 => ?_
  exact hq h tk m' vW' vS' nW' nS' t3 F' N' sW sS a2 a3 a4
end
end Mine
end

section
open PySem PySem.W PyProof.Rows
theorem Mine.freshLF : True ∧ True := by
  w_top off
  first
  | (walk1; fail)
  | exact ⟨True.intro, True.intro⟩
end

section -- LF
open PySem PySem.W PyProof.Rows
set_option maxRecDepth 100000
set_option maxHeartbeats 1000000
set_option linter.unusedVariables false
namespace Mine
theorem news_ne {g h : Heap} {L a b : Addr} {o : Obj} {news : List (Addr × Obj)} (N : News g L h news) (hm : (a, o) ∈ news) (hb : h.get? b = none) : @Ne Nat a b := fun e => by
  have := (N _ hm).1
  rw [show (a, o).1 = b from e, hb] at this; cases this
/-- a ghost that holds one object more -/
theorem ghost_plus (g : Heap) {L P : Addr} (o : Obj) (ho : ∀ h : Heap, h.objs[P]? = some o → h.get? P = some o) (hP : @LT.lt Nat _ P L) (hs : g.objs.size ≤ L) :
    ∃ g' : Heap, g'.objs.size ≤ L ∧ ∀ b, g'.get? b = if @Eq Nat b P then some o else g.get? b := by
  let fr : Obj := { cls := .none, data := .freed }
  let f : Fin L → Obj := fun i => if i.val = P then o else (g.objs[i.val]?).getD fr
  refine ⟨⟨Array.ofFn f, g.life⟩, Nat.le_of_eq (Array.size_ofFn), fun b => ?_⟩
  by_cases hb : @Eq Nat b P
  · obtain rfl : b = P := hb
    rw [if_pos rfl]
    refine ho _ ?_
    show (Array.ofFn f)[b]? = some o
    rw [Array.getElem?_ofFn]
    have hP' : b < L := hP
    rw [dif_pos hP']
    show some (if b = b then o else _) = some o
    rw [if_pos rfl]
  · rw [if_neg hb]
    by_cases hl : @LT.lt Nat _ b L
    · have e1 : (Array.ofFn f)[b]? = some ((g.objs[b]?).getD fr) := by
        rw [Array.getElem?_ofFn]
        have hl' : b < L := hl
        rw [dif_pos hl']
        show some (if b = P then o else _) = _
        have hb' : ¬ b = P := hb
        rw [if_neg hb']
      show (match (Array.ofFn f)[b]? with | some ⟨_, _, .freed, _⟩ => none | o => o) = (match g.objs[b]? with | some ⟨_, _, .freed, _⟩ => none | o => o)
      rw [e1]
      cases g.objs[b]? with
      | none => rfl
      | some x => rfl
    · have n1 : g.get? b = none := Heap.get?_none_of_le (Nat.le_trans hs (Nat.le_of_not_lt hl))
      rw [n1]
      exact Heap.get?_none_of_le (Nat.le_trans (Nat.le_of_eq Array.size_ofFn) (Nat.le_of_not_lt hl))
section
variable {fA : Addr} {cD : Value} {w : World} {p : Program} {loose : List Str} {mean : ExcName → Option Value} {mg mb : Str → Option Value} {g : Heap} {s : Shared} {fr : List Env} {L wd sz : Addr} {nW nS : Nat} {tt : Tok} {m : Str → Option Value} {vW vS : List Value} {tx : Str} {o1 o2 o3 : Obj}
  {Q E : Value → Shared → Prop} {A : Around}
/-- law_lexer in a frame -/
theorem law_lexer_K {rest : List (Addr × Obj)} (F : Fr g L s.heap m) (X : (hd.heap_1 w.params).In g) (T : Top p loose mean mg mb g) (Cd : CodeHd g 160 156) (N : News g L s.heap ((156, tabObj #[]) :: rest)) (hr : ∀ q ∈ rest, @Ne Nat 156 q.1) (hL : @LT.lt Nat _ 156 L) (hx : tx.length < 1000)
    (a1 : A.handled = none) (a2 : A.depth ≤ 400) (a3 : A.units ≤ 100) (a4 : A.frames = some fr)
    (h : ∀ (g' : Heap) tab h' tk' (z : Lex) tl ti, (∀ b o, g.get? b = some o → g'.get? b = some o) → g'.get? 156 = some (tabObj tab) → z.Ok → z.x = tx → z.n = 0 → @LT.lt Nat _ z.mc z.pb → @LT.lt Nat _ z.dm z.mc → @LT.lt Nat _ z.aL z.dm → (∀ q ∈ ((z.pb, listOf #[] 0) :: z.objs w 1 0 tl ti), ∀ r ∈ rest, @Ne Nat r.1 q.1) → Fr g' L h' m → News g' L h' (rest ++ (z.pb, listOf #[] 0) :: z.objs w 1 0 tl ti) → Q (.ref z.mc) { s with heap := h', toks := tk' }) :
    wpAny (model Challenge.rw_re0023_01.row.prog w) A (call (.ref 161) [.str tx tt]) Q E s := by
  refine ar_any a1 a2 a3 a4 (law_lexer X T F.keep Cd (own_of N fun q hq => ?_) hx fun h' tk' z tl ti tab Z e1 e2 l1 l2 l3 fresh M => ?_)
  · simp only [List.mem_cons, List.not_mem_nil, or_false] at hq; subst hq; exact .head _
  have hl : ∀ q ∈ ((156, tabObj tab) :: (z.pb, listOf #[] 0) :: z.objs w 1 0 tl ti), g.get? q.1 = none ∧ q.1 ≠ L := by
    intro q hq
    rcases List.mem_cons.mp hq with rfl | hq
    · exact ⟨(N _ (.head _)).2.2, (N _ (.head _)).2.1⟩
    · have := fresh q hq
      refine ⟨?_, fun e => ?_⟩
      · cases z' : g.get? q.1 with
        | none => rfl
        | some o => have := F.keep _ _ z'; rw [fresh q hq] at this; cases this
      · obtain ⟨oL, b1, b2, hL, b3⟩ := F.ns
        rw [← e, this] at hL; cases hL
  have F' := fr_mod F hl M
  have N' : News g L h' ((156, tabObj tab) :: (rest ++ (z.pb, listOf #[] 0) :: z.objs w 1 0 tl ti)) := news_mod N hl M fun q hq => by
    rcases List.mem_cons.mp hq with rfl | hq
    · exact .inl (.head _)
    · rcases List.mem_append.mp hq with hq | hq
      · refine .inr ⟨.tail _ hq, fun r hr' => ?_⟩
        rcases List.mem_cons.mp hr' with rfl | hr'
        · exact hr q hq
        · exact Ne.symm (news_ne N (.tail _ hq) (fresh r hr'))
      · exact .inl (.tail _ hq)
  obtain ⟨g', sz', eq'⟩ := ghost_plus g (tabObj tab) (fun h e => by show (match h.objs[156]? with | some ⟨_, _, .freed, _⟩ => none | o => o) = _; rw [e]) hL F.above
  have n156 : g.get? 156 = none := (N' _ (.head _)).2.2
  have kp : ∀ b o, g.get? b = some o → g'.get? b = some o := fun b o e => by
    rw [eq' b, if_neg (fun hb => ?_)]
    · exact e
    · rw [show b = 156 from hb, n156] at e; cases e
  have e156 : g'.get? 156 = some (tabObj tab) := by rw [eq' 156, if_pos rfl]
  refine h g' tab h' tk' z tl ti kp e156 Z e1 e2 l1 l2 l3 (fun q hq r hr' => news_ne N (.tail _ hr') (fresh q hq)) ⟨F'.ns, fun b o e => ?_, sz'⟩ fun q hq => ?_
  · rw [eq' b] at e
    by_cases hb : @Eq Nat b 156
    · rw [if_pos hb] at e
      cases e
      rw [show b = 156 from hb]
      exact (N' _ (.head _)).1
    · rw [if_neg hb] at e
      exact F'.keep b o e
  · refine ⟨(N' q (.tail _ hq)).1, (N' q (.tail _ hq)).2.1, ?_⟩
    rw [eq' q.1, if_neg (fun hb => ?_)]
    · exact (N' q (.tail _ hq)).2.2
    · rcases List.mem_append.mp hq with hq | hq
      · exact hr q hq hb.symm
      · exact news_ne N (.head _) (fresh q hq) hb.symm
theorem kw83 : True := by
  w_top off
  k_with "eval Name" => ((k_here; k_dflt (refine' nameX_L (by k_asm) (by first | assumption | rfl) ?_ (by rfl) (by rfl); k_whole)))
  exact True.intro
theorem kw84 : True := by
  w_top off
  k_with "call ref" => ((k_here; (try dsimp only); refine Stop.it ?_))
  exact True.intro
theorem law_6 {Q : Flow → Shared → Prop} (X : (hd.heap_1 w.params).In g) (T : Top p loose mean mg mb g) (Cd : CodeHd g 160 156) (F : Fr g L s.heap m) (hL : @LT.lt Nat _ 156 L)
    (N : News g L s.heap [(156, tabObj #[]), (wd, listOf vW.toArray nW), (sz, listOf vS.toArray nS), (L + 3, o3), (L + 2, o2), (L + 1, o1)]) (h1 : @LT.lt Nat _ (L + 3) wd) (h2 : @LT.lt Nat _ (L + 3) sz) (hx : tx.length < 1000) (c1 : o1.data = .cell none)
    (m1 : m "text" = some (.str tx tt))
    (hq : ∀ (g' : Heap) tab h' tk' (z : Lex) tl ti o1', (∀ b o, g.get? b = some o → g'.get? b = some o) → g'.get? 156 = some (tabObj tab) → z.Ok → z.x = tx → z.n = 0 → @LT.lt Nat _ z.mc z.pb → @LT.lt Nat _ z.dm z.mc → @LT.lt Nat _ z.aL z.dm → (∀ q ∈ ((z.pb, listOf #[] 0) :: z.objs w 1 0 tl ti), ∀ r ∈ [(wd, listOf vW.toArray nW), (sz, listOf vS.toArray nS), (L + 3, o3), (L + 2, o2), (L + 1, o1)], @Ne Nat r.1 q.1) → o1'.data = .cell (some (.ref z.mc)) →
      Fr g' L h' m → News g' L h' ([(wd, listOf vW.toArray nW), (sz, listOf vS.toArray nS), (L + 3, o3), (L + 2, o2), (L + 1, o1')] ++ (z.pb, listOf #[] 0) :: z.objs w 1 0 tl ti) → Q .next { s with heap := h', toks := tk' }) :
    wpAny (model Challenge.rw_re0023_01.row.prog w) ((Ar 310 50 fr).deeper (lwEnv fA cD L)) (execs ((lwB.drop 6).take 1) (lwEnv fA cD L)) Q (fun _ _ => False) s := by
  obtain ⟨h0, g0, d0, k0, o0⟩ := s
  dsimp only at F N hq
  generalize hb : (lwB.drop 6).take 1 = b
  generalize hs : lwS = sc
  replace hb := hb.symm
  replace hs := hs.symm
  conv at hb => rhs; whnf
  conv at hs => rhs; whnf
  subst hb hs
  try dsimp only [List.take_zero]
  k_steps
  refine Stop.mk ?_
  refine law_lexer_K F X T Cd N (by
    intro q hq
    simp only [List.mem_cons, List.not_mem_nil, or_false] at hq
    rcases hq with rfl | rfl | rfl | rfl | rfl <;> (dsimp only; omega)) hL hx rfl (Nat.le_of_ble_eq_true rfl) (Nat.le_of_ble_eq_true rfl) rfl fun g' tab h' tk' z tl ti kp e156 Z e1 e2 l1 l2 l3 off F' N' => ?_
  dsimp only
  have u1 : UpdF (L + 1) o1 ([(wd, listOf vW.toArray nW), (sz, listOf vS.toArray nS), (L + 3, o3), (L + 2, o2), (L + 1, o1)] ++ (z.pb, listOf #[] 0) :: z.objs w 1 0 tl ti) (fun o' => (wd, listOf vW.toArray nW) :: (sz, listOf vS.toArray nS) :: (L + 3, o3) :: (L + 2, o2) :: (L + 1, o') :: ((z.pb, listOf #[] 0) :: z.objs w 1 0 tl ti)) := by
    refine .tail (neN (by dsimp only; omega)) (.tail (neN (by dsimp only; omega)) (.tail (neN (by dsimp only; omega)) (.tail (neN (by dsimp only; omega)) (.head fun q hq => ?_))))
    exact Ne.symm (off q hq (L + 1, o1) (by simp))
  refine storeX_C F' N' rfl u1 c1 (fun h2 o' F2 N2 c' => ?_) rfl rfl
  dsimp only at N2 ⊢
  refine wpAny_execs_nil ?_
  exact hq g' tab h2 tk' z tl ti o' kp e156 Z e1 e2 l1 l2 l3 off c' F2 N2
end
theorem kw85 : True := by
  w_top off
  k_with_none
  exact True.intro
end Mine
end

section
open PySem PySem.W PyProof.Rows
theorem Mine.freshLG : True ∧ True := by
  w_top off
  first
  | (walk1; fail)
  | exact ⟨True.intro, True.intro⟩
end

section -- LG
open PySem PySem.W PyProof.Rows
set_option maxRecDepth 100000
set_option maxHeartbeats 1000000
set_option linter.unusedVariables false
namespace Mine
theorem lineAt_10 (l : Int) : lineAt l 10 = l + 1 := if_pos (by decide +kernel)
theorem lineAt_ne {c : Nat} (l : Int) (h : c ≠ 10) : lineAt l c = l := if_neg (fun e => h (by
  have e1 : (⟨#[c]⟩ : Str) = "\n" := by simpa using e
  have e2 : ("\n" : Str) = ⟨#[10]⟩ := by decide +kernel
  rw [e2] at e1
  injection e1 with e1
  simpa using e1))
theorem lines_count (xs : List Nat) (l : Int) : xs.foldl lineAt l = l + (xs.count 10 : Int) := by
  induction xs generalizing l with
  | nil => simp
  | cons c r ih =>
    rw [List.foldl_cons, ih]
    by_cases h : c = 10
    · subst h; rw [lineAt_10, List.count_cons_self]; omega
    · rw [lineAt_ne l h, List.count_cons_of_ne h]
theorem encQ_count (xs : List Nat) : (encQ xs).count 10 = xs.count 10 := by
  induction xs with
  | nil => rfl
  | cons c r ih =>
    rw [encQ, List.count_append, ih, List.count_cons]
    by_cases h : c = 34 ∨ c = 92
    · rw [if_pos h]
      rcases h with rfl | rfl <;> simp
    · rw [if_neg h, List.count_singleton]; omega
theorem encB_count (xs : List Nat) : (encB xs).count 10 = xs.count 10 := by
  induction xs with
  | nil => rfl
  | cons c r ih =>
    rw [encB, List.count_cons_of_ne (by decide), List.count_cons, List.count_cons, ih]
/-- a number's piece, its signs -/
noncomputable def wordL (n : Int) : List Nat := (wordS n).cps.toList
noncomputable def pieceL (n : Int) : List Nat := (pieceS n (wordS n)).cps.toList
theorem join_fold (r : List Str) : ∀ acc : Array Nat, (r.foldl (fun acc p => acc ++ (Str.ofString "").cps ++ p.cps) acc).toList = acc.toList ++ r.flatMap (fun y : Str => y.cps.toList) := by
  have z : (Str.ofString "").cps.toList = [] := by decide +kernel
  induction r with
  | nil => intro acc; simp
  | cons a r ih =>
    intro acc
    rw [List.foldl_cons, ih, Array.toList_append, Array.toList_append, z, List.append_nil, List.flatMap_cons, List.append_assoc]
theorem join_cps (l : List Str) : (Txt.join (Str.ofString "") l).cps.toList = l.flatMap (fun y : Str => y.cps.toList) := by
  show (Builtin.Str.glued (PySem.Str.ofString "") l).cps.toList = _
  unfold Builtin.Str.glued
  cases l with
  | nil => rfl
  | cons a r =>
    rw [List.flatMap_cons]
    exact join_fold r a.cps
theorem escB_cps (c : Nat) : (escB c).cps.toList = [92, c] := by
  have z : (Str.ofString "\\").cps.toList = [92] := by decide +kernel
  unfold escB
  rw [PySem.Str.cps_append, Array.toList_append, z]; rfl
theorem escQ_cps (c : Nat) : (escQ c).cps.toList = if c = 34 ∨ c = 92 then [92, c] else [c] := by
  unfold escQ
  by_cases h : c = 34 ∨ c = 92
  · rw [if_pos h, if_pos (h.imp Eq.symm Eq.symm)]; exact escB_cps c
  · rw [if_neg h, if_neg (fun e => h (e.imp Eq.symm Eq.symm))]
theorem flat_escB (l : List Nat) : (l.map escB).flatMap (fun y : Str => y.cps.toList) = encB l := by
  induction l with
  | nil => rfl
  | cons c r ih => rw [List.map_cons, List.flatMap_cons, ih, escB_cps]; rfl
theorem flat_escQ (l : List Nat) : (l.map escQ).flatMap (fun y : Str => y.cps.toList) = encQ l := by
  induction l with
  | nil => rfl
  | cons c r ih => rw [List.map_cons, List.flatMap_cons, ih, escQ_cps]; rfl
theorem empty_iff (W : Str) : (W == "") = false ↔ W.cps.toList ≠ [] := by
  constructor
  · intro h e
    have : W = "" := by
      have e2 : ("" : Str) = ⟨#[]⟩ := by decide +kernel
      rw [e2]
      obtain ⟨c⟩ := W
      simp only [Array.toList_eq_nil_iff] at e
      rw [e]
    rw [this] at h
    exact absurd h (by decide +kernel)
  · intro h
    cases q : (W == "") with
    | false => rfl
    | true =>
      exfalso
      apply h
      have : W = "" := by simpa using q
      rw [this]; decide +kernel
theorem pieceL_bare {n : Int} (h1 : n.fdiv 84 = 1) (h2 : wordL n ≠ []) : pieceL n = encB (wordL n) ++ [10] := by
  unfold pieceL pieceS
  rw [if_pos ⟨h1, (empty_iff _).mpr h2⟩, PySem.Str.cps_append, Array.toList_append, join_cps, flat_escB]
  have z : (Str.ofString "\n").cps.toList = [10] := by decide +kernel
  rw [z]; rfl
theorem pieceL_quoted {n : Int} (h : ¬ (n.fdiv 84 = 1 ∧ wordL n ≠ [])) : pieceL n = 34 :: (encQ (wordL n) ++ [34, 10]) := by
  unfold pieceL pieceS
  rw [if_neg (fun e => h ⟨e.1, (empty_iff _).mp e.2⟩), PySem.Str.cps_append, PySem.Str.cps_append, Array.toList_append, Array.toList_append, join_cps, flat_escQ]
  have z : (Str.ofString "\"\n").cps.toList = [34, 10] := by decide +kernel
  have z2 : (Str.ofString "\"").cps.toList = [34] := by decide +kernel
  rw [z, z2]; rfl
theorem text_cps (l : List Int) : ∀ tx : Str, (textFrom tx l).cps.toList = tx.cps.toList ++ l.flatMap pieceL := by
  induction l with
  | nil => intro tx; simp [textFrom]
  | cons n l ih =>
    intro tx
    show (textFrom (tx ++ pieceS n (wordS n)) l).cps.toList = _
    rw [ih, PySem.Str.cps_append, Array.toList_append, List.flatMap_cons, List.append_assoc]
    rfl

/-- the lexer's objects, its pushed-back list empty -/
noncomputable def ZL (z : Lex) (w : World) (n : Nat) (l k : Int) (tl ti : Tok) : List (Addr × Obj) := (z.pb, listOf #[] n) :: z.objs w l k tl ti
theorem drop_more {xs pre y r : List Nat} {k : Nat} (h : xs.drop k = pre ++ (y ++ r)) : xs.drop (k + pre.length + y.length) = r := by
  rw [Nat.add_assoc, ← List.drop_drop, h, ← List.append_assoc, ← List.length_append, List.drop_left]
section
variable {fA : Addr} {cD : Value} {w : World} {p : Program} {loose : List Str} {mean : ExcName → Option Value} {mg mb : Str → Option Value} {hB g : Heap} {s : Shared} {fr : List Env} {L : Addr} {m : Str → Option Value} {A : Around}
  {Q E : Value → Shared → Prop} {z : Lex} {l : Int} {tl ti : Tok} {nb k : Nat} {n : Int} {pre r : List Nat}
theorem get_word (Z : z.Ok) (hp1 : @Ne Nat z.pb z.aL) (hp2 : @Ne Nat z.pb z.dm) (X : (hd.heap_1 w.params).In hB) (T : Top p loose mean mg mb hB) (hE : Ext hB s.heap) (hO : Own hB s.heap (ZL z w nb l k tl ti))
    (n0 : 0 ≤ n) (n1 : n < 168) (hpre : ∀ c ∈ pre, c = 10) (hd : z.x.cps.toList.drop k = pre ++ (pieceL n ++ r))
    (hret : ∀ h' tk' t1 t2 t3 (l' : Int) (k' : Nat) (pre' : List Nat), Mod s.heap h' [(z.aL, listOf #[.int k' t1] z.n), (z.dm, z.dict w (.int l' t2))] → (∀ c ∈ pre', c = 10) → z.x.cps.toList.drop k' = pre' ++ r →
      l' + (pre'.count 10 : Int) = l + (pre.count 10 : Int) + ((pieceL n).count 10 : Int) → k' + pre'.length = k + pre.length + (pieceL n).length → Q (.str (wordS n) t3) { s with heap := h', toks := tk' }) :
    wpAny (model Challenge.rw_re0023_01.row.prog w) (Ar 430 130 fr) (call (.ref 140) [.ref z.mc]) Q E s := by
  have hlen : (wordL n).length < 90 := by have := word_len n0 n1; unfold wordL; rw [Array.length_toList]; simp only [PySem.Str.length] at this; omega
  have hw : (⟨(wordL n).toArray⟩ : Str) = wordS n := by unfold wordL; rw [Array.toArray_toList]
  by_cases hc : n.fdiv 84 = 1 ∧ wordL n ≠ []
  · have e := pieceL_bare hc.1 hc.2
    cases hW : wordL n with
    | nil => exact absurd hW hc.2
    | cons c1 W =>
      rw [hW] at e hlen hw
      have hd2 : z.x.cps.toList.drop k = pre ++ (encB (c1 :: W) ++ 10 :: r) := by rw [hd, e, List.append_assoc]; rfl
      refine get_bare Z hp1 hp2 X T hE hO hpre hd2 (Nat.lt_of_succ_lt hlen) fun h' tk' t1 t2 t3 M => ?_
      rw [hw]
      refine hret h' tk' t1 t2 t3 _ _ [] M (fun c hc => nomatch hc) ?_ ?_ ?_
      · have := drop_more (pre := pre) (y := encB (c1 :: W) ++ [10]) (r := r) (hd2.trans (by simp only [List.append_assoc, List.singleton_append]))
        rw [List.length_append, List.length_singleton, ← Nat.add_assoc] at this
        exact this
      · rw [lineAt_10, lines_count, lines_count, e, List.count_append, encB_count]
        simp only [List.count_nil, List.count_singleton_self]
        omega
      · rw [e, List.length_append, List.length_singleton, List.length_nil]; omega
  · have e := pieceL_quoted hc
    have hd2 : z.x.cps.toList.drop k = pre ++ (34 :: (encQ (wordL n) ++ 34 :: (10 :: r))) := by
      rw [hd, e]; simp only [List.cons_append, List.append_assoc, List.nil_append]
    refine get_quoted Z hp1 hp2 X T hE hO hpre hd2 hlen fun h' tk' t1 t2 t3 M => ?_
    rw [hw]
    refine hret h' tk' t1 t2 t3 _ _ [10] M (by simp) ?_ ?_ ?_
    · have := drop_more (pre := pre) (y := 34 :: (encQ (wordL n) ++ [34])) (r := 10 :: r) (hd2.trans (by simp only [List.cons_append, List.append_assoc, List.nil_append]))
      rw [List.length_cons, List.length_append, List.length_singleton] at this
      have e3 : k + pre.length + ((encQ (wordL n)).length + 1 + 1) = k + pre.length + (encQ (wordL n)).length + 2 := by omega
      rw [e3] at this
      exact this
    · have e4 : List.count 10 [34, 10] = 1 := by decide
      have e5 : List.count 10 [10] = 1 := by decide
      have e6 : List.count 10 (34 :: (encQ (wordL n) ++ [34, 10])) = List.count 10 (wordL n) + 1 := by rw [List.count_cons_of_ne (by decide), List.count_append, encQ_count, e4]
      rw [lines_count, lines_count, e, e5, e6]
      omega
    · simp only [e, List.length_cons, List.length_append, List.length_nil]; omega
end
end Mine
end

section
open PySem PySem.W PyProof.Rows
theorem Mine.freshLH : True ∧ True := by
  w_top off
  first
  | (walk1; fail)
  | exact ⟨True.intro, True.intro⟩
end

section -- LH
open PySem PySem.W PyProof.Rows
set_option maxRecDepth 100000
set_option maxHeartbeats 1000000
set_option linter.unusedVariables false
namespace Mine
section
variable {fA : Addr} {cD : Value} {w : World} {p : Program} {loose : List Str} {mean : ExcName → Option Value} {mg mb : Str → Option Value} {hB g : Heap} {s : Shared} {fr : List Env} {L : Addr} {m : Str → Option Value} {A : Around}
  {Q E : Value → Shared → Prop} {z : Lex} {l : Int} {tl ti : Tok} {nb k : Nat} {n : Int} {pre r : List Nat} {rest : List (Addr × Obj)}
theorem zl_mod {h' : Heap} {l' : Int} {k' : Nat} {t1 t2 : Tok} (Z : z.Ok) (hp1 : @Ne Nat z.pb z.aL) (hp2 : @Ne Nat z.pb z.dm) (off : ∀ q ∈ rest, @Ne Nat z.aL q.1 ∧ @Ne Nat z.dm q.1) (F : Fr g L s.heap m) (N : News g L s.heap (ZL z w nb l k tl ti ++ rest))
    (M : Mod s.heap h' [(z.aL, listOf #[.int k' t1] z.n), (z.dm, z.dict w (.int l' t2))]) : Fr g L h' m ∧ News g L h' (ZL z w nb l' k' t2 t1 ++ rest) := by
  have nA := N (z.aL, listOf #[.int (k : Int) ti] z.n) (List.mem_append_left _ (.tail _ (.head _)))
  have nD := N (z.dm, z.dict w (.int l tl)) (List.mem_append_left _ (.tail _ (.tail _ (.head _))))
  have hl : ∀ x ∈ [(z.aL, listOf #[.int k' t1] z.n), (z.dm, z.dict w (.int l' t2))], g.get? x.1 = none ∧ x.1 ≠ L := all_cons ⟨nA.2.2, nA.2.1⟩ (all_cons ⟨nD.2.2, nD.2.1⟩ all_nil)
  have far : ∀ {x : Addr × Obj}, x ∈ ZL z w nb l k tl ti ++ rest → @Ne Nat z.aL x.1 → @Ne Nat z.dm x.1 → x ∈ [(z.aL, listOf #[.int k' t1] z.n), (z.dm, z.dict w (.int l' t2))] ∨ (x ∈ ZL z w nb l k tl ti ++ rest ∧ ∀ r ∈ [(z.aL, listOf #[.int k' t1] z.n), (z.dm, z.dict w (.int l' t2))], r.1 ≠ x.1) :=
    fun hx h1 h2 => .inr ⟨hx, all_cons h1 (all_cons h2 all_nil)⟩
  refine ⟨fr_mod F hl M, news_mod N hl M (all_append ?_ fun x hx => far (List.mem_append_right _ hx) (off _ hx).1 (off _ hx).2)⟩
  refine all_cons (far (List.mem_append_left _ (.head _)) (Ne.symm hp1) (Ne.symm hp2)) ?_
  refine all_cons (.inl (.head _)) ?_
  refine all_cons (.inl (.tail _ (.head _))) ?_
  refine all_cons (far (List.mem_append_left _ (.tail _ (.tail _ (.tail _ (.head _))))) Z.a2 Z.d2) ?_
  refine all_cons (far (List.mem_append_left _ (.tail _ (.tail _ (.tail _ (.tail _ (.head _)))))) Z.a3 Z.d3) ?_
  refine all_cons (far (List.mem_append_left _ (.tail _ (.tail _ (.tail _ (.tail _ (.tail _ (.head _))))))) Z.a4 Z.d4) ?_
  refine all_cons (far (List.mem_append_left _ (.tail _ (.tail _ (.tail _ (.tail _ (.tail _ (.tail _ (.head _)))))))) Z.a5 Z.d5) ?_
  refine all_cons (far (List.mem_append_left _ (.tail _ (.tail _ (.tail _ (.tail _ (.tail _ (.tail _ (.tail _ (.head _))))))))) Z.a6 Z.d6) ?_
  refine all_cons (far (List.mem_append_left _ (.tail _ (.tail _ (.tail _ (.tail _ (.tail _ (.tail _ (.tail _ (.tail _ (.head _)))))))))) Z.a7 Z.d7) ?_
  refine all_cons (far (List.mem_append_left _ (.tail _ (.tail _ (.tail _ (.tail _ (.tail _ (.tail _ (.tail _ (.tail _ (.tail _ (.head _))))))))))) Z.a8 Z.d8) ?_
  exact all_nil
theorem get_word_K (Z : z.Ok) (hp1 : @Ne Nat z.pb z.aL) (hp2 : @Ne Nat z.pb z.dm) (off : ∀ q ∈ rest, @Ne Nat z.aL q.1 ∧ @Ne Nat z.dm q.1) (F : Fr g L s.heap m) (X : (hd.heap_1 w.params).In g) (T : Top p loose mean mg mb g) (N : News g L s.heap (ZL z w nb l k tl ti ++ rest))
    (n0 : 0 ≤ n) (n1 : n < 168) (hpre : ∀ c ∈ pre, c = 10) (hd : z.x.cps.toList.drop k = pre ++ (pieceL n ++ r))
    (a1 : A.handled = none) (a2 : A.depth ≤ 430) (a3 : A.units ≤ 130) (a4 : A.frames = some fr)
    (hret : ∀ h' tk' t1 t2 t3 (l' : Int) (k' : Nat) (pre' : List Nat), Fr g L h' m → News g L h' (ZL z w nb l' k' t2 t1 ++ rest) → (∀ c ∈ pre', c = 10) → z.x.cps.toList.drop k' = pre' ++ r →
      l' + (pre'.count 10 : Int) = l + (pre.count 10 : Int) + ((pieceL n).count 10 : Int) → k' + pre'.length = k + pre.length + (pieceL n).length → Q (.str (wordS n) t3) { s with heap := h', toks := tk' }) :
    wpAny (model Challenge.rw_re0023_01.row.prog w) A (call (.ref 140) [.ref z.mc]) Q E s := by
  refine ar_any a1 a2 a3 a4 (get_word Z hp1 hp2 X T F.keep (own_of N fun q hq => List.mem_append_left _ hq) n0 n1 hpre hd fun h' tk' t1 t2 t3 l' k' pre' M e1 e2 e3 e4 => ?_)
  obtain ⟨F', N'⟩ := zl_mod Z hp1 hp2 off F N M
  exact hret h' tk' t1 t2 t3 l' k' pre' F' N' e1 e2 e3 e4
theorem get_end_K (Z : z.Ok) (hp1 : @Ne Nat z.pb z.aL) (hp2 : @Ne Nat z.pb z.dm) (off : ∀ q ∈ rest, @Ne Nat z.aL q.1 ∧ @Ne Nat z.dm q.1) (F : Fr g L s.heap m) (X : (hd.heap_1 w.params).In g) (T : Top p loose mean mg mb g) (N : News g L s.heap (ZL z w nb l k tl ti ++ rest))
    (hpre : ∀ c ∈ pre, c = 10) (hd : z.x.cps.toList.drop k = pre ++ []) (hk : k + pre.length = z.x.length)
    (a1 : A.handled = none) (a2 : A.depth ≤ 430) (a3 : A.units ≤ 130) (a4 : A.frames = some fr)
    (hret : ∀ h' tk' t1 t2 t3, Fr g L h' m → News g L h' (ZL z w nb (l + (pre.count 10 : Int)) (z.x.length : Nat) t2 t1 ++ rest) → Q (.str "" t3) { s with heap := h', toks := tk' }) :
    wpAny (model Challenge.rw_re0023_01.row.prog w) A (call (.ref 140) [.ref z.mc]) Q E s := by
  refine ar_any a1 a2 a3 a4 (get_end Z hp1 hp2 X T F.keep (own_of N fun q hq => List.mem_append_left _ hq) hpre hd hk fun h' tk' t1 t2 t3 M => ?_)
  rw [lines_count, hk] at M
  obtain ⟨F', N'⟩ := zl_mod Z hp1 hp2 off F N M
  exact hret h' tk' t1 t2 t3 F' N'
end
end Mine
end

section
open PySem PySem.W PyProof.Rows
theorem Mine.freshLI : True ∧ True := by
  w_top off
  first
  | (walk1; fail)
  | exact ⟨True.intro, True.intro⟩
end

section -- LI
open PySem PySem.W PyProof.Rows
set_option maxRecDepth 100000
set_option maxHeartbeats 1000000
set_option linter.unusedVariables false
namespace Mine
section
variable {fA : Addr} {cD : Value} {w : World} {p : Program} {loose : List Str} {mean : ExcName → Option Value} {mg mb : Str → Option Value} {g : Heap} {s : Shared} {fr : List Env} {L wd sz : Addr} {nW nS : Nat} {tt : Tok} {m : Str → Option Value} {vW vS : List Value} {tx : Str} {o1 o2 o3 : Obj}
  {Q E : Value → Shared → Prop} {A : Around} {z : Lex} {tl ti : Tok}
/-- a captured name within a comprehension -/
theorem nameCF {M : Model} {A : Around} {E : Value → Shared → Prop} {s : Shared} {h₀ : Heap} {L C c : Addr} {o : Obj} {scope : Scope} {cl : List (Str × Addr)} {env : Env} {x : Str} {pos : Pos} {v : Value} {news : List (Addr × Obj)} {Q : Value → Shared → Prop}
    (N : News h₀ L s.heap news) (hc : cl.lookup x = some c) (hm : (c, o) ∈ news) (hd : o.data = .cell (some v)) (h : Q v s) (hk : scope.kind = .function := by rfl) (hx : (compEnvC scope cl C env).kindOf x = some .free := by rfl) (hb : (x == ("__debug__" : Str)) = false := by decide) (hn : (x == ("__classdict__" : Str)) = false := by decide) :
    wpAny M A (eval (.Name x pos) (compEnvC scope cl C env)) Q E s :=
  wpAny_Name (wpAny_loadName_free (by simp [compEnvC, relabel, hk]) hx hc ⟨o, N.get hm, hd⟩ h hn) hb
theorem zl_same {n n2 : Nat} {l k l2 k2 : Int} {u v u2 v2 : Tok} : ∀ q ∈ ZL z w n l k u v, ∃ q' ∈ ZL z w n2 l2 k2 u2 v2, q'.1 = q.1 := by
  refine all_cons ⟨_, .head _, rfl⟩ ?_
  refine all_cons ⟨_, .tail _ (.head _), rfl⟩ ?_
  refine all_cons ⟨_, .tail _ (.tail _ (.head _)), rfl⟩ ?_
  refine all_cons ⟨_, .tail _ (.tail _ (.tail _ (.head _))), rfl⟩ ?_
  refine all_cons ⟨_, .tail _ (.tail _ (.tail _ (.tail _ (.head _)))), rfl⟩ ?_
  refine all_cons ⟨_, .tail _ (.tail _ (.tail _ (.tail _ (.tail _ (.head _))))), rfl⟩ ?_
  refine all_cons ⟨_, .tail _ (.tail _ (.tail _ (.tail _ (.tail _ (.tail _ (.head _)))))), rfl⟩ ?_
  refine all_cons ⟨_, .tail _ (.tail _ (.tail _ (.tail _ (.tail _ (.tail _ (.tail _ (.head _))))))), rfl⟩ ?_
  refine all_cons ⟨_, .tail _ (.tail _ (.tail _ (.tail _ (.tail _ (.tail _ (.tail _ (.tail _ (.head _)))))))), rfl⟩ ?_
  refine all_cons ⟨_, .tail _ (.tail _ (.tail _ (.tail _ (.tail _ (.tail _ (.tail _ (.tail _ (.tail _ (.head _))))))))), rfl⟩ ?_
  exact all_nil
theorem heard_rest {base : List (Addr × Obj)} {elt : PySem.Expr} {x : Str} {scope : Scope} {cl : List (Str × Addr)} {env : Env} {S : List (Addr × Obj) → Prop} {P : Nat → Value → Prop} {Fin : List Value → List (Addr × Obj) → Prop}
    (Z : z.Ok) (hp1 : @Ne Nat z.pb z.aL) (hp2 : @Ne Nat z.pb z.dm) (X : (hd.heap_1 w.params).In g) (T : Top p loose mean mg mb g) (offb : ∀ q ∈ base, @Ne Nat z.aL q.1 ∧ @Ne Nat z.dm q.1)
    (a1 : A.handled = none) (a2 : A.depth ≤ 430) (a3 : A.units ≤ 130) (a4 : A.frames = some fr) (hS : ∀ nw : List (Addr × Obj), (∀ q ∈ base, q ∈ nw) → S nw)
    (helt : ∀ I oI C oC D m₂ ys h tk l (k : Nat) tl ti E' (Q' : Value → Shared → Prop), LCg.NsObj oC m₂ → Fr g L h m → News g L h ((I, oI) :: (C, oC) :: (D, LCg.lst ys) :: (base ++ ZL z w 0 l k tl ti)) →
      wpAny (model Challenge.rw_re0023_01.row.prog w) A (call (.ref 140) [.ref z.mc]) Q' E' { s with heap := h, toks := tk } → wpAny (model Challenge.rw_re0023_01.row.prog w) A (eval elt (compEnvC scope cl C env)) Q' E' { s with heap := h, toks := tk }) :
    ∀ (ls : List Int) (i : Nat) (done : List Str) (ys : List Value) (l : Int) (k : Nat) (tl ti : Tok) (pre : List Nat), (∀ n ∈ ls, 0 ≤ n ∧ n < 168) → (∀ c ∈ pre, c = 10) → z.x.cps.toList.drop k = pre ++ ls.flatMap pieceL → StrsAre ys done →
      (∀ ys' (l' : Int) (k' : Nat) t1 t2 pre', StrsAre ys' (done ++ ls.map wordS) → (∀ c ∈ pre', c = 10) → z.x.cps.toList.drop k' = pre' ++ [] → l' + (pre'.count 10 : Int) = l + (pre.count 10 : Int) + ((ls.flatMap pieceL).count 10 : Int) →
        k' + pre'.length = k + pre.length + (ls.flatMap pieceL).length → Fin ys' (base ++ ZL z w 0 l' k' t2 t1)) →
      LCg.CompRest Challenge.rw_re0023_01.row.prog w A g L m env elt x scope cl s S P Fin ls.length i ys (base ++ ZL z w 0 l k tl ti) := by
  intro ls
  induction ls with
  | nil =>
    intro i done ys l k tl ti pre hl hpre hd sy fin
    refine LCg.CompRest.zero (fin ys l k ti tl pre ?_ hpre hd ?_ ?_)
    · rw [List.map_nil, List.append_nil]; exact sy
    · simp
    · simp
  | cons n ls ih =>
    intro i done ys l k tl ti pre hl hpre hd sy fin
    obtain ⟨n0, n1⟩ := hl n (.head _)
    rw [List.flatMap_cons] at hd
    refine LCg.CompRest.succ fun v I oI C oC D m₂ h tk E' hv hC hx F' N' off ne => ?_
    have off := off.mem
    refine helt I oI C oC D m₂ ys h tk l k tl ti E' _ hC F' N' ?_
    have mz : ∀ q ∈ ZL z w 0 l k tl ti, q ∈ base ++ ZL z w 0 l k tl ti := fun q hq => List.mem_append_right _ hq
    have haL := off (z.aL, listOf #[.int (k : Int) ti] z.n) (mz _ (.tail _ (.head _)))
    have hdm := off (z.dm, z.dict w (.int l tl)) (mz _ (.tail _ (.tail _ (.head _))))
    have N2 : News g L h (ZL z w 0 l k tl ti ++ ((I, oI) :: (C, oC) :: (D, LCg.lst ys) :: base)) := all_append (fun q hq => N' q (.tail _ (.tail _ (.tail _ (List.mem_append_right _ hq))))) (all_cons (N' _ (.head _)) (all_cons (N' _ (.tail _ (.head _))) (all_cons (N' _ (.tail _ (.tail _ (.head _)))) fun q hq => N' q (.tail _ (.tail _ (.tail _ (List.mem_append_left _ hq)))))))
    refine get_word_K (fr := fr) (s := { s with heap := h, toks := tk }) Z hp1 hp2 (fun q hq => ?_) F' X T N2 n0 n1 hpre hd a1 a2 a3 a4 fun h' tk' t1 t2 t3 l' k' pre' F2 N3 e1 e2 e3 e4 => ?_
    · rcases List.mem_cons.mp hq with rfl | hq
      · exact ⟨haL.1, hdm.1⟩
      · rcases List.mem_cons.mp hq with rfl | hq
        · exact ⟨haL.2.1, hdm.2.1⟩
        · rcases List.mem_cons.mp hq with rfl | hq
          · exact ⟨haL.2.2, hdm.2.2⟩
          · exact offb q hq
    · refine ⟨h', tk', base ++ ZL z w 0 l' k' t2 t1, rfl, F2, all_cons (N3 _ (List.mem_append_right _ (.head _))) (all_cons (N3 _ (List.mem_append_right _ (.tail _ (.head _)))) (all_cons (N3 _ (List.mem_append_right _ (.tail _ (.tail _ (.head _))))) (all_append (fun q hq => N3 q (List.mem_append_right _ (.tail _ (.tail _ (.tail _ hq))))) (fun q hq => N3 q (List.mem_append_left _ hq))))), LCg.Off3.of fun q hq => ?_, hS _ fun q hq => List.mem_append_left _ hq, ?_⟩
      · rcases List.mem_append.mp hq with hq | hq
        · exact off q (List.mem_append_left _ hq)
        · obtain ⟨q1, hq1, e1⟩ := zl_same (n2 := 0) (l2 := l) (k2 := (k : Int)) (u2 := tl) (v2 := ti) q hq
          rw [← e1]
          exact off q1 (mz _ hq1)
      · refine ih (i + 1) (done ++ [wordS n]) _ l' k' t2 t1 pre' (fun k hk => hl k (.tail _ hk)) e1 e2 (str_snoc sy _ _) fun ys' l2 k2 u1 u2 pre2 s2 f1 f2 f3 f4 => ?_
        refine fin ys' l2 k2 u1 u2 pre2 ?_ f1 f2 ?_ ?_
        · rw [List.append_assoc, List.singleton_append] at s2; exact s2
        · rw [List.flatMap_cons, List.count_append]; omega
        · rw [List.flatMap_cons, List.length_append]; omega
theorem kw86 : True := by
  w_top off
  k_with "eval Name" => ((k_here; k_dflt (first | (refine' nameX_L (by k_asm) (by first | assumption | rfl) ?_ (by rfl) (by rfl); k_whole) | (refine' nameCF (by k_asm) (by rfl) (by k_mem) (by assumption) ?_ (by rfl) (by rfl) (by decide) (by decide); k_whole))))
  exact True.intro
theorem kw87 : True := by
  w_top off
  k_with "eval ListComp" => ((k_here; (try dsimp only); refine Stop.it ?_))
  exact True.intro
theorem kw88 : True := by
  w_top off
  k_with "call ref" => ((k_here; (try dsimp only); refine Stop.it ?_))
  exact True.intro
theorem law_7 {Q : Flow → Shared → Prop} {ls : List Int} (X : (hd.heap_1 w.params).In g) (T : Top p loose mean mg mb g) (F : Fr g L s.heap m) (Z : z.Ok) (hp1 : @Ne Nat z.pb z.aL) (hp2 : @Ne Nat z.pb z.dm)
    (offz : ∀ q ∈ ZL z w 0 1 (0 : Nat) tl ti, ∀ r ∈ [(wd, listOf vW.toArray nW), (sz, listOf vS.toArray nS), (L + 3, o3), (L + 2, o2), (L + 1, o1)], @Ne Nat r.1 q.1) (hd2 : @Ne Nat wd (L + 2)) (hd3 : @Ne Nat sz (L + 2))
    (N : News g L s.heap ([(wd, listOf vW.toArray nW), (sz, listOf vS.toArray nS), (L + 3, o3), (L + 2, o2), (L + 1, o1)] ++ ZL z w 0 1 (0 : Nat) tl ti)) 
    (m1 : m "words" = some (.ref wd)) (c1 : o1.data = .cell (some (.ref z.mc))) (c2 : o2.data = .cell none) (lW : vW.length = 4) (hl : ∀ n ∈ ls, 0 ≤ n ∧ n < 168) (l4 : ls.length = 4) (hx : z.x = textFrom "" ls)
    (hq : ∀ h' tk' D ys (l' : Int) (k' : Nat) t1 t2 pre' o2', StrsAre ys (ls.map wordS) → (∀ c ∈ pre', c = 10) → z.x.cps.toList.drop k' = pre' ++ [] → l' + (pre'.count 10 : Int) = 1 + (z.x.cps.toList.count 10 : Int) → k' + pre'.length = z.x.length → o2'.data = .cell (some (.ref D)) →
      Fr g L h' m → News g L h' ((D, listOf ys.toArray ys.length) :: ([(wd, listOf vW.toArray nW), (sz, listOf vS.toArray nS), (L + 3, o3), (L + 2, o2'), (L + 1, o1)] ++ ZL z w 0 l' k' t2 t1)) →
      (∀ q ∈ ([(wd, listOf vW.toArray nW), (sz, listOf vS.toArray nS), (L + 3, o3), (L + 2, o2), (L + 1, o1)] ++ ZL z w 0 l' k' t2 t1), @Ne Nat q.1 D) → Q .next { s with heap := h', toks := tk' }) :
    wpAny (model Challenge.rw_re0023_01.row.prog w) ((Ar 310 50 fr).deeper (lwEnv fA cD L)) (execs ((lwB.drop 7).take 1) (lwEnv fA cD L)) Q (fun _ _ => False) s := by
  obtain ⟨h0, g0, d0, k0, o0⟩ := s
  dsimp only at F N hq
  generalize hb : (lwB.drop 7).take 1 = b
  generalize hs : lwS = sc
  replace hb := hb.symm
  replace hs := hs.symm
  conv at hb => rhs; whnf
  conv at hs => rhs; whnf
  subst hb hs
  try dsimp only [List.take_zero]
  k_steps
  refine Stop.mk ?_
  refine LCg.ListComp_U (h₀ := g) (L := L) (m := m) (cl := [("machine", L + 1)]) F (by with_unfolding_all rfl) (by decide) rfl (by decide) rfl ?_
  refine nameX_L F m1 (LCg.CompSrc.ledger rfl F N (.head _) (by rw [List.size_toArray, lW]; decide) fun g' => ?_) rfl rfl
  rw [List.size_toArray, lW, ← l4]
  have hx2 : z.x.cps.toList = ls.flatMap pieceL := by
    rw [hx, text_cps]
    have z0 : ("" : Str).cps.toList = [] := by decide +kernel
    rw [z0, List.nil_append]
  have mz : ∀ r ∈ [(wd, listOf vW.toArray nW), (sz, listOf vS.toArray nS), (L + 3, o3), (L + 2, o2), (L + 1, o1)], @Ne Nat z.aL r.1 ∧ @Ne Nat z.dm r.1 := fun r hr =>
    ⟨Ne.symm (offz (z.aL, listOf #[.int ((0 : Nat) : Int) ti] z.n) (by simp [ZL]) r hr), Ne.symm (offz (z.dm, z.dict w (.int 1 tl)) (by simp [ZL]) r hr)⟩
  refine heard_rest (fr := lwEnv fA cD L :: fr) Z hp1 hp2 X T mz rfl (Nat.le_of_ble_eq_true rfl) (Nat.le_of_ble_eq_true rfl) rfl (fun nw hnw => .inr ⟨_, hnw _ (.head _), rfl, _, rfl⟩) ?_ ls 0 [] [] 1 0 tl ti [] hl (fun c hc => nomatch hc) (by rw [List.drop_zero, hx2]; rfl) .nil ?_
  · intro I oI C oC D m₂ ys h tk l k tl ti E' Q' hC F' N' hcall
    clear F N
    dsimp only at hcall ⊢
    k_steps
    exact Stop.mk hcall
  · intro ys' l' k' t1 t2 pre' s1 e1 e2 e3 e4
    rw [List.nil_append] at s1
    intro D h tk F' N' off
    have off' : ∀ q ∈ ([(wd, listOf vW.toArray nW), (sz, listOf vS.toArray nS), (L + 3, o3), (L + 2, o2), (L + 1, o1)] ++ ZL z w 0 l' k' t2 t1), @Ne Nat q.1 D := by
      clear hq N F
      generalize ([(wd, listOf vW.toArray nW), (sz, listOf vS.toArray nS), (L + 3, o3), (L + 2, o2), (L + 1, o1)] ++ ZL z w 0 l' k' t2 t1) = lst at off
      clear N' offz mz
      induction lst with
      | nil => intro q hq; exact nomatch hq
      | cons a r ih =>
        intro q hq
        rcases List.mem_cons.mp hq with rfl | hq
        · exact off.1
        · exact ih off.2 q hq
    have u2 : UpdF (L + 2) o2 ((D, LCg.lst ys') :: ([(wd, listOf vW.toArray nW), (sz, listOf vS.toArray nS), (L + 3, o3), (L + 2, o2), (L + 1, o1)] ++ ZL z w 0 l' k' t2 t1)) (fun o' => (D, LCg.lst ys') :: (wd, listOf vW.toArray nW) :: (sz, listOf vS.toArray nS) :: (L + 3, o3) :: (L + 2, o') :: (L + 1, o1) :: ZL z w 0 l' k' t2 t1) := by
      refine .tail (Ne.symm (off' (L + 2, o2) (by simp))) (.tail hd2 (.tail hd3 (.tail (neN (by dsimp only; omega)) (.head fun q hq => ?_))))
      rcases List.mem_cons.mp hq with rfl | hq
      · exact neN (by dsimp only; omega)
      · obtain ⟨q', hq', e⟩ := zl_same (n2 := 0) (l2 := 1) (k2 := ((0 : Nat) : Int)) (u2 := tl) (v2 := ti) q hq
        rw [← e]
        exact Ne.symm (offz q' hq' (L + 2, o2) (by simp))
    dsimp only
    refine storeX_C F' N' rfl u2 c2 (fun h2 o' F2 N2 c' => ?_) rfl rfl
    dsimp only at N2 ⊢
    refine wpAny_execs_nil ?_
    refine hq h2 tk D ys' l' k' t1 t2 pre' o' s1 e1 e2 ?_ ?_ c' F2 N2 off'
    · rw [hx2]; simp only [List.count_nil] at e3; omega
    · have e5 : z.x.length = (ls.flatMap pieceL).length := by rw [← hx2, Array.length_toList]; rfl
      rw [e5]; simp only [List.length_nil] at e4; omega
end
theorem kw89 : True := by
  w_top off
  k_with_none
  exact True.intro
end Mine
end

section
open PySem PySem.W PyProof.Rows
theorem Mine.freshLI2 : True ∧ True := by
  w_top off
  first
  | (walk1; fail)
  | exact ⟨True.intro, True.intro⟩
end

section -- LI2
open PySem PySem.W PyProof.Rows PySem.Calls PyProof.V PySem.Spec
set_option maxRecDepth 100000
set_option maxHeartbeats 1000000
set_option linter.unusedVariables false
namespace Mine
theorem st_canLayAll0 : ∀ ns : List Str, (∀ y ∈ ns, PyData.strOk y = true) → PyData.canLayAll0 (ns.map PyData.str) = true
  | [], _ => rfl
  | a :: r, h => by simp [PyData.canLayAll0, PyData.canLay0, st_canLayAll0 r (fun y hy => h y (.tail _ hy)), h a (.head _)]
theorem st_depthAll : ∀ ns : List Str, PyData.depthAll (ns.map PyData.str) = 0
  | [] => rfl
  | _ :: r => by simp [PyData.depthAll, PyData.depth, st_depthAll r]
theorem st_shaped (ns : List Str) (h : ∀ y ∈ ns, PyData.strOk y = true) : SeqAt.shaped (.list (ns.map PyData.str)) = true := by
  simp [SeqAt.shaped, PyData.canLay0, PyData.depth, st_canLayAll0 ns h, st_depthAll]
theorem st_carried : ∀ {vs : List Value} {ns : List Str}, StrsAre vs ns → CarriedAll vs (ns.map PyData.str)
  | _, _, .nil => .nil
  | _, _, .cons _ t r => .cons (.str _ t) (st_carried r)
section
variable {prog : Program} {w : World} {A : Around} {E : Value → Shared → Prop} {s : Shared} {a b : Addr} {xs ys : List Value} {ns ms : List Str} {Q : Value → Shared → Prop}
theorem st_ne_same (ok : ∀ y ∈ ns, PyData.strOk y = true) (ha : s.heap.IsList a xs.toArray) (hb : s.heap.IsList b ys.toArray) (hi : StrsAre xs ns) (hj : StrsAre ys ns) (hu : A.units + 64 < cLine) (h : Q (.bool false) s) :
    wpAny (model prog w) A (compareOp .NotEq (.ref a) (.ref b)) Q E s :=
  ne_dataH_same (reads_newData ha (st_carried hi)) (reads_newData hb (st_carried hj)) (st_shaped _ ok) (st_shaped _ ok) hu (SeqAt.noMix_of_shape (.list .str) rfl _ _ (list_map_has fun _ => rfl) (list_map_has fun _ => rfl)) (by
    have e : PySem.Spec.same (.list (ns.map PyData.str)) (.list (ns.map PyData.str)) = true := by simp only [PySem.Spec.same]; exact sameAll_self _
    rw [e]; exact h)
end
end Mine
end

section
open PySem PySem.W PyProof.Rows
theorem Mine.freshLJ : True ∧ True := by
  w_top off
  first
  | (walk1; fail)
  | exact ⟨True.intro, True.intro⟩
end

section -- LJ
open PySem PySem.W PyProof.Rows
set_option maxRecDepth 100000
set_option maxHeartbeats 1000000
set_option linter.unusedVariables false
namespace Mine
theorem count_nl (x : Str) : Txt.count x "\n" = (x.cps.toList.count 10 : Int) := by
  have e : ("\n" : Str) = ⟨#[10]⟩ := by decide +kernel
  rw [e, count_cnt]
  induction x.cps.toList with
  | nil => rfl
  | cons c r ih =>
    rw [cnt_cons, ih]
    by_cases h : c = 10
    · subst h; rw [List.count_cons_self]; simp; omega
    · rw [List.count_cons_of_ne h, if_neg h]; omega
section
variable {fA : Addr} {cD : Value} {w : World} {p : Program} {loose : List Str} {mean : ExcName → Option Value} {mg mb : Str → Option Value} {g : Heap} {s : Shared} {fr : List Env} {L wd sz D : Addr} {nW nS nD : Nat} {tt : Tok} {m : Str → Option Value} {vW vS ys : List Value} {tx : Str} {o1 o2 o3 : Obj}
  {Q E : Value → Shared → Prop} {A : Around} {z : Lex} {tl ti : Tok} {Ws : List Str}
theorem kw90 : True := by
  w_top off
  k_with "eval Name" => ((k_here; k_dflt (refine' nameX_L (by k_asm) (by first | assumption | rfl) ?_ (by rfl) (by rfl); k_whole)))
  exact True.intro
theorem kw91 : True := by
  w_top off
  k_with "compareOp NotEq ref ref" => ((k_here; (try dsimp only); refine Stop.it ?_))
  exact True.intro
theorem kw92 : True := by
  w_top off
  k_with "call ref" => ((k_here; (try dsimp only); refine Stop.it ?_))
  exact True.intro
theorem law_8 {Q : Flow → Shared → Prop} {ls : List Int} {l : Int} {k : Nat} {pre : List Nat} (X : (hd.heap_1 w.params).In g) (T : Top p loose mean mg mb g) (F : Fr g L s.heap m) (Z : z.Ok) (hp1 : @Ne Nat z.pb z.aL) (hp2 : @Ne Nat z.pb z.dm)
    (N : News g L s.heap ((D, listOf ys.toArray nD) :: ([(wd, listOf vW.toArray nW), (sz, listOf vS.toArray nS), (L + 3, o3), (L + 2, o2), (L + 1, o1)] ++ ZL z w 0 l k tl ti)))
    (m1 : m "words" = some (.ref wd)) (m2 : m "text" = some (.str z.x tt)) (c1 : o1.data = .cell (some (.ref z.mc))) (c2 : o2.data = .cell (some (.ref D))) (s1 : StrsAre vW Ws) (s2 : StrsAre ys Ws) (ok : ∀ y ∈ Ws, PyData.strOk y = true) (hpre : ∀ c ∈ pre, c = 10) (hd : z.x.cps.toList.drop k = pre ++ []) (hk : k + pre.length = z.x.length) (hln : l + (pre.count 10 : Int) = 1 + (z.x.cps.toList.count 10 : Int))
    (offz : ∀ q ∈ ((D, listOf ys.toArray nD) :: [(wd, listOf vW.toArray nW), (sz, listOf vS.toArray nS), (L + 3, o3), (L + 2, o2), (L + 1, o1)]), @Ne Nat z.aL q.1 ∧ @Ne Nat z.dm q.1)
    (hq : ∀ h' tk' l' t1 t2, Fr g L h' m → News g L h' (ZL z w 0 l' (z.x.length : Nat) t2 t1 ++ ((D, listOf ys.toArray nD) :: [(wd, listOf vW.toArray nW), (sz, listOf vS.toArray nS), (L + 3, o3), (L + 2, o2), (L + 1, o1)])) → Q .next { s with heap := h', toks := tk' }) :
    wpAny (model Challenge.rw_re0023_01.row.prog w) ((Ar 310 50 fr).deeper (lwEnv fA cD L)) (execs ((lwB.drop 8).take 1) (lwEnv fA cD L)) Q (fun _ _ => False) s := by
  obtain ⟨h0, g0, d0, k0, o0⟩ := s
  dsimp only at F N hq
  generalize hb : (lwB.drop 8).take 1 = b
  generalize hs : lwS = sc
  replace hb := hb.symm
  replace hs := hs.symm
  conv at hb => rhs; whnf
  conv at hs => rhs; whnf
  subst hb hs
  try dsimp only [List.take_zero]
  k_steps
  refine Stop.mk ?_
  refine st_ne_same ok (PySem.IsL.isList (n := nD) (N _ (.head _)).1) (PySem.IsL.isList (n := nW) (N _ (.tail _ (.head _))).1) s2 s1 (Nat.le_of_ble_eq_true rfl) ?_
  try dsimp only
  k_steps
  refine Stop.mk ?_
  have N2 : News g L h0 (ZL z w 0 l k tl ti ++ ((D, listOf ys.toArray nD) :: [(wd, listOf vW.toArray nW), (sz, listOf vS.toArray nS), (L + 3, o3), (L + 2, o2), (L + 1, o1)])) := fun q hq => N q (by
    simp only [List.mem_append, List.mem_cons] at hq ⊢
    rcases hq with e | e | e <;> simp only [e, true_or, or_true])
  refine get_end_K (fr := lwEnv fA cD L :: fr) Z hp1 hp2 offz F X T N2 hpre hd hk rfl (Nat.le_of_ble_eq_true rfl) (Nat.le_of_ble_eq_true rfl) rfl fun h' tk' t1 t2 t3 F' N' => ?_
  clear N2 N F
  dsimp only
  k_steps
  · exfalso
    rename _ ≠ 1 + Txt.count _ _ => hne
    rw [count_nl] at hne
    exact hne hln
  · exact hq _ _ _ _ _ F' N'
end
theorem kw93 : True := by
  w_top off
  k_with_none
  exact True.intro
end Mine
end

section
open PySem PySem.W PyProof.Rows
theorem Mine.freshLK : True ∧ True := by
  w_top off
  first
  | (walk1; fail)
  | exact ⟨True.intro, True.intro⟩
end

section -- LK
open PySem PySem.W PyProof.Rows
set_option maxRecDepth 100000
set_option maxHeartbeats 1000000
set_option linter.unusedVariables false
namespace Mine
/-- a dict from each word to its note -/
noncomputable def IsNotes (prog : Program) (w : World) (o : Obj) (Ws : List Str) : Prop := ∃ kvs : List (Str × Value), o.IsDictOf (strKind prog w) kvs ∧ ∀ W ∈ Ws, ∃ t, valueAt kvs W = some (.str (noteOf W) t)
theorem valueAt_st {kvs : List (Str × Value)} {k W : Str} {v : Value} : valueAt (PySem.stored kvs k v) W = if W = k then some v else valueAt kvs W := by
  unfold PySem.stored valueAt
  by_cases hW : W = k
  · subst hW
    rw [if_pos rfl]
    split
    · rename_i h
      induction kvs with
      | nil => simp at h
      | cons a r ih =>
        rw [List.map_cons, List.find?_cons]
        by_cases ha : a.1 = W
        · simp [ha]
        · have h2 : r.any (fun kv => decide (kv.1 = W)) = true := by simpa [ha] using h
          simp only [ha, if_false, decide_false]
          exact ih h2
    · rename_i h
      have h' : kvs.find? (fun kv => decide (kv.1 = W)) = none := by
        rw [List.find?_eq_none]
        intro x hx e
        exact h (List.any_eq_true.mpr ⟨x, hx, e⟩)
      rw [List.find?_append, h']
      simp
  · rw [if_neg hW]
    split
    · rename_i hh
      clear hh
      induction kvs with
      | nil => rfl
      | cons a r ih =>
        rw [List.map_cons, List.find?_cons, List.find?_cons]
        by_cases ha : a.1 = k
        · have h1 : ¬ a.1 = W := fun e => hW (e.symm.trans ha)
          simp only [ha, if_true, decide_eq_false (fun e : k = W => hW e.symm)]
          exact ih
        · simp only [ha, if_false]
          cases decide (a.1 = W) with
          | true => rfl
          | false => exact ih
    · rw [List.find?_append]
      have : List.find? (fun kv : Str × Value => decide (kv.1 = W)) [(k, v)] = none := by simp [Ne.symm hW]
      rw [this, Option.or_none]
noncomputable def FKs (v : Value) (k : Str) : Prop := ∃ t, v = .str k t
noncomputable def FVs (v y : Value) : Prop := ∃ W t t', v = .str W t ∧ y = .str (noteOf W) t'
theorem notes_val {l : List Value} {kvs : List (Str × Value)} (x : StoredAll FKs FVs l kvs) : ∀ W t, Value.str W t ∈ l → ∃ t', valueAt kvs W = some (.str (noteOf W) t') := by
  induction x with
  | nil => intro W t h; cases h
  | @snoc l kvs v k y _ hk hy ih =>
    intro W t h
    obtain ⟨t1, rfl⟩ := hk
    obtain ⟨W2, t2, t3, e, rfl⟩ := hy
    cases e
    rw [valueAt_st]
    by_cases hW : W = k
    · subst hW; exact ⟨t3, if_pos rfl⟩
    · rw [if_neg hW]
      rcases List.mem_append.mp h with h | h
      · exact ih W t h
      · have := List.mem_singleton.mp h
        cases this
        exact absurd rfl hW
section
variable {prog : Program} {w : World} {A : Around} {E : Value → Shared → Prop} {s : Shared} {h₀ : Heap} {L D : Addr} {m : Str → Option Value} {news : List (Addr × Obj)} {env : Env} {ys : List Value} {Ws : List Str} {nD : Nat}
theorem Assign_notes {kx vx iter : PySem.Expr} {x y : Str} {px py : Pos} {scope : Scope} {cl : List (Str × Addr)} {pos spos : Pos} {Q : Flow → Shared → Prop} (F : Fr h₀ L s.heap m) (N : News h₀ L s.heap news)
    (hsw : swapsWith (.DictComp kx vx [⟨.Name x px, iter, [], 0⟩] scope pos) (some (.Name y py)) spos.line env = pure true) (hL : env.locals = L)
    (hh : A.handled = none) (hclos : closureFor scope env = pure cl) (hcell : ∀ z ∈ scope.names, z.2 ≠ .cell) (hkind : scope.kind = .function)
    (hnames : ∀ z ∈ scope.names, z.2 = .local → scope.names.lookup z.1 = some .local) (hx : scope.names.lookup x = some .local)
    (hy : env.kindOf y = some .local) (hp : (env.scope.kind == .class || (env.scope.kind == .module && env.locals != env.globals)) = false)
    (hm : (D, listOf ys.toArray nD) ∈ news) (hW : StrsAre ys Ws) (hsz : ys.length ≤ sizeLine)
    (hiter : ∀ Q' : Value → Shared → Prop, Q' (.ref D) s → wpAny (model prog w) A (eval iter env) Q' E s)
    (hkey : ∀ C W t s₂ m₂ E', W ∈ Ws → s₂.heap.Ns C m₂ → m₂ x = some (.str W t) → (∀ b o, s.heap.get? b = some o → s₂.heap.get? b = some o) → wpAny (model prog w) A (eval kx (compEnvC scope cl C env)) (fun key s₃ => key = .str W t ∧ Keeps s₂ s₃) E' s₂)
    (hval : ∀ C W t s₂ m₂ E', W ∈ Ws → s₂.heap.Ns C m₂ → m₂ x = some (.str W t) → (∀ b o, s.heap.get? b = some o → s₂.heap.get? b = some o) → wpAny (model prog w) A (eval vx (compEnvC scope cl C env)) (fun y s₃ => (∃ t', y = .str (noteOf W) t') ∧ Keeps s₂ s₃) E' s₂)
    (hq : ∀ h tk nt o, IsNotes prog w o Ws → Fr h₀ L h (fun z => if z = y then some (.ref nt) else m z) → News h₀ L h ((nt, o) :: news) → (∀ q ∈ news, @Ne Nat q.1 nt) → Q .next { s with heap := h, toks := tk })
    (hs : ∀ x, foldedSetIterable iter env x = pure x := by intro _; rfl) :
    wpAny (model prog w) A (exec (.Assign [.Name y py] (.DictComp kx vx [⟨.Name x px, iter, [], 0⟩] scope pos) spos) env) Q E s := by
  subst hL
  have hl := PySem.IsL.isList (n := nD) (N _ hm).1
  have hlt : D < s.heap.objs.size := Heap.lt_size (N _ hm).1
  have mem : ∀ v : Value, v ∈ ys → ∃ W t, W ∈ Ws ∧ v = .str W t := by
    clear hq hkey hval hiter hm hl hsz N
    intro v hv
    induction hW with
    | nil => cases hv
    | cons W t _ ih =>
      rcases List.mem_cons.mp hv with rfl | hv
      · exact ⟨W, t, .head _, rfl⟩
      · obtain ⟨W', t', h1, h2⟩ := ih hv
        exact ⟨W', t', .tail _ h1, h2⟩
  have mem2 : ∀ W ∈ Ws, ∃ t, Value.str W t ∈ ys := by
    clear hq hkey hval hiter hm hl hsz N mem
    induction hW with
    | nil => intro W h; cases h
    | cons W t _ ih =>
      intro W' h
      rcases List.mem_cons.mp h with rfl | h
      · exact ⟨t, .head _⟩
      · obtain ⟨t', h'⟩ := ih W' h
        exact ⟨t', .tail _ h'⟩
  rw [exec_Assign_Name_used _ _ _ _ hsw]
  refine wpAny_bind (wpAny_standAt (wpAny_bind ?_))
  refine wpAny_bind (wpAny_mono (wpAny_comprehension_free (use := some (assign (.Name y py) env)) (Q := fun _ s' => Q .next s') rfl hs hclos hkind hnames (hiter _ ?_)) (fun _ s' hq => wpAny_pure (wpAny_pure hq)) fun _ _ e => e)
  have up : ∀ (h₃ : Heap), (∀ b o, b ∉ [s.heap.objs.size] → (s.heap.push { cls := .type "list_iterator", data := .fields #[.ref D, .int 0 0] }).get? b = some o → h₃.get? b = some o) → ∀ b o, s.heap.get? b = some o → h₃.get? b = some o :=
    fun h₃ hk b o e => hk b o (fun z => by rw [List.mem_singleton.mp z] at e; exact Nat.lt_irrefl _ (Heap.lt_size e)) (Heap.get?_push_of_some _ e)
  refine wpAny_pyIter_list hl ?_
  refine comp_block_walkCD (knd := strKind prog w) (RR := fun acc C => compPost (model prog w) A E (some (assign (.Name y py) env)) (fun _ s' => Q .next s') acc C) (Walks.list hh _ _ (Nat.ne_of_lt hlt) ys.toArray) (by rw [List.size_toArray]; exact hsz) (fun _ => true) FKs FVs hcell hkind hx
    ⟨⟨_, Heap.get?_push_size _ rfl, rfl, rfl⟩, hl.push _⟩ (fun b hb => ?_) ⟨?_, ?_, ?_⟩ ?_
  · show b < (s.heap.push _).objs.size
    rw [Heap.size_push]
    rcases List.mem_cons.mp hb with rfl | hb
    · exact Nat.lt_succ_self _
    · rw [List.mem_singleton.mp hb]; exact Nat.lt_succ_of_lt hlt
  · intro C i v s₃ m₃ E' hP hn hm' hk
    exact wpAny_pure ⟨rfl, s₃.heap, s₃.toks, rfl, fun _ _ e => e⟩
  · intro C i v s₃ m₃ E' hP _ hn hm' hk
    obtain ⟨W, t, hW', rfl⟩ := mem v (by simpa using Array.mem_of_getElem? hP)
    exact wpAny_mono (hkey C W t s₃ m₃ E' hW' hn hm' (up _ hk)) (fun key s₄ h₄ => ⟨⟨W, by rw [h₄.1]; exact beq_self_eq_true W, t, rfl⟩, h₄.2⟩) fun _ _ e => e
  · intro C i v s₃ m₃ E' hP _ hn hm' hk
    obtain ⟨W, t, hW', rfl⟩ := mem v (by simpa using Array.mem_of_getElem? hP)
    exact wpAny_mono (hval C W t s₃ m₃ E' hW' hn hm' (up _ hk)) (fun y s₄ h₄ => ⟨by obtain ⟨⟨t', e⟩, _⟩ := h₄; exact ⟨W, t, t', rfl, e⟩, h₄.2⟩) fun _ _ e => e
  · intro D' C h' tk m' kvs vs' hD hC hDC hnC hlD hlen hP hF hk
    have e : vs' = ys := by simpa using list_of_places hlen hP
    subst e
    have noneOf : ∀ b, (s.heap.push { cls := .type "list_iterator", data := .fields #[.ref D, .int 0 0] }).get? b = none → s.heap.get? b = none := fun b z => by
      cases e : s.heap.get? b with
      | none => rfl
      | some o => rw [Heap.get?_push_of_some _ e] at z; cases z
    have hD' := noneOf _ hD
    have hC' := noneOf _ hC
    have hLC : env.locals ≠ C := by obtain ⟨o, _, _, ho, _⟩ := F.ns; intro z; rw [z, hC'] at ho; cases ho
    have hLD : env.locals ≠ D' := by obtain ⟨o, _, _, ho, _⟩ := F.ns; intro z; rw [z, hD'] at ho; cases ho
    have nsL : h'.Ns env.locals m := F.ns.at' fun o e => up h' hk _ o e
    show wpAny _ A (assign (.Name y py) env (.ref D')) _ _ _
    refine wpAny_assign_Name (wpAny_storeName_local hy nsL (fun h₂ hn₂ hs₂ => ?_) hp)
    refine ⟨m', hnC.sameBut hs₂ (Ne.symm hLC), fun h₃ hs₃ => ?_⟩
    have keep : ∀ b o, b ≠ env.locals → s.heap.get? b = some o → h₃.get? b = some o := fun b o hb e =>
      hs₃.extBut b o (fun z => by rw [z, hC'] at e; cases e) (hs₂.extBut b o hb (up h' hk b o e))
    have dict := (hlD.extBut hs₂.extBut (Ne.symm hLD)).extBut hs₃.extBut hDC
    obtain ⟨o, ho, hd⟩ := Heap.dictOf_iff.mp dict
    refine hq h₃ _ D' o ⟨kvs, hd, fun W hW' => ?_⟩ ⟨hn₂.sameBut hs₃ hLC, fun b o e => keep b o (Nat.ne_of_lt (Nat.lt_of_lt_of_le (Heap.lt_size e) F.above)) (F.keep b o e), F.above⟩ (fun q hq' => ?_) (fun q hq' => news_ne N hq' hD')
    · obtain ⟨t, ht⟩ := mem2 W hW'
      have hF' : StoredAll FKs FVs vs' kvs := by rw [List.filter_eq_self.mpr (fun _ _ => rfl)] at hF; exact hF
      exact notes_val hF' W t ht
    · rcases List.mem_cons.mp hq' with rfl | hq'
      · refine ⟨ho, Ne.symm hLD, ?_⟩
        cases e : h₀.get? D' with
        | none => rfl
        | some o' => rw [F.keep _ _ e] at hD'; cases hD'
      · exact ⟨keep _ _ (N q hq').2.1 (N q hq').1, (N q hq').2⟩
end
end Mine
end

section
open PySem PySem.W PyProof.Rows
theorem Mine.freshLL : True ∧ True := by
  w_top off
  first
  | (walk1; fail)
  | exact ⟨True.intro, True.intro⟩
end

section -- LL
open PySem PySem.W PyProof.Rows
set_option maxRecDepth 100000
set_option maxHeartbeats 1000000
set_option linter.unusedVariables false
namespace Mine
section
variable {fA : Addr} {cD : Value} {w : World} {p : Program} {loose : List Str} {mean : ExcName → Option Value} {mg mb : Str → Option Value} {g : Heap} {s : Shared} {fr : List Env} {L wd sz D : Addr} {nW nS nD : Nat} {tt : Tok} {m : Str → Option Value} {vW vS ys : List Value} {tx : Str} {o1 o2 o3 : Obj}
  {Q E : Value → Shared → Prop} {A : Around} {z : Lex} {tl ti : Tok} {Ws : List Str} {rest : List (Addr × Obj)}
structure NoteEnd (W : Str) (s : Shared) (r : Value) (s₂ : Shared) : Prop where
  it : (∃ t', r = .str (noteOf W) t') ∧ Keeps s s₂
theorem nameCN {M : Model} {A : Around} {E : Value → Shared → Prop} {s : Shared} {C : Addr} {m₂ : Str → Option Value} {scope : Scope} {cl : List (Str × Addr)} {env : Env} {x : Str} {pos : Pos} {v : Value} {Q : Value → Shared → Prop}
    (hn : s.heap.Ns C m₂) (hv : m₂ x = some v) (h : Q v s) (hk : scope.kind = .function := by rfl) (hx : scope.names.lookup x = some .local := by rfl) (hd : (x == ("__debug__" : Str)) = false := by decide) :
    wpAny M A (eval (.Name x pos) (compEnvC scope cl C env)) Q E s :=
  wpAny_Name (wpAny_loadName_local (by simp [compEnvC, relabel, hk]) (lookup_relabel_local hx) hn hv h) hd
theorem kw94 : True := by
  w_top off
  k_with "eval Name" => ((k_here; k_dflt (first | (refine' nameX_L (by k_asm) (by first | assumption | rfl) ?_ (by rfl) (by rfl); k_whole) | (refine' nameCN (by assumption) (by assumption) ?_ (by rfl) (by rfl) (by decide); k_whole))))
  exact True.intro
theorem kw95 : True := by
  w_top off
  k_with "exec Assign cons DictComp" => ((k_here; (try dsimp only); refine Stop.it ?_))
  exact True.intro
theorem kw96 : True := by
  w_top off
  k_with "call ref" => ((k_here; (try dsimp only); refine Stop.it ?_))
  exact True.intro
theorem law_9 {Q : Flow → Shared → Prop} (X : (hd.heap_1 w.params).In g) (T : Top p loose mean mg mb g) (F : Fr g L s.heap m) 
    (N : News g L s.heap ((D, listOf ys.toArray nD) :: (L + 2, o2) :: rest))
    (c2 : o2.data = .cell (some (.ref D))) (s2 : StrsAre ys Ws) (hlen : ∀ W ∈ Ws, W.length < 100) (hsz : ys.length ≤ 100)
    (hq : ∀ h tk nt o, IsNotes Challenge.rw_re0023_01.row.prog w o Ws → Fr g L h (fun z => if z = "notes" then some (.ref nt) else m z) → News g L h ((nt, o) :: (D, listOf ys.toArray nD) :: (L + 2, o2) :: rest) → (∀ q ∈ ((D, listOf ys.toArray nD) :: (L + 2, o2) :: rest), @Ne Nat q.1 nt) → Q .next { s with heap := h, toks := tk }) :
    wpAny (model Challenge.rw_re0023_01.row.prog w) ((Ar 310 50 fr).deeper (lwEnv fA cD L)) (execs ((lwB.drop 9).take 1) (lwEnv fA cD L)) Q (fun _ _ => False) s := by
  obtain ⟨h0, g0, d0, k0, o0⟩ := s
  dsimp only at F N hq
  generalize hb : (lwB.drop 9).take 1 = b
  generalize hs : lwS = sc
  replace hb := hb.symm
  replace hs := hs.symm
  conv at hb => rhs; whnf
  conv at hs => rhs; whnf
  subst hb hs
  try dsimp only [List.take_zero]
  k_steps
  refine Stop.mk ?_
  refine Assign_notes (cl := []) F N (by with_unfolding_all rfl) rfl rfl (by with_unfolding_all rfl) (by decide) rfl (by decide) rfl rfl rfl (.head _) s2 (Nat.le_trans hsz (by rw [sizeLine_eq]; decide)) ?_ ?_ ?_ ?_
  · intro Q' hQ
    clear hq
    k_steps
    exact hQ
  · intro C W t s₂ m₂ E' hW hn hv hk
    exact nameCN hn hv ⟨rfl, s₂.heap, s₂.toks, rfl, fun _ _ e => e⟩ rfl rfl
  · intro C W t s₂ m₂ E' hW hn hv hk
    have F₂ : Fr g L s₂.heap m := F.keeps hk
    have N₂ : News g L s₂.heap [] := fun q hq => nomatch hq
    clear F N hq
    obtain ⟨h1, g1, d1, k1, p1⟩ := s₂
    dsimp only at F₂ N₂ hn
    refine wpAny_mono (Q := NoteEnd W ⟨h1, g1, d1, k1, p1⟩) ?_ (fun y s₃ hh => hh.it) fun _ _ e => e
    k_steps
    refine Stop.mk (ar_any (fr := lwEnv fA cD L :: fr) rfl (Nat.le_of_ble_eq_true rfl) (Nat.le_of_ble_eq_true rfl) rfl (comment_line (s := ⟨h1, g1, d1, k1, p1⟩) X T F₂.keep (fun q hq => nomatch hq) (hlen W hW) fun h' tk' t' M => ?_))
    exact (⟨⟨t', rfl⟩, h', tk', rfl, fun b o e => M.rest b o (fun q hq => nomatch hq) e⟩ : NoteEnd W _ _ _)
  · intro h tk nt o hN F' N' off
    exact wpAny_execs_nil (hq h tk nt o hN F' N' off)
end
theorem kw97 : True := by
  w_top off
  k_with_none
  exact True.intro
end Mine
end

section
open PySem PySem.W PyProof.Rows
theorem Mine.freshLM : True ∧ True := by
  w_top off
  first
  | (walk1; fail)
  | exact ⟨True.intro, True.intro⟩
end

section -- LM
open PySem PySem.W PyProof.Rows
set_option maxRecDepth 100000
set_option maxHeartbeats 1000000
set_option linter.unusedVariables false
namespace Mine
noncomputable def asgOfS : Option Stmt → PySem.Expr
  | some (.Assign _ v _) => v
  | _ => .Constant .none 0 noPos
noncomputable def lcOfS : PySem.Expr → PySem.Expr × List Comprehension × Scope × Pos
  | .ListComp e g s p => (e, g, s, p)
  | e => (e, [], lwS, noPos)
noncomputable def rgLC : PySem.Expr × List Comprehension × Scope × Pos := lcOfS (asgOfS (forOfS lwB[11]?)[0]?)
noncomputable def rgElt : PySem.Expr := rgLC.1
noncomputable def rgScope : Scope := rgLC.2.2.1
noncomputable def rgIt1 : PySem.Expr := match rgLC.2.1[1]? with | some g => g.iter | none => rgElt
noncomputable abbrev rgEnv (fA : Addr) (cD : Value) (C L : Addr) : Env := compEnvC rgScope [("k", L + 3)] C (lwEnv fA cD L)
theorem allLt_mem {d : Addr} : ∀ {l : List (Addr × Obj)}, AllLt d l → ∀ q ∈ l, @LT.lt Nat _ q.1 d
  | [], _, _, h => nomatch h
  | _ :: _, x, q, h => by
    rcases List.mem_cons.mp h with rfl | h
    · exact x.1
    · exact allLt_mem x.2 q h
section
variable {fA : Addr} {cD : Value} {w : World} {p : Program} {loose : List Str} {mean : ExcName → Option Value} {mg mb : Str → Option Value} {g : Heap} {s : Shared} {fr : List Env} {L C D ra : Addr} {nR nD : Nat} {tt : Tok} {m m₂ : Str → Option Value} {vR : List Value} {oC o3 : Obj}
  {Q E : Value → Shared → Prop} {A : Around} {ti tk : Tok} {rest : List (Addr × Obj)} {r : List Int} {i k : Int}
theorem kw98 : True := by
  w_top off
  k_with "eval Name" => ((k_here; k_dflt (first | (refine' nameC (by k_asm) (by assumption) (by k_mem) (by assumption) ?_ (by rfl) (by rfl) (by decide); k_whole) | (refine' nameCF (by k_asm) (by rfl) (by k_mem) (by assumption) ?_ (by rfl) (by rfl) (by decide) (by decide); k_whole))))
  exact True.intro
theorem ring_elt (X : (hd.heap_1 w.params).In g) (T : Top p loose mean mg mb g) (F : Fr g L s.heap m) (hC : LCg.NsObj oC m₂)
    (N : News g L s.heap ((C, oC) :: (ra, listOf vR.toArray nR) :: (L + 3, o3) :: rest))
    (c3 : o3.data = .cell (some (.int k tk))) (iR : IntsAre vR r) (m1 : m₂ "ring" = some (.ref ra)) (m2 : m₂ "i" = some (.int i ti)) (h0 : 0 ≤ i) (h1 : i ≤ r.length) (hr : r.length < 10)
    (hret : ∀ h' tk' a ws, Fr g L h' m → News g L h' ((a, listOf ws.toArray 0) :: (C, oC) :: (ra, listOf vR.toArray nR) :: (L + 3, o3) :: rest) → IntsAre ws (r.take i.toNat ++ [k] ++ r.drop i.toNat) → (∀ q ∈ ((C, oC) :: (ra, listOf vR.toArray nR) :: (L + 3, o3) :: rest), @Ne Nat q.1 a) → Q (.ref a) { s with heap := h', toks := tk' }) :
    wpAny (model Challenge.rw_re0023_01.row.prog w) ((Ar 310 50 fr).deeper (lwEnv fA cD L)) (eval rgElt (rgEnv fA cD C L)) Q E s := by
  obtain ⟨h0, g0, d0, k0, o0⟩ := s
  dsimp only at F N hret
  generalize hb : rgElt = b
  generalize hs : rgScope = sc
  generalize hs2 : lwS = sc2
  replace hb := hb.symm
  replace hs := hs.symm
  replace hs2 := hs2.symm
  conv at hb => rhs; whnf
  conv at hs => rhs; whnf
  conv at hs2 => rhs; whnf
  subst hb hs hs2
  try dsimp only
  k_steps
  rename News _ _ _ _ => NN
  rename Fr _ _ _ _ => FF
  rename IntsAre _ (List.take _ _ ++ [_] ++ List.drop _ _) => II
  rename _ ∧ _ ∧ _ ∧ _ ∧ _ ∧ _ ∧ _ ∧ AllLt _ _ => LL
  refine hret _ _ _ _ FF (fun q hq => NN q ?_) II ?_
  · simp only [List.mem_cons] at hq ⊢
    rcases hq with e | e | e | e | e <;> simp only [e, true_or, or_true]
  · obtain ⟨_, _, _, _, b1, b2, b3, b4⟩ := LL
    intro q hq
    rcases List.mem_cons.mp hq with rfl | hq
    · exact Nat.ne_of_lt b1
    · rcases List.mem_cons.mp hq with rfl | hq
      · exact Nat.ne_of_lt b2
      · rcases List.mem_cons.mp hq with rfl | hq
        · exact Nat.ne_of_lt b3
        · exact Nat.ne_of_lt (allLt_mem b4 q hq)
theorem ring_it (X : (hd.heap_1 w.params).In g) (T : Top p loose mean mg mb g) (F : Fr g L s.heap m) (hC : LCg.NsObj oC m₂)
    (N : News g L s.heap ((C, oC) :: (ra, listOf vR.toArray nR) :: (L + 3, o3) :: rest))
    (iR : IntsAre vR r) (m1 : m₂ "ring" = some (.ref ra)) (hr : r.length < 10)
    (hret : ∀ h' tk' rr t u v, Fr g L h' m → News g L h' ((C, oC) :: (ra, listOf vR.toArray nR) :: (L + 3, o3) :: rest) → IsRange h' rr 1 ((r.length : Int) + 1) 1 t u v → Q (.ref rr) { s with heap := h', toks := tk' }) :
    wpAny (model Challenge.rw_re0023_01.row.prog w) ((Ar 310 50 fr).deeper (lwEnv fA cD L)) (eval rgIt1 (rgEnv fA cD C L)) Q E s := by
  obtain ⟨h0, g0, d0, k0, o0⟩ := s
  dsimp only at F N hret
  generalize hb : rgIt1 = b
  generalize hs : rgScope = sc
  generalize hs2 : lwS = sc2
  replace hb := hb.symm
  replace hs := hs.symm
  replace hs2 := hs2.symm
  conv at hb => rhs; whnf
  conv at hs => rhs; whnf
  conv at hs2 => rhs; whnf
  subst hb hs hs2
  try dsimp only
  k_steps
  rename News _ _ _ _ => NN
  rename Fr _ _ _ _ => FF
  exact hret _ _ _ _ _ _ FF NN (by assumption)
end
theorem kw99 : True := by
  w_top off
  k_with_none
  exact True.intro
section
variable {prog : Program} {w : World} {A : Around} {R : Result → Shared → Prop} {s : Shared} {elt it0 it1 : PySem.Expr} {x0 x1 : Str} {p0 p1 pos : Pos} {scope : Scope} {env : Env} {it acc : Value}
noncomputable abbrev RC (elt it0 it1 : PySem.Expr) (x0 x1 : Str) (p0 p1 pos : Pos) (scope : Scope) : PySem.Expr := .ListComp elt [⟨.Name x0 p0, it0, [], 0⟩, ⟨.Name x1 p1, it1, [], 0⟩] scope pos
theorem rc_turn1 : compTurn (RC elt it0 it1 x0 x1 p0 p1 pos scope) 1 it acc env = (standAt it1.pos >>= fun _ => pyNext it >>= fun r => match r with
      | none => pure (.done .next)
      | some v => letOwnedTupleGo (.Name x1 p1) it v >>= fun _ => assign (.Name x1 p1) env v >>= fun _ =>
        (eval elt env >>= fun x => call (.builtin "list.append") [acc, x] >>= fun _ => pure ()) >>= fun _ =>
          again (.compLoop (RC elt it0 it1 x0 x1 p0 p1 pos scope) 1 it acc env)) := by rfl
theorem rc_turn0 : compTurn (RC elt it0 it1 x0 x1 p0 p1 pos scope) 0 it acc env = (standAt it0.pos >>= fun _ => pyNext it >>= fun r => match r with
      | none => pure (.done .next)
      | some v => letOwnedTupleGo (.Name x0 p0) it v >>= fun _ => assign (.Name x0 p0) env v >>= fun _ =>
        eval it1 env >>= fun x => standAt it1.pos >>= fun _ => foldedSetIterable it1 env x >>= fun x => holding [x] (pyIter x) >>= fun i => runOwn (.compStart (RC elt it0 it1 x0 x1 p0 p1 pos scope) 1 i acc env) env >>= fun _ =>
          again (.compLoop (RC elt it0 it1 x0 x1 p0 p1 pos scope) 0 it acc env)) := by rfl
theorem rc_loop1 
    (turn : ∀ N : Value → Shared → Prop, wpAny (model prog w) A (pyNext it) (fun r s₁ => match r with
      | none => R (.ok .next) s₁
      | some v => wpAny (model prog w) A (assign (.Name x1 p1) env v) (fun _ s₂ => wpAny (model prog w) A (eval elt env) (fun x s₃ =>
          wpAny (model prog w) A (call (.builtin "list.append") [acc, x]) (fun _ s₄ => codeAny (model prog w) A (.compLoop (RC elt it0 it1 x0 x1 p0 p1 pos scope) 1 it acc env) R s₄) N s₃) N s₂) N s₁) N s) :
    codeAny (model prog w) A (.compLoop (RC elt it0 it1 x0 x1 p0 p1 pos scope) 1 it acc env) R s := by
  refine codeAny_of_tree ?_
  show wpAny _ _ ((compTurn (RC elt it0 it1 x0 x1 p0 p1 pos scope) 1 it acc env).onRaise (fun x => do noteFrame x env; theTreesLotGoes x)) _ _ s
  refine wpAny_noted ?_
  rw [rc_turn1]
  refine wpAny_bind (wpAny_standAt (wpAny_bind (wpAny_mono (turn _) (fun r s₁ h₁ => ?_) fun _ _ h' => h')))
  cases r with
  | none => exact wpAny_pure h₁
  | some v =>
    refine wpAny_bind (wpAny_of_eq (by rfl) ?_)
    exact wpAny_bind (wpAny_mono h₁ (fun _ s₂ h₂ => wpAny_bind (wpAny_bind (wpAny_mono h₂ (fun x s₃ h₃ => wpAny_bind (wpAny_mono h₃
      (fun _ s₄ h₄ => wpAny_pure (wpAny_pure ⟨rfl, h₄⟩)) fun _ _ h' => h')) fun _ _ h' => h'))) fun _ _ h' => h')
theorem rc_loop0 (hs : ∀ x, foldedSetIterable it1 env x = pure x)
    (turn : ∀ N : Value → Shared → Prop, wpAny (model prog w) A (pyNext it) (fun r s₁ => match r with
      | none => R (.ok .next) s₁
      | some v => wpAny (model prog w) A (assign (.Name x0 p0) env v) (fun _ s₂ => wpAny (model prog w) A (eval it1 env) (fun x s₃ =>
          wpAny (model prog w) A (pyIter x) (fun i s₄ => ∀ R' : Result → Shared → Prop, (∀ f s', codeAny (model prog w) A (.compLoop (RC elt it0 it1 x0 x1 p0 p1 pos scope) 0 it acc env) R s' → R' (.ok f) s') →
             codeAny (model prog w) A (.compStart (RC elt it0 it1 x0 x1 p0 p1 pos scope) 1 i acc env) R' s₄) N s₃) N s₂) N s₁) N s) :
    codeAny (model prog w) A (.compLoop (RC elt it0 it1 x0 x1 p0 p1 pos scope) 0 it acc env) R s := by
  refine codeAny_of_tree ?_
  show wpAny _ _ ((compTurn (RC elt it0 it1 x0 x1 p0 p1 pos scope) 0 it acc env).onRaise (fun x => do noteFrame x env; theTreesLotGoes x)) _ _ s
  refine wpAny_noted ?_
  rw [rc_turn0]
  refine wpAny_bind (wpAny_standAt (wpAny_bind (wpAny_mono (turn _) (fun r s₁ h₁ => ?_) fun _ _ h' => h')))
  cases r with
  | none => exact wpAny_pure h₁
  | some v =>
    refine wpAny_bind (wpAny_of_eq (by rfl) ?_)
    refine wpAny_bind (wpAny_mono h₁ (fun _ s₂ h₂ => wpAny_bind (wpAny_mono h₂ (fun x s₃ h₃ => ?_) fun _ _ h' => h')) fun _ _ h' => h')
    refine wpAny_bind (wpAny_standAt (wpAny_bind (wpAny_of_eq (hs x) ?_)))
    refine wpAny_bind (wpAny_holding (wpAny_mono h₃ (fun i s₄ h₄ => wpAny_bind (wpAny_runOwn (h₄ _ fun f s' h' => ?_))) fun _ _ h' => h'))
    exact wpAny_pure ⟨rfl, h'⟩
theorem rc_start1 
    (h0 : codeAny (model prog w) A (.compLoop (RC elt it0 it1 x0 x1 p0 p1 pos scope) 1 it acc env) R s)
    (h : ∀ N : Value → Shared → Prop, wpAny (model prog w) A (pyIter it) (fun it' s' => codeAny (model prog w) A (.compLoop (RC elt it0 it1 x0 x1 p0 p1 pos scope) 1 it' acc env) R s') N s) :
    codeAny (model prog w) A (.compStart (RC elt it0 it1 x0 x1 p0 p1 pos scope) 1 it acc env) R s := by
  refine codeAny_of_tree ?_
  show wpAny _ _ ((compStart (RC elt it0 it1 x0 x1 p0 p1 pos scope) 1 it acc env).onRaise (fun x => do noteFrame x env; standAt theWindowsPlace)) _ _ s
  refine wpAny_notedAt ?_
  unfold compStart
  show wpAny _ _ (ask >>= _) _ _ s
  refine wpAny_bind (wpAny_askSetting (wpAny_ite ?_))
  split
  · first
      | exact wpAny_bind (wpAny_pure (wpAny_pure (And.intro rfl h0)))
      | exact wpAny_pure (And.intro rfl h0)
  · exact wpAny_bind (wpAny_rule (wpAny_bind (wpAny_standAt (wpAny_bind (wpAny_mono (h _) (fun it' s' h' => wpAny_pure (And.intro rfl h')) fun _ _ x => x)))))
end
end Mine
end

section
open PySem PySem.W PyProof.Rows
theorem Mine.freshLN : True ∧ True := by
  w_top off
  first
  | (walk1; fail)
  | exact ⟨True.intro, True.intro⟩
end

section -- LN
open PySem PySem.W PyProof.Rows
set_option maxRecDepth 100000
set_option maxHeartbeats 1000000
set_option linter.unusedVariables false
namespace Mine
inductive Made (news : List (Addr × Obj)) : List Value → List (List Int) → Prop
  | nil : Made news [] []
  | cons {a : Addr} {ws : List Value} {r : List Int} {n : Nat} {ys : List Value} {rs : List (List Int)} : (a, listOf ws.toArray n) ∈ news → IntsAre ws r → Made news ys rs → Made news (.ref a :: ys) (r :: rs)
theorem Made.mono {news news' : List (Addr × Obj)} (k : ∀ q ∈ news, q ∈ news') : ∀ {ys rs}, Made news ys rs → Made news' ys rs
  | _, _, .nil => .nil
  | _, _, .cons h i r => .cons (k _ h) i (r.mono k)
theorem Made.snoc {news : List (Addr × Obj)} {a : Addr} {ws : List Value} {r : List Int} {n : Nat} (h : (a, listOf ws.toArray n) ∈ news) (i : IntsAre ws r) : ∀ {ys rs}, Made news ys rs → Made news (ys ++ [.ref a]) (rs ++ [r])
  | _, _, .nil => .cons h i .nil
  | _, _, .cons h' i' r' => .cons h' i' (r'.snoc h i)
theorem Made.len {news : List (Addr × Obj)} : ∀ {ys rs}, Made news ys rs → ys.length = rs.length
  | _, _, .nil => rfl
  | _, _, .cons _ _ r => by simp [r.len]
/-- a number put into a list at each place from i on -/
noncomputable def insAll (k : Int) (r : List Int) : Nat → Nat → List (List Int)
  | 0, _ => []
  | j + 1, i => (r.take (i + 1) ++ [k] ++ r.drop (i + 1)) :: insAll k r j (i + 1)
theorem insAll_len (k : Int) (r : List Int) : ∀ j i, (insAll k r j i).length = j
  | 0, _ => rfl
  | j + 1, i => by simp [insAll, insAll_len k r j]
section
variable {fA : Addr} {cD : Value} {w : World} {p : Program} {loose : List Str} {mean : ExcName → Option Value} {mg mb : Str → Option Value} {g : Heap} {s : Shared} {fr : List Env} {L C D ra I1 : Addr} {nR nD : Nat} {tt : Tok} {m : Str → Option Value} {vR : List Value} {oC o3 : Obj}
  {Q E : Value → Shared → Prop} {A : Around} {tk3 : Tok} {base : List (Addr × Obj)} {r : List Int} {k : Int} {R : Result → Shared → Prop} {it0 : PySem.Expr} {p0 p1 pos : Pos}
structure RS (g : Heap) (L C D : Addr) (m : Str → Option Value) (ys : List Value) (news : List (Addr × Obj)) (h : Heap) (m' : Str → Option Value) : Prop where
  F : Fr g L h m
  ns : h.Ns C m'
  N : News g L h ((D, LCg.lst ys) :: news)
  off : ∀ q ∈ news, @Ne Nat q.1 C ∧ @Ne Nat q.1 D
structure RF (g : Heap) (L C D : Addr) : Prop where
  c0 : g.get? C = none
  d0 : g.get? D = none
  cl : @Ne Nat C L
  dl : @Ne Nat D L
  dc : @Ne Nat D C
theorem RS.keep {ys : List Value} {news : List (Addr × Obj)} {h h' : Heap} {m' : Str → Option Value} {I : Addr} (x : RS g L C D m ys news h m') (f : RF g L C D) (i0 : g.get? I = none) (il : @Ne Nat I L) (ic : @Ne Nat I C) (id : @Ne Nat I D) (offI : ∀ q ∈ news, @Ne Nat q.1 I)
    (hk : ∀ b o, b ∉ [I] → h.get? b = some o → h'.get? b = some o) : RS g L C D m ys news h' m' := by
  have one : ∀ b : Addr, b ≠ I → ∀ o, h.get? b = some o → h'.get? b = some o := fun b hb o e => hk b o (by simpa using hb) e
  refine ⟨⟨x.F.ns.at' fun o e => one L (Ne.symm il) o e, fun b o e => one b (fun z => by rw [z, i0] at e; cases e) o (x.F.keep b o e), x.F.above⟩, x.ns.at' fun o e => one C (Ne.symm ic) o e, fun q hq => ⟨one _ ?_ _ (x.N q hq).1, (x.N q hq).2⟩, x.off⟩
  rcases List.mem_cons.mp hq with rfl | hq
  · exact Ne.symm id
  · exact offI q hq
theorem rc_inner {I0 : Addr} {o0 : Obj} (X : (hd.heap_1 w.params).In g) (T : Top p loose mean mg mb g) (f : RF g L C D) (i0 : g.get? I1 = none) (il : @Ne Nat I1 L) (ic : @Ne Nat I1 C) (id : @Ne Nat I1 D) (j0 : g.get? I0 = none) (jl : @Ne Nat I0 L) (jc : @Ne Nat I0 C) (jd : @Ne Nat I0 D) (ji : @Ne Nat I0 I1)
    (hb1 : (ra, listOf vR.toArray nR) ∈ base) (hb2 : (L + 3, o3) ∈ base) (c3 : o3.data = .cell (some (.int k tk3))) (iR : IntsAre vR r) (hr : r.length < 10) :
    ∀ (j i : Nat), i + j = r.length → ∀ (h : Heap) (tk : Nat) (m' : Str → Option Value) (ys : List Value) (rs : List (List Int)) (news : List (Addr × Obj)),
      RS g L C D m ys news h m' → m' "ring" = some (.ref ra) → (∀ q ∈ base, q ∈ news) → (∀ q ∈ news, @Ne Nat q.1 I1) → (∀ q ∈ news, @Ne Nat q.1 I0) → h.get? I0 = some o0 → Made news ys rs → IsRangeIter h I1 (1 + (i : Nat) * 1) ((r.length : Int) - (i : Nat)) 1 → ys.length + j < 1000 →
      (∀ h' tk' m'' ys' news', RS g L C D m ys' news' h' m'' → (∀ q ∈ base, q ∈ news') → (∀ q ∈ news', @Ne Nat q.1 I0) → h'.get? I0 = some o0 → Made news' ys' (rs ++ insAll k r j i) → R (.ok .next) { s with heap := h', toks := tk' }) →
      codeAny (model Challenge.rw_re0023_01.row.prog w) ((Ar 310 50 fr).deeper (lwEnv fA cD L)) (.compLoop (RC rgElt it0 rgIt1 "ring" "i" p0 p1 pos rgScope) 1 (.ref I1) (.ref D) (rgEnv fA cD C L)) R { s with heap := h, toks := tk } := by
  have W := LCg.range_walks (prog := Challenge.rw_re0023_01.row.prog) (w := w) (A := (Ar 310 50 fr).deeper (lwEnv fA cD L)) (I := I1) rfl 1 r.length
  intro j
  induction j with
  | zero =>
    intro i hi h tk m' ys rs news x hm hbase offI off0 get0 made hst hy fin
    refine rc_loop1 fun N => ?_
    have hi' : i = r.length := by omega
    subst hi'
    refine W.done _ _ _ hst fun h' tk' hk => ?_
    rw [insAll, List.append_nil] at fin
    exact fin h' tk' m' ys news (x.keep f i0 il ic id offI hk) hbase off0 (hk _ _ (by simpa using ji) get0) made
  | succ j ih =>
    intro i hi h tk m' ys rs news x hm hbase offI off0 get0 made hst hy fin
    refine rc_loop1 fun N => ?_
    refine W.item i _ _ _ (by omega) hst fun v h1 tk1 hP hst1 hk1 => ?_
    obtain ⟨t, rfl⟩ := hP
    have x1 := x.keep f i0 il ic id offI hk1
    refine wpAny_assign_Name (wpAny_storeName_local (lookup_relabel_local rfl) x1.ns (fun h2 hn2 hs2 => ?_) rfl)
    have hst2 : IsRangeIter h2 I1 (1 + ((i + 1 : Nat) : Int) * 1) ((r.length : Int) - ((i + 1 : Nat) : Int)) 1 := W.frame _ _ _ hst1 fun b hb o e => hs2.extBut b o (by rw [List.mem_singleton.mp hb]; exact ic) e
    have get2 : h2.get? I0 = some o0 := hs2.extBut _ _ jc (hk1 _ _ (by simpa using ji) get0)
    have F2 : Fr g L h2 m := x1.F.change hs2 f.cl f.c0
    obtain ⟨oC, heC, hoC⟩ := LCg.ns_obj hn2
    obtain ⟨oI, hst2', eI⟩ : ∃ oI, h2.get? I1 = some oI ∧ ∀ h : Heap, h.get? I1 = some oI → IsRangeIter h I1 (1 + ((i + 1 : Nat) : Int) * 1) ((r.length : Int) - ((i + 1 : Nat) : Int)) 1 := ⟨_, hst2, fun _ e => e⟩
    have N2 : News g L h2 ((C, oC) :: (ra, listOf vR.toArray nR) :: (L + 3, o3) :: ((I1, oI) :: (I0, o0) :: (D, LCg.lst ys) :: news)) := by
      have old : ∀ q ∈ ((D, LCg.lst ys) :: news), h2.get? q.1 = some q.2 ∧ q.1 ≠ L ∧ g.get? q.1 = none := fun q hq => by
        refine ⟨hs2.extBut _ _ ?_ (x1.N q hq).1, (x1.N q hq).2⟩
        rcases List.mem_cons.mp hq with rfl | hq
        · exact f.dc
        · exact (x.off q hq).1
      intro q hq
      rcases List.mem_cons.mp hq with rfl | hq
      · exact ⟨heC, f.cl, f.c0⟩
      · rcases List.mem_cons.mp hq with rfl | hq
        · exact old _ (.tail _ (hbase _ hb1))
        · rcases List.mem_cons.mp hq with rfl | hq
          · exact old _ (.tail _ (hbase _ hb2))
          · rcases List.mem_cons.mp hq with rfl | hq
            · exact ⟨hst2', il, i0⟩
            · rcases List.mem_cons.mp hq with rfl | hq
              · exact ⟨get2, jl, j0⟩
              · exact old q hq
    refine ring_elt (s := { s with heap := h2, toks := tk1 + 1 }) (ti := t) (i := 1 + (i : Int)) X T F2 hoC N2 c3 iR ((if_neg (by decide)).trans hm) (by simp) (by omega) (by omega) hr fun h3 tk3' a ws F3 N3 hw off3 => ?_
    have zD := (N3 (D, LCg.lst ys) (by simp)).1
    refine append_at (hsz := by show ys.toArray.size ≤ sizeLine; rw [List.size_toArray, sizeLine_eq]; omega) zD fun h4 hs4 hD4 => ?_
    have aD : @Ne Nat D a := off3 (D, LCg.lst ys) (by simp)
    have aC : @Ne Nat C a := off3 (C, oC) (by simp)
    have aI : @Ne Nat I1 a := off3 (I1, oI) (by simp)
    have x4 : RS g L C D m (ys ++ [.ref a]) ((a, listOf ws.toArray 0) :: news) h4 (fun y => if y = "i" then some (.int (1 + (i : Int)) t) else m' y) := by
      refine ⟨F3.change hs4 f.dl f.d0, ((hoC.ns (N3 (C, oC) (by simp)).1)).sameBut hs4 (Ne.symm f.dc), fun q hq => ?_, fun q hq => ?_⟩
      · rcases List.mem_cons.mp hq with rfl | hq
        · exact ⟨hD4.trans (congrArg some (LCg.lst_snoc ys (.ref a))), f.dl, f.d0⟩
        · have hne : q.1 ≠ D := by
            rcases List.mem_cons.mp hq with rfl | hq
            · exact Ne.symm aD
            · exact (x.off q hq).2
          have hin : q ∈ ((a, listOf ws.toArray 0) :: (C, oC) :: (ra, listOf vR.toArray nR) :: (L + 3, o3) :: ((I1, oI) :: (I0, o0) :: (D, LCg.lst ys) :: news)) := by
            rcases List.mem_cons.mp hq with rfl | hq
            · exact .head _
            · exact .tail _ (.tail _ (.tail _ (.tail _ (.tail _ (.tail _ (.tail _ hq))))))
          exact ⟨hs4.extBut _ _ hne (N3 q hin).1, (N3 q hin).2⟩
      · rcases List.mem_cons.mp hq with rfl | hq
        · exact ⟨Ne.symm aC, Ne.symm aD⟩
        · exact x.off q hq
    have hst4 : IsRangeIter h4 I1 (1 + ((i + 1 : Nat) : Int) * 1) ((r.length : Int) - ((i + 1 : Nat) : Int)) 1 := by
      exact eI _ (hs4.extBut _ _ id (N3 (I1, oI) (by simp)).1)
    refine ih (i + 1) (by omega) h4 tk3' _ (ys ++ [.ref a]) (rs ++ [r.take (i + 1) ++ [k] ++ r.drop (i + 1)]) ((a, listOf ws.toArray 0) :: news) x4 ((if_neg (by decide)).trans hm) (fun q hq => .tail _ (hbase q hq)) (fun q hq => ?_) (fun q hq => ?_) (hs4.extBut _ _ jd (N3 (I0, o0) (by simp)).1) ((made.mono fun q hq => .tail _ hq).snoc (.head _) ?_) hst4 (by rw [List.length_append, List.length_singleton]; omega) fun h' tk' m'' ys' news' x' hb' off' get' made' => ?_
    · rcases List.mem_cons.mp hq with rfl | hq
      · exact Ne.symm aI
      · exact offI q hq
    · rcases List.mem_cons.mp hq with rfl | hq
      · exact Ne.symm (off3 (I0, o0) (by simp))
      · exact off0 q hq
    · have e : (1 + (i : Int)).toNat = i + 1 := by omega
      rw [e] at hw
      exact hw
    · rw [List.append_assoc] at made'
      exact fin h' tk' m'' ys' news' x' hb' off' get' made'
/-- the rings of one turn -/
noncomputable def insRings (k : Int) : List (List Int) → List (List Int)
  | [] => []
  | r :: rs => insAll k r r.length 0 ++ insRings k rs
theorem rc_outer {I0 rl : Addr} {vs : Array Value} (X : (hd.heap_1 w.params).In g) (T : Top p loose mean mg mb g) (f : RF g L C D) (i0 : g.get? I0 = none) (il : @Ne Nat I0 L) (ic : @Ne Nat I0 C) (id : @Ne Nat I0 D)
    (hb2 : (L + 3, o3) ∈ base) (c3 : o3.data = .cell (some (.int k tk3))) (hne : @Ne Nat rl I0) (hrl : ∃ n, (rl, listOf vs n) ∈ base) :
    ∀ (rs0 : List (List Int)) (i : Nat), i + rs0.length = vs.size → (Made base (vs.toList.drop i) rs0) → (∀ r ∈ rs0, r.length < 10) → ∀ (h : Heap) (tk : Nat) (m' : Str → Option Value) (ys : List Value) (rs : List (List Int)) (news : List (Addr × Obj)),
      RS g L C D m ys news h m' → (∀ q ∈ base, q ∈ news) → (∀ q ∈ news, @Ne Nat q.1 I0) → Made news ys rs → h.IsListIter I0 rl i → ys.length + 10 * rs0.length < 900 →
      (∀ h' tk' m'' ys' news', RS g L C D m ys' news' h' m'' → (∀ q ∈ base, q ∈ news') → Made news' ys' (rs ++ insRings k rs0) → R (.ok .next) { s with heap := h', toks := tk' }) →
      codeAny (model Challenge.rw_re0023_01.row.prog w) ((Ar 310 50 fr).deeper (lwEnv fA cD L)) (.compLoop (RC rgElt it0 rgIt1 "ring" "i" p0 p1 pos rgScope) 0 (.ref I0) (.ref D) (rgEnv fA cD C L)) R { s with heap := h, toks := tk } := by
  have W := Walks.list (prog := Challenge.rw_re0023_01.row.prog) (w := w) (A := (Ar 310 50 fr).deeper (lwEnv fA cD L)) rfl I0 rl hne vs
  obtain ⟨nl, hrl⟩ := hrl
  intro rs0
  induction rs0 with
  | nil =>
    intro i hi _ _ h tk m' ys rs news x hbase offI made hst hy fin
    refine rc_loop0 (fun _ => by with_unfolding_all rfl) fun N => ?_
    have hi' : i = vs.size := by simpa using hi
    subst hi'
    refine W.done _ _ _ ⟨hst, PySem.IsL.isList (x.N _ (.tail _ (hbase _ hrl))).1⟩ fun h' tk' hk => ?_
    rw [insRings, List.append_nil] at fin
    exact fin h' tk' m' ys news (x.keep f i0 il ic id offI hk) hbase made
  | cons r rs0 ih =>
    intro i hi hm hlen h tk m' ys rs news x hbase offI made hst hy fin
    rw [List.length_cons] at hi hy
    refine rc_loop0 (fun _ => by with_unfolding_all rfl) fun N => ?_
    refine W.item i _ _ _ (by omega) ⟨hst, PySem.IsL.isList (x.N _ (.tail _ (hbase _ hrl))).1⟩ fun v h1 tk1 hP hst1 hk1 => ?_
    have hv : vs.toList.drop i = v :: vs.toList.drop (i + 1) := by
      have hP' : vs.toList[i]? = some v := by rw [Array.getElem?_toList]; exact hP
      have hlt : i < vs.toList.length := by rw [Array.length_toList]; omega
      rw [List.drop_eq_getElem_cons hlt]
      congr 1
      exact Option.some.inj ((List.getElem?_eq_getElem hlt).symm.trans hP')
    rw [hv] at hm
    cases hm with
    | @cons ra vR _ nR _ _ hra iR hm' =>
    have x1 := x.keep f i0 il ic id offI hk1
    have hr := hlen r (.head _)
    refine wpAny_assign_Name (wpAny_storeName_local (lookup_relabel_local rfl) x1.ns (fun h2 hn2 hs2 => ?_) rfl)
    have hst2 := W.frame _ _ _ hst1 fun b hb o e => hs2.extBut b o (by
      rcases List.mem_cons.mp hb with rfl | hb
      · exact ic
      · rw [List.mem_singleton.mp hb]; exact (x.off _ (hbase _ hrl)).1) e
    have F2 : Fr g L h2 m := x1.F.change hs2 f.cl f.c0
    obtain ⟨oC, heC, hoC⟩ := LCg.ns_obj hn2
    obtain ⟨oI, hst2', eI⟩ : ∃ oI, h2.get? I0 = some oI ∧ ∀ h : Heap, h.get? I0 = some oI → h.IsListIter I0 rl (i + 1) := by
      obtain ⟨o, e, r⟩ := hst2.1
      exact ⟨o, e, fun _ e' => ⟨o, e', r⟩⟩
    have N2 : News g L h2 ((C, oC) :: (ra, listOf vR.toArray nR) :: (L + 3, o3) :: ((I0, oI) :: (D, LCg.lst ys) :: news)) := by
      have old : ∀ q ∈ ((D, LCg.lst ys) :: news), h2.get? q.1 = some q.2 ∧ q.1 ≠ L ∧ g.get? q.1 = none := fun q hq => by
        refine ⟨hs2.extBut _ _ ?_ (x1.N q hq).1, (x1.N q hq).2⟩
        rcases List.mem_cons.mp hq with rfl | hq
        · exact f.dc
        · exact (x.off q hq).1
      intro q hq
      rcases List.mem_cons.mp hq with rfl | hq
      · exact ⟨heC, f.cl, f.c0⟩
      · rcases List.mem_cons.mp hq with rfl | hq
        · exact old _ (.tail _ (hbase _ hra))
        · rcases List.mem_cons.mp hq with rfl | hq
          · exact old _ (.tail _ (hbase _ hb2))
          · rcases List.mem_cons.mp hq with rfl | hq
            · exact ⟨hst2', il, i0⟩
            · exact old q hq
    refine ring_it (s := { s with heap := h2, toks := tk1 + 1 }) X T F2 hoC N2 iR (if_pos rfl) hr fun h3 tk3' rr t u v F3 N3 hrange => ?_
    have hn3 : Builtin.Range.rangeSize 1 ((r.length : Int) + 1) 1 = (r.length : Int) := by
      rw [rangeSize_nat]; omega
    refine wpAny_pyIter_range hrange (small_one (by omega) (by omega) (by omega) (by omega)) fun R' hR' => ?_
    have fresh := fresh_fr F3 (Nat.le_refl _)
    have lt3 : ∀ q ∈ ((C, oC) :: (ra, listOf vR.toArray nR) :: (L + 3, o3) :: ((I0, oI) :: (D, LCg.lst ys) :: news)), @Ne Nat q.1 h3.objs.size := fun q hq => Nat.ne_of_lt (Heap.lt_size (N3 q hq).1)
    have up : ∀ b o, h3.get? b = some o → (h3.push { cls := .type "range_iterator", data := .fields #[rawInt 1, rawInt (Builtin.Range.rangeSize 1 ((r.length : Int) + 1) 1), rawInt 1] }).get? b = some o := fun b o e => Heap.get?_push_of_some _ e
    have x4 : RS g L C D m ys news (h3.push { cls := .type "range_iterator", data := .fields #[rawInt 1, rawInt (Builtin.Range.rangeSize 1 ((r.length : Int) + 1) 1), rawInt 1] }) (fun y => if y = "ring" then some (.ref ra) else m' y) :=
      ⟨F3.push _, hoC.ns (up _ _ (N3 (C, oC) (by simp)).1), fun q hq => ⟨up _ _ (N3 q (.tail _ (.tail _ (.tail _ (.tail _ hq))))).1, (N3 q (.tail _ (.tail _ (.tail _ (.tail _ hq))))).2⟩, x.off⟩
    have st4 : IsRangeIter (h3.push { cls := .type "range_iterator", data := .fields #[rawInt 1, rawInt (Builtin.Range.rangeSize 1 ((r.length : Int) + 1) 1), rawInt 1] }) h3.objs.size (1 + ((0 : Nat) : Int) * 1) ((r.length : Int) - ((0 : Nat) : Int)) 1 := by
      show (h3.push _).get? _ = some _
      rw [hn3]
      simpa using Heap.get?_push_size _ rfl
    have W1 := LCg.range_walks (prog := Challenge.rw_re0023_01.row.prog) (w := w) (A := (Ar 310 50 fr).deeper (lwEnv fA cD L)) (I := h3.objs.size) rfl 1 r.length
    have loop := rc_inner (fA := fA) (cD := cD) (fr := fr) (R := R') (s := s) (it0 := it0) (p0 := p0) (p1 := p1) (pos := pos) (I1 := h3.objs.size) (I0 := I0) (o0 := oI) X T f fresh.1 fresh.2 (Ne.symm (lt3 (C, oC) (by simp))) (Ne.symm (lt3 (D, LCg.lst ys) (by simp))) i0 il ic id (lt3 (I0, oI) (by simp)) hra hb2 c3 iR hr r.length 0 (by omega) _ tk3' _ ys rs news x4 (if_pos rfl) hbase
      (fun q hq => lt3 q (by simp [hq])) offI (up _ _ (N3 (I0, oI) (by simp)).1) made st4 (by omega) fun h' tk' m'' ys' news' x' hb' off' get' made' => hR' .next _ (by
        refine ih (i + 1) (by omega) hm' (fun r' hr' => hlen r' (.tail _ hr')) h' tk' m'' ys' _ news' x' hb' off' made' (eI _ get') ?_ fun h5 tk5 m5 ys5 news5 x5 b5 made5 => ?_
        · have l1 := made'.len
          have l2 := made.len
          rw [List.length_append, insAll_len] at l1
          omega
        · rw [List.append_assoc] at made5
          exact fin h5 tk5 m5 ys5 news5 x5 b5 made5)
    exact rc_start1 loop fun N' => W1.self 0 _ _ _ st4 loop
end
end Mine
end

section
open PySem PySem.W PyProof.Rows
theorem Mine.freshLO : True ∧ True := by
  w_top off
  first
  | (walk1; fail)
  | exact ⟨True.intro, True.intro⟩
end

section -- LO
open PySem PySem.W PyProof.Rows
set_option maxRecDepth 100000
set_option maxHeartbeats 1000000
set_option linter.unusedVariables false
namespace Mine
section
variable {fA : Addr} {cD : Value} {w : World} {p : Program} {loose : List Str} {mean : ExcName → Option Value} {mg mb : Str → Option Value} {g : Heap} {s : Shared} {fr : List Env} {L rl : Addr} {nR : Nat} {m : Str → Option Value} {o3 : Obj}
  {tk3 : Tok} {base : List (Addr × Obj)} {k : Int} {p0 p1 pos py pq spos : Pos} {vs : List Value} {rs0 : List (List Int)}
theorem rings_step {Q : Flow → Shared → Prop} (X : (hd.heap_1 w.params).In g) (T : Top p loose mean mg mb g) (F : Fr g L s.heap m) (N : News g L s.heap base)
    (hb2 : (L + 3, o3) ∈ base) (c3 : o3.data = .cell (some (.int k tk3))) (hrl : (rl, listOf vs.toArray nR) ∈ base) (made : Made base vs rs0) (hlen : ∀ r ∈ rs0, r.length < 10) (hn : rs0.length < 20) (hm : m "rings" = some (.ref rl))
    (hsw : swapsWith (RC rgElt (.Name "rings" pq) rgIt1 "ring" "i" p0 p1 pos rgScope) (some (.Name "rings" py)) spos.line (lwEnv fA cD L) = pure true)
    (hq : ∀ h tk D ys news, Fr g L h (fun y => if y = "rings" then some (.ref D) else m y) → News g L h ((D, listOf ys.toArray ys.length) :: news) → (∀ q ∈ base, q ∈ news) → (∀ q ∈ news, @Ne Nat q.1 D) → Made news ys (insRings k rs0) → Q .next { s with heap := h, toks := tk }) :
    wpAny (model Challenge.rw_re0023_01.row.prog w) ((Ar 310 50 fr).deeper (lwEnv fA cD L)) (exec (.Assign [.Name "rings" py] (RC rgElt (.Name "rings" pq) rgIt1 "ring" "i" p0 p1 pos rgScope) spos) (lwEnv fA cD L)) Q (fun _ _ => False) s := by
  rw [exec_Assign_Name_used _ _ _ _ hsw]
  refine wpAny_bind (wpAny_standAt (wpAny_bind ?_))
  have hl := PySem.IsL.isList (n := nR) (N _ hrl).1
  have hlt : rl < s.heap.objs.size := Heap.lt_size (N _ hrl).1
  refine wpAny_bind (wpAny_mono (wpAny_comprehension_free (cl := [("k", L + 3)]) (use := some (assign (.Name "rings" py) (lwEnv fA cD L))) (Q := fun _ s' => Q .next s') rfl (fun _ => rfl) (by with_unfolding_all rfl) rfl (by decide) (nameX_L F hm ?_ rfl rfl)) (fun _ s' hq => wpAny_pure (wpAny_pure hq)) fun _ _ e => e)
  refine wpAny_pyIter_list hl ?_
  generalize hH1 : s.heap.push { cls := .type "list_iterator", data := .fields #[.ref rl, .int 0 0] } = H1
  have up1 : ∀ b o, s.heap.get? b = some o → H1.get? b = some o := fun b o e => hH1 ▸ Heap.get?_push_of_some _ e
  have it1 : H1.IsListIter s.heap.objs.size rl 0 := ⟨_, hH1 ▸ Heap.get?_push_size _ rfl, rfl, rfl⟩
  have z1 : H1.objs.size = s.heap.objs.size + 1 := by rw [← hH1, Heap.size_push]
  refine wpAny_newObj_type ?_
  dsimp only
  generalize hH2 : H1.push { cls := .type "list", dict := none, data := .seq ([] : List Value).toArray } = H2
  have up2 : ∀ b o, H1.get? b = some o → H2.get? b = some o := fun b o e => hH2 ▸ Heap.get?_push_of_some _ e
  have lst2 : H2.get? H1.objs.size = some (LCg.lst []) := hH2 ▸ Heap.get?_push_size _ rfl
  have z2 : H2.objs.size = s.heap.objs.size + 2 := by rw [← hH2, Heap.size_push, z1]
  refine wpAny_newFunctionEnv (by decide) (by intro y hy; simp at hy) (fun H3 hns hsb => ?_) rfl
  dsimp only at hns hsb ⊢
  have up3 : ∀ b o, H2.get? b = some o → H3.get? b = some o := fun b o e => hsb.extBut b o (Nat.ne_of_lt (Heap.lt_size e)) (Heap.get?_push_of_some _ e)
  have F1 := F.keeps up1
  have F3 : Fr g L H3 m := (F1.keeps up2).keeps up3
  have nI := fresh_fr F (Nat.le_refl s.heap.objs.size)
  have nD := fresh_fr F1 (Nat.le_refl H1.objs.size)
  have nC := fresh_fr (F1.keeps up2) (Nat.le_refl H2.objs.size)
  have hDC : @Ne Nat H1.objs.size H2.objs.size := by omega
  have f : RF g L H2.objs.size H1.objs.size := ⟨nC.1, nD.1, nC.2, nD.2, hDC⟩
  have old : ∀ q ∈ base, @LT.lt Nat _ q.1 s.heap.objs.size := fun q hq => Heap.lt_size (N q hq).1
  have x : RS g L H2.objs.size H1.objs.size m [] base H3 (fun _ => none) := by
    refine ⟨F3, hns, fun q hq => ?_, fun q hq => ?_⟩
    · rcases List.mem_cons.mp hq with rfl | hq
      · exact ⟨up3 _ _ lst2, nD.2, nD.1⟩
      · exact ⟨up3 _ _ (up2 _ _ (up1 _ _ (N q hq).1)), (N q hq).2⟩
    · have := old q hq
      exact ⟨neN (by omega), neN (by omega)⟩
  have it3 : H3.IsListIter s.heap.objs.size rl 0 := by
    obtain ⟨o, e, r⟩ := it1
    exact ⟨o, up3 _ _ (up2 _ _ e), r⟩
  have W0 := Walks.list (prog := Challenge.rw_re0023_01.row.prog) (w := w) (A := (Ar 310 50 fr).deeper (lwEnv fA cD L)) rfl s.heap.objs.size rl (Nat.ne_of_lt hlt) vs.toArray
  have loop := rc_outer (fA := fA) (cD := cD) (fr := fr) (R := compPost (model Challenge.rw_re0023_01.row.prog w) ((Ar 310 50 fr).deeper (lwEnv fA cD L)) (fun _ _ => False) (some (assign (.Name "rings" py) (lwEnv fA cD L))) (fun _ s' => Q .next s') (.ref H1.objs.size) H2.objs.size) (s := s) (it0 := .Name "rings" pq) (p0 := p0) (p1 := p1) (pos := pos) (vs := vs.toArray) X T f nI.1 nI.2 (by refine neN ?_; omega) (by refine neN ?_; omega) hb2 c3 (Nat.ne_of_lt hlt) ⟨nR, hrl⟩ rs0 0 (by rw [List.size_toArray, made.len]; omega)
    (by simpa using made) hlen H3 s.toks (fun _ => none) [] [] base x (fun _ h => h) (fun q hq => Nat.ne_of_lt (old q hq)) .nil it3 (by rw [List.length_nil]; omega) fun h' tk' m'' ys' news' x' hb' made' => ?_
  · exact codeAny_compStart_list loop (W0.self 0 _ _ _ ⟨it3, hl.at fun o e => up3 _ _ (up2 _ _ (up1 _ _ e))⟩ loop)
  · rw [List.nil_append] at made'
    show wpAny _ _ (assign (.Name "rings" py) (lwEnv fA cD L) (.ref H1.objs.size)) _ _ _
    refine wpAny_assign_Name (wpAny_storeName_local rfl x'.F.ns (fun h₂ hn₂ hs₂ => ?_) rfl)
    refine ⟨m'', x'.ns.sameBut hs₂ f.cl, fun h₃ hs₃ => ?_⟩
    have F₂ : Fr g L h₂ (fun y => if y = "rings" then some (.ref H1.objs.size) else m y) := x'.F.set hn₂ hs₂
    refine hq h₃ _ H1.objs.size ys' news' (F₂.change hs₃ f.cl f.c0) (fun q hq => ?_) hb' (fun q hq => (x'.off q hq).2) made'
    have e2 := hs₂.extBut _ _ (x'.N q hq).2.1 (x'.N q hq).1
    refine ⟨hs₃.extBut _ _ ?_ e2, (x'.N q hq).2⟩
    rcases List.mem_cons.mp hq with rfl | hq
    · exact f.dc
    · exact (x'.off q hq).1
end
end Mine
end

section
open PySem PySem.W PyProof.Rows
theorem Mine.freshLP : True ∧ True := by
  w_top off
  first
  | (walk1; fail)
  | exact ⟨True.intro, True.intro⟩
end

section -- LP
open PySem PySem.W PyProof.Rows
set_option maxRecDepth 100000
set_option maxHeartbeats 1000000
set_option linter.unusedVariables false
namespace Mine
theorem lwB11 : ∃ pk pt e1 e2 e3 kk p1 p2 p3 py pq q0 q1 pos spos fpos, lwB.drop 11 = .For (.Name "k" pk) (.Tuple [.Constant (.int 1) e1 p1, .Constant (.int 2) e2 p2, .Constant (.int 3) e3 p3] kk pt) [.Assign [.Name "rings" py] (RC rgElt (.Name "rings" pq) rgIt1 "ring" "i" q0 q1 pos rgScope) spos] [] fpos :: lwB.drop 12 ∧ py.line = pos.line := ⟨_, _, _, _, _, _, _, _, _, _, _, _, _, _, _, _, by with_unfolding_all rfl, by rfl⟩
section
variable {fA : Addr} {cD : Value} {w : World} {p : Program} {loose : List Str} {mean : ExcName → Option Value} {mg mb : Str → Option Value} {g : Heap} {s : Shared} {fr : List Env} {L rl : Addr} {nR : Nat} {m : Str → Option Value} {o3 : Obj} {rest : List (Addr × Obj)}
theorem kw100 : True := by
  w_top off
  k_with "eval Name" => ((k_here; k_dflt (refine' nameX_L (by k_asm) (by first | assumption | rfl) ?_ (by rfl) (by rfl); k_whole)))
  exact True.intro
theorem law_10 {Q : Flow → Shared → Prop} (X : (hd.heap_1 w.params).In g) (T : Top p loose mean mg mb g) (F : Fr g L s.heap m) (N : News g L s.heap rest)
   (hq : ∀ h' tk' l l0 t, Fr g L h' (fun y => if y = "rings" then some (.ref l) else m y) → News g L h' ((l, listOf #[.ref l0] 0) :: (l0, listOf #[.int 0 t] 0) :: rest) → (∀ q ∈ rest, @LT.lt Nat _ q.1 l0) → @LT.lt Nat _ l0 l → Q .next { s with heap := h', toks := tk' }) :
    wpAny (model Challenge.rw_re0023_01.row.prog w) ((Ar 310 50 fr).deeper (lwEnv fA cD L)) (execs ((lwB.drop 10).take 1) (lwEnv fA cD L)) Q (fun _ _ => False) s := by
  obtain ⟨h0, g0, d0, k0, o0⟩ := s
  dsimp only at F N hq
  generalize hb : (lwB.drop 10).take 1 = b
  generalize hs : lwS = sc
  replace hb := hb.symm
  replace hs := hs.symm
  conv at hb => rhs; whnf
  conv at hs => rhs; whnf
  subst hb hs
  try dsimp only [List.take_zero]
  k_steps
  rename News _ _ _ _ => NN
  rename Fr _ _ _ _ => FF
  rename _ ∧ AllLt _ _ => LL
  exact hq _ _ _ _ _ FF NN (by assumption) LL.1
end
theorem kw101 : True := by
  w_top off
  k_with_none
  exact True.intro
theorem Made.filter {news news' : List (Addr × Obj)} (k : ∀ a ws n, (a, listOf ws n) ∈ news → (a, listOf ws n) ∈ news') : ∀ {ys rs}, Made news ys rs → Made news' ys rs
  | _, _, .nil => .nil
  | _, _, .cons h i r => .cons (k _ _ _ h) i (r.filter k)
noncomputable def ringsAt : Nat → List (List Int)
  | 0 => [[0]]
  | j + 1 => insRings ((j : Int) + 1) (ringsAt j)
theorem rings_small : ∀ i, i < 3 → (∀ r ∈ ringsAt i, r.length < 10) ∧ (ringsAt i).length < 20 := by decide +kernel
theorem ringsAt3 : ringsAt 3 = [[0, 3, 2, 1], [0, 2, 3, 1], [0, 2, 1, 3], [0, 3, 1, 2], [0, 1, 3, 2], [0, 1, 2, 3]] := by decide +kernel
section
variable {fA : Addr} {cD : Value} {w : World} {p : Program} {loose : List Str} {mean : ExcName → Option Value} {mg mb : Str → Option Value} {g : Heap} {s : Shared} {fr : List Env} {L rl : Addr} {nR : Nat} {m : Str → Option Value} {o3 : Obj} {base : List (Addr × Obj)} {vs : List Value}
local macro_rules | `(tactic| walk_at "pyIter ref") => `(tactic| k_extra "my pyIter ref")
theorem kw102 : True := by
  w_top off
  k_with "my pyIter ref" => ((k_here; (try dsimp only); refine Stop.it ?_))
  exact True.intro
theorem law_11 {Q : Flow → Shared → Prop} {v3 : Option Value} (X : (hd.heap_1 w.params).In g) (T : Top p loose mean mg mb g) (F : Fr g L s.heap m) (N : News g L s.heap ((L + 3, o3) :: base)) (off3 : ∀ q ∈ base, @Ne Nat q.1 (L + 3))
    (c3 : o3.data = .cell v3) (hm : m "rings" = some (.ref rl)) (hrl : (rl, listOf vs.toArray nR) ∈ base) (made : Made base vs [[0]])
    (hq : ∀ h' tk' m' rl' vs' nR' o3' v3' news, Fr g L h' m' → (∀ y : Str, y ≠ "rings" → m' y = m y) → News g L h' ((L + 3, o3') :: news) → (∀ q ∈ news, @Ne Nat q.1 (L + 3)) → o3'.data = .cell v3' → (∀ q ∈ base, q ∈ news) → m' "rings" = some (.ref rl') → (rl', listOf vs'.toArray nR') ∈ news → Made news vs' (ringsAt 3) →
       wpAny (model Challenge.rw_re0023_01.row.prog w) ((Ar 310 50 fr).deeper (lwEnv fA cD L)) (execs (lwB.drop 12) (lwEnv fA cD L)) Q (fun _ _ => False) { s with heap := h', toks := tk' }) :
    wpAny (model Challenge.rw_re0023_01.row.prog w) ((Ar 310 50 fr).deeper (lwEnv fA cD L)) (execs (lwB.drop 11) (lwEnv fA cD L)) Q (fun _ _ => False) s := by
  obtain ⟨pk, pt, e1, e2, e3, kk, p1, p2, p3, py, pq, q0, q1, pos, spos, fpos, e, hline⟩ := lwB11
  rw [e]
  refine wpAny_execs_cons (For_invT g ?_ (fun _ => by with_unfolding_all rfl))
  obtain ⟨h0, g0, d0, k0, o0⟩ := s
  dsimp only at F N hq
  k_steps
  refine Stop.mk ?_
  rename News _ _ _ _ => NN
  rename Fr _ _ _ _ => FF
  rename _ ∧ AllLt _ _ => LL
  rename_i D h1
  obtain ⟨l1, l2⟩ := LL
  have hD := (NN _ (.head _)).1
  have hlt : D < h1.objs.size := Heap.lt_size hD
  have ht : h1.IsTuple D #[Value.int 1 k0, Value.int 2 (k0 + 1), Value.int 3 (k0 + 1 + 1)] := ⟨_, hD, rfl, _, rfl⟩
  have nI := fresh_fr FF (Nat.le_refl h1.objs.size)
  have lt : ∀ q ∈ ((L + 3, o3) :: base), @LT.lt Nat _ q.1 h1.objs.size := fun q hq => Heap.lt_size (NN q (.tail _ hq)).1
  have l3 : @LT.lt Nat _ (L + 3) h1.objs.size := lt _ (.head _)
  refine wpAny_pyIter_tuple ht ?_
  refine ⟨h1.objs.size, [h1.objs.size, D], [h1.objs.size], 3, _, _, m, (L + 3, o3) :: base, fun i m₁ news => ∃ rl vs nR o3 v3 news', news = (L + 3, o3) :: news' ∧ (∀ q ∈ news', @Ne Nat q.1 (L + 3) ∧ @Ne Nat q.1 h1.objs.size ∧ @Ne Nat q.1 D) ∧ o3.data = .cell v3 ∧ (∀ q ∈ base, q ∈ news') ∧ m₁ "rings" = some (.ref rl) ∧ (rl, listOf (List.toArray vs) nR) ∈ news' ∧ Made news' vs (ringsAt i) ∧ (∀ y : Str, y ≠ "rings" → m₁ y = m y),
    rfl, Walks.tuple rfl h1.objs.size D (Nat.ne_of_lt hlt) #[Value.int 1 k0, Value.int 2 (k0 + 1), Value.int 3 (k0 + 1 + 1)], ?_, ?_, ?_, ⟨⟨_, Heap.get?_push_size _ rfl, rfl, rfl⟩, ht.at fun o e => Heap.get?_push_of_some _ e⟩, FF.push _, fun q hq => ⟨Heap.get?_push_of_some _ (NN q (.tail _ hq)).1, (NN q (.tail _ hq)).2⟩, ?_, ?_, ?_, ?_⟩
  · intro hmem
    rcases List.mem_cons.mp hmem with e | hmem
    · exact nI.2 e.symm
    · exact (NN _ (.head _)).2.1 (List.mem_singleton.mp hmem).symm
  · intro b hb
    rw [List.mem_singleton.mp hb]; exact nI.1
  · intro q hq hI
    exact absurd (lt q hq) ((List.mem_singleton.mp hI) ▸ Nat.lt_irrefl _)
  · intro i s' v Q' hst hQ'
    exact wpAny_of_eq (by rfl) hQ'
  · exact ⟨rl, vs, nR, o3, v3, base, rfl, fun q hq => ⟨off3 q hq, Nat.ne_of_lt (lt q (.tail _ hq)), Nat.ne_of_lt (allLt_mem l2 q hq)⟩, c3, fun _ h => h, hm, hrl, made, fun _ _ => rfl⟩
  · rintro i v m₁ news₁ s₁ own hin hP ⟨rl, vs, nR, o3, v3, news', rfl, hoff, c3, hbase, hm, hrl, made, hmm⟩ hoffw hown hget hall hst F₁ N₁
    obtain ⟨tv, rfl⟩ : ∃ t, v = .int ((i : Int) + 1) t := by
      match i, hin with
      | 0, _ => exact ⟨_, (Option.some.inj hP).symm⟩
      | 1, _ => exact ⟨_, (Option.some.inj hP).symm⟩
      | 2, _ => exact ⟨_, (Option.some.inj hP).symm⟩
    have l1' : @LT.lt Nat _ (L + 3) D := l1
    have ownne : ∀ q ∈ own, @Ne Nat q.1 (L + 3) := fun q hq => by
      rcases List.mem_cons.mp (hown q hq) with e | e
      · rw [e]; exact Nat.ne_of_gt l3
      · rw [List.mem_singleton.mp e]; exact Nat.ne_of_gt l1'
    have N₁' : News g L s₁.heap ((L + 3, o3) :: (own ++ news')) := fun q hq => N₁ q (by
      simp only [List.mem_append, List.mem_cons] at hq ⊢
      rcases hq with e | e | e <;> simp only [e, true_or, or_true])
    have U : UpdF (L + 3) o3 ((L + 3, o3) :: (own ++ news')) (fun o' => (L + 3, o') :: (own ++ news')) := .head fun q hq => by
      rcases List.mem_append.mp hq with hq | hq
      · exact ownne q hq
      · exact (hoff q hq).1
    refine wpAny_assign_Name (storeX_C F₁ N₁' rfl U c3 (fun h2 o' F2 N2 c' => ?_) rfl rfl)
    obtain ⟨r1, r2⟩ := rings_small i hin
    refine wpAny_execs_cons (rings_step (s := { s₁ with heap := h2 }) X T F2 N2 (.head _) c' (.tail _ (List.mem_append_right _ hrl)) (made.mono fun q hq => .tail _ (List.mem_append_right _ hq)) r1 r2 hm ?_ fun h3 tk3 D2 ys news2 F3 N3 hb3 offD made3 => ?_)
    · unfold swapsWith
      show pure (_ && (py.line == pos.line) && _) = _
      rw [hline, beq_self_eq_true]
      rfl
    have mL : (L + 3, o') ∈ news2 := hb3 _ (.head _)
    have mO : ∀ q ∈ own, q ∈ news2 := fun q hq => hb3 _ (.tail _ (List.mem_append_left _ hq))
    obtain ⟨oI, eI, cI, _⟩ := hst.1
    obtain ⟨oT, eT, cT, _⟩ := hst.2
    have mI := mO _ (hall h1.objs.size (.head _) nI.1 _ eI)
    have mT := mO _ (hall D (.tail _ (.head _)) (NN _ (.head _)).2.2 _ eT)
    have ne_of : ∀ a ws n b o, (a, listOf ws n) ∈ news2 → (b, o) ∈ news2 → (o.cls ≠ .type "list" ∨ ∃ v, o.data = .cell v) → @Ne Nat a b := by
      intro a ws n b o h1 h2 hc e
      have e1 := (N3 _ (.tail _ h1)).1
      have e2 := (N3 _ (.tail _ h2)).1
      dsimp only at e1 e2
      rw [show a = b from e, e2] at e1
      cases e1
      rcases hc with hc | ⟨v, hc⟩
      · exact hc rfl
      · cases hc
    have fl : ∀ q, q ∈ ((D2, listOf ys.toArray ys.length) :: news2).filter (fun q => !([L + 3, h1.objs.size, D].contains q.1)) ↔ q ∈ ((D2, listOf ys.toArray ys.length) :: news2) ∧ (@Ne Nat q.1 (L + 3) ∧ @Ne Nat q.1 h1.objs.size ∧ @Ne Nat q.1 D) := by
      intro q
      rw [List.mem_filter]
      refine and_congr_right fun _ => ?_
      simp only [Bool.not_eq_true', List.contains_eq_mem, decide_eq_false_iff_not, List.mem_cons, List.not_mem_nil, or_false, not_or]
    refine wpAny_execs_nil ⟨rfl, h3, tk3, _, (L + 3, o') :: ((D2, listOf ys.toArray ys.length) :: news2).filter (fun q => !([L + 3, h1.objs.size, D].contains q.1)), rfl, F3, fun q hq => ?_, fun q hq hI => ?_, D2, ys, ys.length, o', _, _, rfl, fun q hq => ((fl q).mp hq).2, c', fun q hq => (fl q).mpr ⟨.tail _ (hb3 _ (.tail _ (List.mem_append_right _ (hbase q hq)))), hoff q (hbase q hq)⟩, rfl, (fl _).mpr ⟨.head _, ?_⟩, ?_, ?_⟩
    · rcases List.mem_append.mp hq with hq | hq
      · exact N3 q (.tail _ (mO q hq))
      · rcases List.mem_cons.mp hq with rfl | hq
        · exact N3 _ (.tail _ mL)
        · exact N3 q ((fl q).mp hq).1
    · have hI' := List.mem_singleton.mp hI
      rcases List.mem_cons.mp hq with rfl | hq
      · exact absurd hI' (Nat.ne_of_lt l3)
      · exact ((fl q).mp hq).2.2.1 hI'
    · exact ⟨Ne.symm (offD _ mL), Ne.symm (offD _ mI), Ne.symm (offD _ mT)⟩
    · refine made3.filter fun a ws n h => (fl _).mpr ⟨.tail _ h, ne_of _ _ _ _ _ h mL (.inr ⟨_, c'⟩), ne_of _ _ _ _ _ h mI (.inl (by rw [cI]; decide)), ne_of _ _ _ _ _ h mT (.inl (by rw [cT]; decide))⟩
    · intro y hy
      exact (if_neg hy).trans (hmm y hy)
  · rintro h' tk m' news' F' N' _ ⟨rl, vs, nR, o3, v3, news2, rfl, hoff, c3, hbase, hm, hrl, made, hmm⟩
    exact hq h' tk m' rl vs nR o3 v3 news2 F' hmm N' (fun q hq => (hoff q hq).1) c3 hbase hm hrl made
end
theorem kw103 : True := by
  w_top off
  k_with_none
  exact True.intro
end Mine
end

section
open PySem PySem.W PyProof.Rows
theorem Mine.freshLQ : True ∧ True := by
  w_top off
  first
  | (walk1; fail)
  | exact ⟨True.intro, True.intro⟩
end

section -- LQ
open PySem PySem.W PyProof.Rows
set_option maxRecDepth 100000
set_option maxHeartbeats 1000000
set_option linter.unusedVariables false
namespace Mine
section
variable {fA : Addr} {cD : Value} {w : World} {p : Program} {loose : List Str} {mean : ExcName → Option Value} {mg mb : Str → Option Value} {g : Heap} {s : Shared} {fr : List Env} {L sz : Addr} {nS : Nat} {m : Str → Option Value} {rest news : List (Addr × Obj)} {vS : List Value} {v : Value}
  {Q E : Value → Shared → Prop} {A : Around} {ss : List Int}
theorem make_pile_K (F : Fr g L s.heap m) (X : (hd.heap_1 w.params).In g) (T : Top p loose mean mg mb g) (N : News g L s.heap news)
    (a1 : A.handled = none) (a2 : A.depth ≤ 410) (a3 : A.units ≤ 110) (a4 : A.frames = some fr)
    (h : ∀ h' tk' x dp t1, Fr g L h' m → News g L h' ((x, pileObj [] 0 dp) :: (dp, dictOf [ent w "_initial_size" t1 v] 1) :: news) → @LT.lt Nat _ dp x → (∀ q ∈ news, @Ne Nat q.1 x ∧ @Ne Nat q.1 dp) → Q (.ref x) { s with heap := h', toks := tk' }) :
    wpAny (model Challenge.rw_re0023_01.row.prog w) A (call (.ref 101) [v]) Q E s := by
  refine ar_any a1 a2 a3 a4 (make_pile X T F.keep fun h' tk' x dp t1 hx hd lt M => ?_)
  have none0 : ∀ a, s.heap.get? a = none → g.get? a = none ∧ a ≠ L := fun a ha => by
    refine ⟨?_, fun e => ?_⟩
    · cases z : g.get? a with
      | none => rfl
      | some o => rw [F.keep _ _ z] at ha; cases ha
    · obtain ⟨oL, b1, b2, hL, b3⟩ := F.ns
      rw [← e, ha] at hL; cases hL
  have hl : ∀ q ∈ [(x, pileObj [] 0 dp), (dp, dictOf [ent w "_initial_size" t1 v] 1)], g.get? q.1 = none ∧ q.1 ≠ L := by
    intro q hq
    simp only [List.mem_cons, List.not_mem_nil, or_false] at hq
    rcases hq with rfl | rfl
    · exact none0 _ hx
    · exact none0 _ hd
  have off : ∀ q ∈ news, @Ne Nat q.1 x ∧ @Ne Nat q.1 dp := fun q hq => ⟨news_ne N hq hx, news_ne N hq hd⟩
  refine h h' tk' x dp t1 (fr_mod F hl M) (news_mod N hl M fun q hq => ?_) lt off
  rcases List.mem_cons.mp hq with rfl | hq
  · exact .inl (.head _)
  · rcases List.mem_cons.mp hq with rfl | hq
    · exact .inl (.tail _ (.head _))
    · refine .inr ⟨hq, fun r hr => ?_⟩
      simp only [List.mem_cons, List.not_mem_nil, or_false] at hr
      rcases hr with rfl | rfl
      · exact Ne.symm (off q hq).1
      · exact Ne.symm (off q hq).2
theorem kw104 : True := by
  w_top off
  k_with "eval Name" => ((k_here; k_dflt (refine' nameX_L (by k_asm) (by first | assumption | rfl) ?_ (by rfl) (by rfl); k_whole)))
  exact True.intro
theorem kw105 : True := by
  w_top off
  k_with "call ref" => ((k_here; (try dsimp only); refine Stop.it ?_))
  exact True.intro
theorem law_12 {Q : Flow → Shared → Prop} (X : (hd.heap_1 w.params).In g) (T : Top p loose mean mg mb g) (F : Fr g L s.heap m) (N : News g L s.heap ((sz, listOf vS.toArray nS) :: rest)) (iS : IntsAre vS ss) (lS : ss.length = 4) (m1 : m "sizes" = some (.ref sz))
    (hq : ∀ h' tk' m' x dp t1 t2 t3 lf du, Fr g L h' m' → News g L h' ((du, listOf #[] 0) :: (lf, listOf #[] 0) :: (x, pileObj [] 0 dp) :: (dp, dictOf [ent w "_initial_size" t1 (.int 1 t2)] 1) :: (sz, listOf vS.toArray nS) :: rest) →
      @Ne Nat dp x → @Ne Nat x lf → @Ne Nat dp lf → @Ne Nat lf du → @Ne Nat x du → @Ne Nat dp du → (∀ q ∈ ((sz, listOf vS.toArray nS) :: rest), @Ne Nat q.1 x ∧ @Ne Nat q.1 dp ∧ @Ne Nat q.1 lf ∧ @Ne Nat q.1 du) →
      m' "dues" = some (.ref du) → m' "lefts" = some (.ref lf) → m' "total" = some (.int ss.sum t3) → m' "pile" = some (.ref x) → m' "sizes" = m "sizes" → m' "notes" = m "notes" → m' "rings" = m "rings" → Q .next { s with heap := h', toks := tk' }) :
    wpAny (model Challenge.rw_re0023_01.row.prog w) ((Ar 310 50 fr).deeper (lwEnv fA cD L)) (execs ((lwB.drop 12).take 4) (lwEnv fA cD L)) Q (fun _ _ => False) s := by
  obtain ⟨h0, g0, d0, k0, o0⟩ := s
  dsimp only at F N hq
  generalize hb : (lwB.drop 12).take 4 = b
  generalize hs : lwS = sc
  replace hb := hb.symm
  replace hs := hs.symm
  conv at hb => rhs; whnf
  conv at hs => rhs; whnf
  subst hb hs
  try dsimp only [List.take_zero]
  k_steps
  refine Stop.mk ?_
  refine make_pile_K (fr := lwEnv fA cD L :: fr) F X T N rfl (Nat.le_of_ble_eq_true rfl) (Nat.le_of_ble_eq_true rfl) rfl fun h' tk' x dp t1 F' N' lt off => ?_
  clear F N
  k_steps
  rename News _ _ _ _ => NN
  rename Fr _ _ _ _ => FF
  rename _ ∧ _ ∧ _ ∧ _ ∧ AllLt _ _ => LL
  rename _ ∧ _ ∧ _ ∧ AllLt _ _ => L2
  obtain ⟨a1, a2, a3, a4, a5⟩ := LL
  obtain ⟨b1, b2, b3, b4⟩ := L2
  refine wpAny_execs_nil (hq _ _ _ _ _ _ _ _ _ _ FF NN (Nat.ne_of_lt lt) (Nat.ne_of_lt b1) (Nat.ne_of_lt b2) (Nat.ne_of_lt a1) (Nat.ne_of_lt a2) (Nat.ne_of_lt a3) (fun q hq => ⟨(off q hq).1, (off q hq).2, ?_, ?_⟩) rfl rfl rfl rfl rfl rfl rfl)
  · rcases List.mem_cons.mp hq with rfl | hq
    · exact Nat.ne_of_lt b3
    · exact Nat.ne_of_lt (allLt_mem b4 q hq)
  · rcases List.mem_cons.mp hq with rfl | hq
    · exact Nat.ne_of_lt a4
    · exact Nat.ne_of_lt (allLt_mem a5 q hq)
end
theorem kw106 : True := by
  w_top off
  k_with_none
  exact True.intro
end Mine
end

section
open PySem PySem.W PyProof.Rows
theorem Mine.freshLR : True ∧ True := by
  w_top off
  first
  | (walk1; fail)
  | exact ⟨True.intro, True.intro⟩
end

section -- LR
open PySem PySem.W PyProof.Rows
set_option maxRecDepth 100000
set_option maxHeartbeats 1000000
set_option linter.unusedVariables false
namespace Mine
section
variable {fA : Addr} {cD : Value} {w : World} {p : Program} {loose : List Str} {mean : ExcName → Option Value} {mg mb : Str → Option Value} {g : Heap} {s : Shared} {fr : List Env} {L x dp : Addr} {n k : Nat} {m : Str → Option Value} {R news : List (Addr × Obj)} {its : List Value} {v f1 f2 y : Value} {t : Tok}
  {Q E : Value → Shared → Prop} {A : Around} {z : Lex} {lv : Value} {o1 : Obj}
/-- the head of the ledger turned -/
theorem head_mod {h' : Heap} {a : Addr} {o o' : Obj} (F : Fr g L s.heap m) (N : News g L s.heap ((a, o) :: R)) (off : ∀ q ∈ R, @Ne Nat q.1 a) (M : Mod s.heap h' [(a, o')]) : Fr g L h' m ∧ News g L h' ((a, o') :: R) :=
  one_mod F N (.head off) M
theorem push_tok_K (F : Fr g L s.heap m) (X : (hd.heap_1 w.params).In g) (T : Top p loose mean mg mb g) (N : News g L s.heap ((z.pb, listOf its.toArray n) :: R)) (off : ∀ q ∈ R, @Ne Nat q.1 z.pb) (hdm : (z.dm, z.dict w lv) ∈ R) (hmc : (z.mc, instObj 150 z.dm) ∈ R) (hl : its.length < 100)
    (a1 : A.handled = none) (a2 : A.depth ≤ 430) (a3 : A.units ≤ 130) (a4 : A.frames = some fr)
    (h : ∀ h' tk', Fr g L h' m → News g L h' ((z.pb, listOf (its ++ [v]).toArray (n + 1)) :: R) → Q .none { s with heap := h', toks := tk' }) :
    wpAny (model Challenge.rw_re0023_01.row.prog w) A (call (.ref 147) [.ref z.mc, v]) Q E s := by
  refine ar_any a1 a2 a3 a4 (push_tok (n := n) (lv := lv) (v := v) (its := its) X T F.keep (own_of N fun q hq => ?_) (off _ hdm) (off _ hmc) hl fun h' tk' M => ?_)
  · simp only [List.mem_cons, List.not_mem_nil, or_false] at hq
    rcases hq with rfl | rfl | rfl
    · exact .head _
    · exact .tail _ hdm
    · exact .tail _ hmc
  · obtain ⟨F', N'⟩ := head_mod F N off M
    exact h h' tk' F' N'
theorem pop_tok_K (F : Fr g L s.heap m) (X : (hd.heap_1 w.params).In g) (T : Top p loose mean mg mb g) (N : News g L s.heap ((z.pb, listOf (v :: its).toArray n) :: R)) (off : ∀ q ∈ R, @Ne Nat q.1 z.pb) (hdm : (z.dm, z.dict w lv) ∈ R) (hmc : (z.mc, instObj 150 z.dm) ∈ R) (hl : its.length < 100)
    (a1 : A.handled = none) (a2 : A.depth ≤ 430) (a3 : A.units ≤ 130) (a4 : A.frames = some fr)
    (h : ∀ h' tk', Fr g L h' m → News g L h' ((z.pb, listOf its.toArray (n + 1)) :: R) → Q v { s with heap := h', toks := tk' }) :
    wpAny (model Challenge.rw_re0023_01.row.prog w) A (call (.ref 140) [.ref z.mc]) Q E s := by
  refine ar_any a1 a2 a3 a4 (pop_tok (n := n) (lv := lv) (v := v) (its := its) X T F.keep (own_of N fun q hq => ?_) (off _ hdm) (off _ hmc) hl fun h' tk' M => ?_)
  · simp only [List.mem_cons, List.not_mem_nil, or_false] at hq
    rcases hq with rfl | rfl | rfl
    · exact .head _
    · exact .tail _ hdm
    · exact .tail _ hmc
  · obtain ⟨F', N'⟩ := head_mod F N off M
    exact h h' tk' F' N'
theorem none_fr {a : Addr} (F : Fr g L s.heap m) (ha : s.heap.get? a = none) : g.get? a = none ∧ a ≠ L := by
  refine ⟨?_, fun e => ?_⟩
  · cases z : g.get? a with
    | none => rfl
    | some o => rw [F.keep _ _ z] at ha; cases ha
  · obtain ⟨oL, b1, b2, hL, b3⟩ := F.ns
    rw [← e, ha] at hL; cases hL
theorem pile_push_K (F : Fr g L s.heap m) (X : (hd.heap_1 w.params).In g) (T : Top p loose mean mg mb g) (N : News g L s.heap ((x, pileObj its n dp) :: R)) (off : ∀ q ∈ R, @Ne Nat q.1 x) (hdp : (dp, dictOf [ent w "_initial_size" t v] k) ∈ R) (hl : its.length < 100)
    (a1 : A.handled = none) (a2 : A.depth ≤ 430) (a3 : A.units ≤ 130) (a4 : A.frames = some fr)
    (h : ∀ h' tk' D, Fr g L h' m → News g L h' ((x, pileObj (its ++ [.ref D]) (n + 1) dp) :: (D, tup2 f1 f2) :: R) → (∀ q ∈ ((x, pileObj its n dp) :: R), @Ne Nat q.1 D) → Q .none { s with heap := h', toks := tk' }) :
    wpAny (model Challenge.rw_re0023_01.row.prog w) A (call (.ref 45) [.ref x, f1, f2]) Q E s := by
  refine ar_any a1 a2 a3 a4 (pile_push (its := its) (n := n) (dp := dp) (k := k) (t := t) (v := v) X T F.keep (own_of N fun q hq => ?_) (Ne.symm (off _ hdp)) hl fun D h' tk' hD M => ?_)
  · simp only [List.mem_cons, List.not_mem_nil, or_false] at hq
    rcases hq with rfl | rfl
    · exact .head _
    · exact .tail _ hdp
  · have offD : ∀ q ∈ ((x, pileObj its n dp) :: R), @Ne Nat q.1 D := fun q hq => news_ne N hq hD
    have hx := N _ (.head _)
    have hl2 : ∀ q ∈ [(D, tup2 f1 f2), (x, pileObj (its ++ [.ref D]) (n + 1) dp)], g.get? q.1 = none ∧ q.1 ≠ L := by
      intro q hq
      simp only [List.mem_cons, List.not_mem_nil, or_false] at hq
      rcases hq with rfl | rfl
      · exact none_fr F hD
      · exact ⟨hx.2.2, hx.2.1⟩
    refine h h' tk' D (fr_mod F hl2 M) (news_mod N hl2 M fun q hq => ?_) offD
    rcases List.mem_cons.mp hq with rfl | hq
    · exact .inl (.tail _ (.head _))
    · rcases List.mem_cons.mp hq with rfl | hq
      · exact .inl (.head _)
      · refine .inr ⟨.tail _ hq, fun r hr => ?_⟩
        simp only [List.mem_cons, List.not_mem_nil, or_false] at hr
        rcases hr with rfl | rfl
        · exact Ne.symm (offD q (.tail _ hq))
        · exact Ne.symm (off q hq)
theorem pile_pop0_K (F : Fr g L s.heap m) (X : (hd.heap_1 w.params).In g) (T : Top p loose mean mg mb g) (N : News g L s.heap ((x, pileObj [] n dp) :: R)) (hdp : (dp, dictOf [ent w "_initial_size" t v] k) ∈ R)
    (a1 : A.handled = none) (a2 : A.depth ≤ 430) (a3 : A.units ≤ 130) (a4 : A.frames = some fr)
    (h : ∀ h' tk' D t1 t2, Fr g L h' m → News g L h' ((D, tup2 (.str "" t1) (.str "" t2)) :: (x, pileObj [] n dp) :: R) → Q (.ref D) { s with heap := h', toks := tk' }) :
    wpAny (model Challenge.rw_re0023_01.row.prog w) A (call (.ref 61) [.ref x]) Q E s := by
  refine ar_any a1 a2 a3 a4 (pile_pop0 (n := n) (dp := dp) (k := k) (t := t) (v := v) X T F.keep (own_of N fun q hq => ?_) fun D h' tk' t1 t2 hD M => ?_)
  · simp only [List.mem_cons, List.not_mem_nil, or_false] at hq
    rcases hq with rfl | rfl
    · exact .head _
    · exact .tail _ hdp
  · have hl2 : ∀ q ∈ [(D, tup2 (.str "" t1) (.str "" t2))], g.get? q.1 = none ∧ q.1 ≠ L := by
      intro q hq
      simp only [List.mem_cons, List.not_mem_nil, or_false] at hq
      subst hq
      exact none_fr F hD
    refine h h' tk' D t1 t2 (fr_mod F hl2 M) (news_mod N hl2 M fun q hq => ?_)
    rcases List.mem_cons.mp hq with rfl | hq
    · exact .inl (.head _)
    · refine .inr ⟨hq, fun r hr => ?_⟩
      simp only [List.mem_cons, List.not_mem_nil, or_false] at hr
      subst hr
      exact Ne.symm (news_ne N hq hD)
theorem pile_pop1_K (F : Fr g L s.heap m) (X : (hd.heap_1 w.params).In g) (T : Top p loose mean mg mb g) (N : News g L s.heap ((x, pileObj (its ++ [y]) n dp) :: R)) (off : ∀ q ∈ R, @Ne Nat q.1 x) (hdp : (dp, dictOf [ent w "_initial_size" t v] k) ∈ R) (hl : (its ++ [y]).length < 100)
    (a1 : A.handled = none) (a2 : A.depth ≤ 430) (a3 : A.units ≤ 130) (a4 : A.frames = some fr)
    (h : ∀ h' tk', Fr g L h' m → News g L h' ((x, pileObj its (n + 1) dp) :: R) → Q y { s with heap := h', toks := tk' }) :
    wpAny (model Challenge.rw_re0023_01.row.prog w) A (call (.ref 61) [.ref x]) Q E s := by
  refine ar_any a1 a2 a3 a4 (pile_pop1 (its := its) (y := y) (n := n) (dp := dp) (k := k) (t := t) (v := v) X T F.keep (own_of N fun q hq => ?_) (Ne.symm (off _ hdp)) hl fun h' tk' M => ?_)
  · simp only [List.mem_cons, List.not_mem_nil, or_false] at hq
    rcases hq with rfl | rfl
    · exact .head _
    · exact .tail _ hdp
  · obtain ⟨F', N'⟩ := head_mod F N off M
    exact h h' tk' F' N'
theorem pile_reset_K (F : Fr g L s.heap m) (X : (hd.heap_1 w.params).In g) (T : Top p loose mean mg mb g) (N : News g L s.heap ((x, pileObj its n dp) :: (dp, dictOf [ent w "_initial_size" t v] k) :: R)) (hxd : @Ne Nat x dp) (off : ∀ q ∈ R, @Ne Nat q.1 x ∧ @Ne Nat q.1 dp) (hl : its.length < 100)
    (a1 : A.handled = none) (a2 : A.depth ≤ 430) (a3 : A.units ≤ 130) (a4 : A.frames = some fr)
    (h : ∀ h' tk' n' t1 t2, Fr g L h' m → News g L h' ((x, pileObj [] n' dp) :: (dp, dictOf [ent w "_initial_size" t1 (.int 0 t2)] k) :: R) → Q .none { s with heap := h', toks := tk' }) :
    wpAny (model Challenge.rw_re0023_01.row.prog w) A (call (.ref 83) [.ref x]) Q E s := by
  refine ar_any a1 a2 a3 a4 (pile_reset (its := its) (n := n) (dp := dp) (k := k) (t := t) (v := v) X T F.keep (own_of N fun q hq => ?_) hxd hl fun h' tk' n' t1 t2 M => ?_)
  · simp only [List.mem_cons, List.not_mem_nil, or_false] at hq
    rcases hq with rfl | rfl
    · exact .head _
    · exact .tail _ (.head _)
  · have hx := N _ (.head _)
    have hd := N _ (.tail _ (.head _))
    have hl2 : ∀ q ∈ [(x, pileObj [] n' dp), (dp, dictOf [ent w "_initial_size" t1 (.int 0 t2)] k)], g.get? q.1 = none ∧ q.1 ≠ L := by
      intro q hq
      simp only [List.mem_cons, List.not_mem_nil, or_false] at hq
      rcases hq with rfl | rfl
      · exact ⟨hx.2.2, hx.2.1⟩
      · exact ⟨hd.2.2, hd.2.1⟩
    refine h h' tk' n' t1 t2 (fr_mod F hl2 M) (news_mod N hl2 M fun q hq => ?_)
    rcases List.mem_cons.mp hq with rfl | hq
    · exact .inl (.head _)
    · rcases List.mem_cons.mp hq with rfl | hq
      · exact .inl (.tail _ (.head _))
      · refine .inr ⟨.tail _ (.tail _ hq), fun r hr => ?_⟩
        simp only [List.mem_cons, List.not_mem_nil, or_false] at hr
        rcases hr with rfl | rfl
        · exact Ne.symm (off q hq).1
        · exact Ne.symm (off q hq).2
end
end Mine
end

section
open PySem PySem.W PyProof.Rows
theorem Mine.freshLS : True ∧ True := by
  w_top off
  first
  | (walk1; fail)
  | exact ⟨True.intro, True.intro⟩
end

section -- LS
open PySem PySem.W PyProof.Rows
set_option maxRecDepth 100000
set_option maxHeartbeats 1000000
set_option linter.unusedVariables false
namespace Mine
section
variable {fA : Addr} {cD : Value} {w : World} {p : Program} {loose : List Str} {mean : ExcName → Option Value} {mg mb : Str → Option Value} {g : Heap} {s : Shared} {fr : List Env} {L x dp nt : Addr} {n k : Nat} {m : Str → Option Value} {R news : List (Addr × Obj)} {its : List Value} {v f1 f2 y : Value} {t tW : Tok}
  {Q E : Value → Shared → Prop} {A : Around} {z : Lex} {lv : Value} {o1 no : Obj} {W : Str} {Ws : List Str}
theorem kw107 : True := by
  w_top off
  k_with "k_mem" => (assumption)
  exact True.intro
theorem kw108 : True := by
  w_top off
  k_with "eval Name" => ((k_here; k_dflt (first | (refine' nameX_L (by k_asm) (by first | assumption | rfl) ?_ (by rfl) (by rfl); k_whole) | (refine' nameX_C (by k_asm) (by rfl) (by k_mem) (by assumption) ?_ (by rfl) (by rfl); k_whole))))
  exact True.intro
section
theorem kw109 : True := by
  w_top off
  k_with "call ref" => ((k_here; (try dsimp only); refine Stop.it ?_))
  exact True.intro
theorem step_12 {Q : Flow → Shared → Prop} (X : (hd.heap_1 w.params).In g) (T : Top p loose mean mg mb g) (F : Fr g L s.heap m) (N : News g L s.heap ((z.pb, listOf (v :: its).toArray n) :: R)) (off : ∀ q ∈ R, @Ne Nat q.1 z.pb)
    (h1 : (L + 1, o1) ∈ R) (c1 : o1.data = .cell (some (.ref z.mc))) (hdm : (z.dm, z.dict w lv) ∈ R) (hmc : (z.mc, instObj 150 z.dm) ∈ R) (hl : its.length < 100)
    (hq : ∀ h' tk' n', Fr g L h' (fun y => if y = "word" then some v else m y) → News g L h' ((z.pb, listOf (its ++ [v]).toArray n') :: R) → Q .next { s with heap := h', toks := tk' }) :
    wpAny (model Challenge.rw_re0023_01.row.prog w) ((Ar 310 50 fr).deeper (lwEnv fA cD L)) (execs (lwStep.take 2) (lwEnv fA cD L)) Q (fun _ _ => False) s := by
  obtain ⟨h0, g0, d0, k0, o0⟩ := s
  dsimp only at F N hq
  generalize hb : lwStep = b
  generalize hs : lwS = sc
  replace hb := hb.symm
  replace hs := hs.symm
  conv at hb => rhs; whnf
  conv at hs => rhs; whnf
  subst hb hs
  try dsimp only [List.take_zero, List.take_succ_cons]
  k_steps
  refine Stop.mk ?_
  refine pop_tok_K (fr := lwEnv fA cD L :: fr) F X T N off hdm hmc hl rfl (Nat.le_of_ble_eq_true rfl) (Nat.le_of_ble_eq_true rfl) rfl fun h' tk' F' N' => ?_
  clear F N
  k_steps
  refine Stop.mk ?_
  rename News _ _ _ _ => NN
  rename Fr _ _ _ _ => FF
  refine push_tok_K (fr := lwEnv fA cD L :: fr) FF X T NN off hdm hmc hl rfl (Nat.le_of_ble_eq_true rfl) (Nat.le_of_ble_eq_true rfl) rfl fun h2 tk2 F2 N2 => ?_
  clear FF NN
  k_steps
  exact hq _ _ _ F2 N2
end
theorem kw110 : True := by
  w_top off
  k_with_none
  k_with "k_mem" => (assumption)
  k_with "eval Name" => ((k_here; k_dflt (first | (refine' nameX_L (by k_asm) (by first | assumption | rfl) ?_ (by rfl) (by rfl); k_whole) | (refine' nameX_C (by k_asm) (by rfl) (by k_mem) (by assumption) ?_ (by rfl) (by rfl); k_whole))))
  exact True.intro
end
theorem kw111 : True := by
  w_top off
  k_with_none
  exact True.intro
end Mine
end

section
open PySem PySem.W PyProof.Rows
theorem Mine.freshLT : True ∧ True := by
  w_top off
  first
  | (walk1; fail)
  | exact ⟨True.intro, True.intro⟩
end

section -- LT
open PySem PySem.W PyProof.Rows
set_option maxRecDepth 100000
set_option maxHeartbeats 1000000
set_option linter.unusedVariables false
namespace Mine
noncomputable def lwIf : List Stmt × List Stmt := ifOfS lwStep[2]?
noncomputable def pushB : List Stmt := forOfS lwIf.1[0]?
noncomputable def popB : List Stmt := forOfS lwIf.2[0]?
section
variable {fA : Addr} {cD : Value} {w : World} {p : Program} {loose : List Str} {mean : ExcName → Option Value} {mg mb : Str → Option Value} {g : Heap} {s : Shared} {fr : List Env} {L x dp nt D : Addr} {n k : Nat} {m : Str → Option Value} {R news : List (Addr × Obj)} {its : List Value} {v f1 f2 y : Value} {t t1 t2 tW : Tok}
  {Q E : Value → Shared → Prop} {A : Around} {mi : Int} {c a b : Str}
theorem kw112 : True := by
  w_top off
  k_with "k_mem" => (assumption)
  exact True.intro
theorem kw113 : True := by
  w_top off
  k_with "eval Name" => ((k_here; k_dflt (first | (refine' nameX_L (by k_asm) (by first | assumption | rfl) ?_ (by rfl) (by rfl); k_whole) | (refine' nameX_C (by k_asm) (by rfl) (by k_mem) (by assumption) ?_ (by rfl) (by rfl); k_whole))))
  exact True.intro
theorem kw114 : True := by
  w_top off
  k_with "call ref" => ((k_here; (try dsimp only); refine Stop.it ?_))
  exact True.intro
theorem kw115 : True := by
  w_top off
  k_with "getMethod ref" => ((k_here; refine' meth_pile_fn_K (by k_asm) (by k_asm) (by k_asm) (by k_mem) (by k_mem) (by k_is) (by k_is) (by kernel_rfl) ?_))
  exact True.intro
theorem turn_push {Q : Flow → Shared → Prop} (X : (hd.heap_1 w.params).In g) (T : Top p loose mean mg mb g) (F : Fr g L s.heap m) (N : News g L s.heap ((x, pileObj its n dp) :: R)) (off : ∀ q ∈ R, @Ne Nat q.1 x)
    (hdp : (dp, dictOf [ent w "_initial_size" t v] k) ∈ R) (hl : its.length < 100) (m1 : m "pile" = some (.ref x)) (m2 : m "sign" = some (.str c t1))
    (hq : ∀ h' tk' D, Fr g L h' m → News g L h' ((x, pileObj (its ++ [.ref D]) (n + 1) dp) :: (D, tup2 (.str c t1) (.str c t1)) :: R) → (∀ q ∈ ((x, pileObj its n dp) :: R), @Ne Nat q.1 D) → Q .next { s with heap := h', toks := tk' }) :
    wpAny (model Challenge.rw_re0023_01.row.prog w) ((Ar 310 50 fr).deeper (lwEnv fA cD L)) (execs pushB (lwEnv fA cD L)) Q (fun _ _ => False) s := by
  obtain ⟨h0, g0, d0, k0, o0⟩ := s
  dsimp only at F N hq
  generalize hb : pushB = b
  generalize hs : lwS = sc
  replace hb := hb.symm
  replace hs := hs.symm
  conv at hb => rhs; whnf
  conv at hs => rhs; whnf
  subst hb hs
  try dsimp only
  k_steps
  refine Stop.mk ?_
  refine pile_push_K (fr := lwEnv fA cD L :: fr) F X T N off hdp hl rfl (Nat.le_of_ble_eq_true rfl) (Nat.le_of_ble_eq_true rfl) rfl fun h' tk' D F' N' offD => ?_
  clear F N
  k_steps
  exact hq _ _ _ F' N' offD
theorem turn_pop0 {Q : Flow → Shared → Prop} (X : (hd.heap_1 w.params).In g) (T : Top p loose mean mg mb g) (F : Fr g L s.heap m) (N : News g L s.heap ((x, pileObj [] n dp) :: R)) 
    (hdp : (dp, dictOf [ent w "_initial_size" t v] k) ∈ R) (m1 : m "pile" = some (.ref x)) (m2 : m "missed" = some (.int mi t1)) (b0 : 0 ≤ mi) (b1 : mi < 1000)
    (hq : ∀ h' tk' t2, Fr g L h' (fun y => if y = "missed" then some (.int (mi + 1) t2) else m y) → News g L h' ((x, pileObj [] n dp) :: R) → Q .next { s with heap := h', toks := tk' }) :
    wpAny (model Challenge.rw_re0023_01.row.prog w) ((Ar 310 50 fr).deeper (lwEnv fA cD L)) (execs popB (lwEnv fA cD L)) Q (fun _ _ => False) s := by
  obtain ⟨h0, g0, d0, k0, o0⟩ := s
  dsimp only at F N hq
  generalize hb : popB = b
  generalize hs : lwS = sc
  replace hb := hb.symm
  replace hs := hs.symm
  conv at hb => rhs; whnf
  conv at hs => rhs; whnf
  subst hb hs
  try dsimp only
  k_steps
  refine Stop.mk ?_
  refine pile_pop0_K (fr := lwEnv fA cD L :: fr) F X T N hdp rfl (Nat.le_of_ble_eq_true rfl) (Nat.le_of_ble_eq_true rfl) rfl fun h' tk' D t1 t2 F' N' => ?_
  clear F N
  k_steps
  rename News _ _ _ _ => NN
  rename Fr _ _ _ _ => FF
  exact hq _ _ _ FF (fun q hq => NN q (.tail _ (.tail _ hq)))
theorem turn_pop1 {Q : Flow → Shared → Prop} (X : (hd.heap_1 w.params).In g) (T : Top p loose mean mg mb g) (F : Fr g L s.heap m) (N : News g L s.heap ((x, pileObj (its ++ [.ref D]) n dp) :: R)) (off : ∀ q ∈ R, @Ne Nat q.1 x) (hD : (D, tup2 (.str a t1) (.str b t2)) ∈ R) (ha : (a == "") = false) (oka : PyData.strOk a = true) (okb : PyData.strOk b = true)
    (hdp : (dp, dictOf [ent w "_initial_size" t v] k) ∈ R) (hl : (its ++ [Value.ref D]).length < 100) (m1 : m "pile" = some (.ref x)) 
    (hq : ∀ h' tk', Fr g L h' m → News g L h' ((x, pileObj its (n + 1) dp) :: R) → Q .next { s with heap := h', toks := tk' }) :
    wpAny (model Challenge.rw_re0023_01.row.prog w) ((Ar 310 50 fr).deeper (lwEnv fA cD L)) (execs popB (lwEnv fA cD L)) Q (fun _ _ => False) s := by
  obtain ⟨h0, g0, d0, k0, o0⟩ := s
  dsimp only at F N hq
  generalize hb : popB = b
  generalize hs : lwS = sc
  replace hb := hb.symm
  replace hs := hs.symm
  conv at hb => rhs; whnf
  conv at hs => rhs; whnf
  subst hb hs
  try dsimp only
  k_steps
  refine Stop.mk ?_
  refine pile_pop1_K (fr := lwEnv fA cD L :: fr) F X T N off hdp hl rfl (Nat.le_of_ble_eq_true rfl) (Nat.le_of_ble_eq_true rfl) rfl fun h' tk' F' N' => ?_
  clear F N
  k_steps
  rename News _ _ _ _ => NN
  refine eq_dataH (da := .tuple [.str a, .str b]) (db := .tuple [.str "", .str ""]) (reads_tuple_at (NN.get (.tail _ (.tail _ hD))) rfl rfl (.cons (Reads.str _ _) (.cons (Reads.str _ _) .nil))) (reads_tuple_at (NN.get (.head _)) rfl rfl (.cons (Reads.str _ _) (.cons (Reads.str _ _) .nil))) (by simp [SeqAt.shaped, PyData.canLay0, PyData.canLayAll0, PyData.depth, PyData.depthAll, oka, okb]) (by kernel_rfl) (Nat.le_of_ble_eq_true rfl) ?_
  have e : PyData.eqv (.tuple [.str a, .str b]) (.tuple [.str "", .str ""]) = false := by simp only [PyData.eqv, PyData.eqvAll, ha, Bool.false_and]
  rw [e]
  k_steps
  rename Fr _ _ _ _ => FF
  exact hq _ _ FF (fun q hq => NN q (.tail _ hq))
end
theorem kw116 : True := by
  w_top off
  k_with_none
  exact True.intro
end Mine
end

section
open PySem PySem.W PyProof.Rows
theorem Mine.freshLU : True ∧ True := by
  w_top off
  first
  | (walk1; fail)
  | exact ⟨True.intro, True.intro⟩
end

section -- LU
open PySem PySem.W PyProof.Rows
set_option maxRecDepth 100000
set_option maxHeartbeats 1000000
set_option linter.unusedVariables false
namespace Mine
/-- what the pile holds: pairs of texts, the first not empty -/
noncomputable def PileOk (R : List (Addr × Obj)) (its : List Value) : Prop := ∀ v ∈ its, ∃ D a b t1 t2, v = Value.ref D ∧ (D, tup2 (.str a t1) (.str b t2)) ∈ R ∧ (a == "") = false ∧ PyData.strOk a = true ∧ PyData.strOk b = true
theorem PileOk.mono {R R' : List (Addr × Obj)} {its : List Value} (h : PileOk R its) (k : ∀ q ∈ R, q ∈ R') : PileOk R' its := fun v hv => by
  obtain ⟨D, a, b, t1, t2, e, h1, h2⟩ := h v hv
  exact ⟨D, a, b, t1, t2, e, k _ h1, h2⟩
section
variable {fA : Addr} {cD : Value} {w : World} {p : Program} {loose : List Str} {mean : ExcName → Option Value} {mg mb : Str → Option Value} {g : Heap} {s : Shared} {fr : List Env} {L x dp I : Addr} {k : Nat} {v : Value} {t : Tok}
theorem push_rest {Q : Flow → Shared → Prop} (X : (hd.heap_1 w.params).In g) (T : Top p loose mean mg mb g) (hxI : @Ne Nat x I) :
    ∀ (cs : List Str) (its : List Value) (n : Nat) (R : List (Addr × Obj)) (m : Str → Option Value), (∀ c ∈ cs, (c == "") = false ∧ PyData.strOk c = true) → PileOk R its → (∀ q ∈ R, @Ne Nat q.1 x) → (dp, dictOf [ent w "_initial_size" t v] k) ∈ R → (∀ q ∈ R, @Ne Nat q.1 I) →
      m "pile" = some (.ref x) → its.length + cs.length < 100 →
      (∀ h tk m' its' n' ext, Fr g L h m' → News g L h ((x, pileObj its' n' dp) :: (ext ++ R)) → (∀ e ∈ ext, @Ne Nat e.1 x ∧ ∀ q ∈ R, @Ne Nat q.1 e.1) → its'.length = its.length + cs.length → PileOk (ext ++ R) its' → (∀ y : Str, y ≠ "sign" → m' y = m y) → Q .next { s with heap := h, toks := tk }) →
      StrRest Challenge.rw_re0023_01.row.prog w ((Ar 310 50 fr).deeper (lwEnv fA cD L)) (fun _ _ => False) g (lwEnv fA cD L) "sign" pushB Q s I cs m ((x, pileObj its n dp) :: R) := by
  intro cs
  induction cs with
  | nil =>
    intro its n R m hc hp off hdp offI m1 hl fin
    refine StrRest.zero fun h tk F N => ?_
    exact fin h tk m its n [] F N (fun _ h => nomatch h) rfl hp fun _ _ => rfl
  | cons c cs ih =>
    intro its n R m hc hp off hdp offI m1 hl fin
    rw [List.length_cons] at hl
    obtain ⟨c1, c2⟩ := hc c (.head _)
    refine StrRest.succ fun u it h tk F N => ?_
    have N' : News g L h ((x, pileObj its n dp) :: (I, it) :: R) := (by
      (try dsimp only)
      repeat refine all_cons (N _ (by k_mem)) ?_
      first | exact all_nil | exact fun q hq => N q (by repeat first | exact hq | apply List.Mem.tail))
    refine turn_push (s := { s with heap := h, toks := tk }) (c := c) (t1 := u) (k := k) (t := t) (v := v) X T F N' (fun q hq => ?_) (.tail _ hdp) (by omega) m1 rfl fun h' tk' D F' N2 offD => ?_
    · rcases List.mem_cons.mp hq with rfl | hq
      · exact Ne.symm hxI
      · exact off q hq
    have dI : @Ne Nat I D := offD _ (.tail _ (.head _))
    have dx : @Ne Nat x D := offD _ (.head _)
    have dR : ∀ q ∈ R, @Ne Nat q.1 D := fun q hq => offD q (.tail _ (.tail _ hq))
    refine ⟨h', tk', _, (x, pileObj (its ++ [.ref D]) (n + 1) dp) :: (D, tup2 (.str c u) (.str c u)) :: R, rfl, F', (by
      (try dsimp only)
      repeat refine all_cons (N2 _ (by k_mem)) ?_
      first | exact all_nil | exact fun q hq => N2 q (by repeat first | exact hq | apply List.Mem.tail)), fun q hq => ?_, ?_⟩
    · rcases List.mem_cons.mp hq with rfl | hq
      · exact hxI
      · rcases List.mem_cons.mp hq with rfl | hq
        · exact Ne.symm dI
        · exact offI q hq
    · refine ih (its ++ [.ref D]) (n + 1) ((D, tup2 (.str c u) (.str c u)) :: R) (fun y => if y = "sign" then some (.str c u) else m y) (fun c hc' => hc c (.tail _ hc')) ?_ ?_ (.tail _ hdp) ?_ ((if_neg (by decide)).trans m1) ?_ ?_
      · intro v hv
        rcases List.mem_append.mp hv with hv | hv
        · exact (hp.mono fun q hq => .tail _ hq) v hv
        · exact ⟨D, c, c, u, u, List.mem_singleton.mp hv, .head _, c1, c2, c2⟩
      · intro q hq
        rcases List.mem_cons.mp hq with rfl | hq
        · exact Ne.symm dx
        · exact off q hq
      · intro q hq
        rcases List.mem_cons.mp hq with rfl | hq
        · exact Ne.symm dI
        · exact offI q hq
      · rw [List.length_append, List.length_singleton]; omega
      · intro h tk m' its' n' ext F3 N3 hext hlen hpo hm
        refine fin h tk m' its' n' (ext ++ [(D, tup2 (.str c u) (.str c u))]) F3 (by rw [List.append_assoc]; exact N3) (fun e he => ?_) ?_ (by rw [List.append_assoc]; exact hpo) (fun y hy => (hm y hy).trans (if_neg hy))
        · rcases List.mem_append.mp he with he | he
          · exact ⟨(hext e he).1, fun q hq => (hext e he).2 q (.tail _ hq)⟩
          · rw [List.mem_singleton.mp he]
            exact ⟨Ne.symm dx, dR⟩
        · rw [hlen, List.length_append, List.length_singleton, List.length_cons]; omega
theorem pop_rest {Q : Flow → Shared → Prop} {R : List (Addr × Obj)} (X : (hd.heap_1 w.params).In g) (T : Top p loose mean mg mb g) (hxI : @Ne Nat x I) (off : ∀ q ∈ R, @Ne Nat q.1 x) (hdp : (dp, dictOf [ent w "_initial_size" t v] k) ∈ R) (offI : ∀ q ∈ R, @Ne Nat q.1 I) :
    ∀ (cs : List Str) (its : List Value) (n : Nat) (m : Str → Option Value) (mi : Nat) (tm : Tok), PileOk R its → m "pile" = some (.ref x) → m "missed" = some (.int mi tm) → its.length < 100 → mi + cs.length < 100 →
      (∀ h tk m' its' n' tm', Fr g L h m' → News g L h ((x, pileObj its' n' dp) :: R) → its'.length = its.length - cs.length → PileOk R its' → m' "missed" = some (.int ((mi + (cs.length - its.length) : Nat) : Int) tm') → (∀ y : Str, y ≠ "sign" → y ≠ "missed" → m' y = m y) → Q .next { s with heap := h, toks := tk }) →
      StrRest Challenge.rw_re0023_01.row.prog w ((Ar 310 50 fr).deeper (lwEnv fA cD L)) (fun _ _ => False) g (lwEnv fA cD L) "sign" popB Q s I cs m ((x, pileObj its n dp) :: R) := by
  intro cs
  induction cs with
  | nil =>
    intro its n m mi tm hp m1 m2 hl hl2 fin
    refine StrRest.zero fun h tk F N => ?_
    exact fin h tk m its n tm F N rfl hp (by rw [m2]; simp) fun _ _ _ => rfl
  | cons c cs ih =>
    intro its n m mi tm hp m1 m2 hl hl2 fin
    rw [List.length_cons] at hl2
    refine StrRest.succ fun u it h tk F N => ?_
    have N' : News g L h ((x, pileObj its n dp) :: (I, it) :: R) := (by
      (try dsimp only)
      repeat refine all_cons (N _ (by k_mem)) ?_
      first | exact all_nil | exact fun q hq => N q (by repeat first | exact hq | apply List.Mem.tail))
    have off' : ∀ q ∈ ((I, it) :: R), @Ne Nat q.1 x := fun q hq => by
      rcases List.mem_cons.mp hq with rfl | hq
      · exact Ne.symm hxI
      · exact off q hq
    have offI' : ∀ its' n', ∀ q ∈ ((x, pileObj its' n' dp) :: R), q.1 ≠ I := fun its' n' q hq => by
      rcases List.mem_cons.mp hq with rfl | hq
      · exact hxI
      · exact offI q hq
    have back : ∀ {its' n' h'}, News g L h' ((x, pileObj its' n' dp) :: (I, it) :: R) → News g L h' ((I, it) :: (x, pileObj its' n' dp) :: R) := fun N2 q hq => N2 q (by
      simp only [List.mem_cons] at hq ⊢
      rcases hq with e | e | e <;> simp only [e, true_or, or_true])
    rcases List.eq_nil_or_concat its with rfl | ⟨its0, y, rfl⟩
    · refine turn_pop0 (s := { s with heap := h, toks := tk }) (k := k) (t := t) (v := v) X T F N' (.tail _ hdp) m1 m2 (by omega) (by omega) fun h' tk' t2 F' N2 => ?_
      refine ⟨h', tk', _, (x, pileObj [] n dp) :: R, rfl, F', back N2, offI' _ _, ?_⟩
      refine ih [] n (fun y => if y = "missed" then some (.int ((mi : Int) + 1) t2) else if y = "sign" then some (.str c u) else m y) (mi + 1) t2 hp ((if_neg (by decide)).trans ((if_neg (by decide)).trans m1)) ((if_pos rfl).trans (by simp)) hl (by omega) fun h tk m' its' n' tm' F3 N3 hlen hpo hm hmm => ?_
      refine fin h tk m' its' n' tm' F3 N3 (by rw [hlen]; simp) hpo ?_ fun y hy hy2 => (hmm y hy hy2).trans ((if_neg hy2).trans (if_neg hy))
      rw [hm]
      have e : mi + 1 + (cs.length - ([] : List Value).length) = mi + ((c :: cs).length - ([] : List Value).length) := by simp only [List.length_nil, List.length_cons]; omega
      rw [e]
    · obtain ⟨D, a, b, t1, t2, rfl, hD, ha, oa, ob⟩ := hp y (by simp)
      have ec : its0.concat (Value.ref D) = its0 ++ [Value.ref D] := List.concat_eq_append
      rw [ec] at hp hl N' fin
      refine turn_pop1 (s := { s with heap := h, toks := tk }) (k := k) (t := t) (v := v) X T F N' off' (.tail _ hD) ha oa ob (.tail _ hdp) hl m1 fun h' tk' F' N2 => ?_
      refine ⟨h', tk', _, (x, pileObj its0 (n + 1) dp) :: R, rfl, F', back N2, offI' _ _, ?_⟩
      rw [List.length_append, List.length_singleton] at hl
      refine ih its0 (n + 1) (fun y => if y = "sign" then some (.str c u) else m y) mi tm (fun v hv => hp v (List.mem_append_left _ hv)) ((if_neg (by decide)).trans m1) ((if_neg (by decide)).trans m2) (by omega) (by omega) fun h tk m' its' n' tm' F3 N3 hlen hpo hm hmm => ?_
      refine fin h tk m' its' n' tm' F3 N3 (by rw [hlen]; simp only [List.length_append, List.length_nil, List.length_cons]; omega) hpo ?_ fun y hy hy2 => (hmm y hy hy2).trans (if_neg hy)
      rw [hm]
      have e : mi + (cs.length - its0.length) = mi + ((c :: cs).length - (its0 ++ [Value.ref D]).length) := by simp only [List.length_append, List.length_nil, List.length_cons]; omega
      rw [e]
end
end Mine
end

section
open PySem PySem.W PyProof.Rows
theorem Mine.freshLV : True ∧ True := by
  w_top off
  first
  | (walk1; fail)
  | exact ⟨True.intro, True.intro⟩
end

section -- LV
open PySem PySem.W PyProof.Rows
set_option maxRecDepth 100000
set_option maxHeartbeats 1000000
set_option linter.unusedVariables false
namespace Mine
theorem notes_item {prog : Program} {w : World} {A : Around} {E : Value → Shared → Prop} {s : Shared} {value slice : PySem.Expr} {nt : Addr} {no : Obj} {W : Str} {Ws : List Str} {u : Tok} {g : Heap} {L : Addr} {news : List (Addr × Obj)} {Q : Value → Shared → Prop}
    (N : News g L s.heap news) (hm : (nt, no) ∈ news) (hN : IsNotes prog w no Ws) (hW : W ∈ Ws) (h : ∀ t k, Q (.str (noteOf W) t) { s with toks := k })
    (hs : subscripted slice false (.ref nt) (.str W u) = operate [.ref nt, .str W u] (getItem (.ref nt) (.str W u)) := by with_unfolding_all rfl) :
    wpAny (model prog w) A (subscriptTail value slice (.ref nt) (.str W u)) Q E s := by
  obtain ⟨kvs, hd, hv⟩ := hN
  obtain ⟨t, ht⟩ := hv W hW
  have hD : s.heap.DictOf (PySem.strKind prog w) nt kvs := Heap.dictOf_iff.mpr ⟨no, (N _ hm).1, hd⟩
  exact tail_any hD.typeIs slot_dict_getitem.lookup (wpAny_getItem_of (knd := PySem.strKind prog w) (k := W) (beq_self_eq_true W) hD.mapOf ht (h _ _)) hs
noncomputable def noteLen (W : Str) : Nat := (Txt.slice (noteOf W) (some 2) none).length
noncomputable def stepLen (W : Str) (l : Nat) : Nat := if (noteOf W == "#") = true then l + W.length else l - noteLen W
noncomputable def stepMiss (W : Str) (l mi : Nat) : Nat := if (noteOf W == "#") = true then mi else mi + (noteLen W - l)
theorem cps_map_len (W : Str) : (W.cps.toList.map fun c => (⟨#[c]⟩ : Str)).length = W.length := by rw [List.length_map, Array.length_toList]; rfl
theorem one_sign (c : Nat) : ((⟨#[c]⟩ : Str) == "") = false := (empty_iff _).mpr (by simp)
section
variable {fA : Addr} {cD : Value} {w : World} {p : Program} {loose : List Str} {mean : ExcName → Option Value} {mg mb : Str → Option Value} {g : Heap} {s : Shared} {fr : List Env} {L x dp nt I : Addr} {n k mi : Nat} {v : Value} {t tW tm : Tok} {m : Str → Option Value} {R : List (Addr × Obj)} {its : List Value} {no : Obj} {W : Str} {Ws : List Str}
theorem kw117 : True := by
  w_top off
  k_with "k_mem" => (assumption)
  exact True.intro
theorem kw118 : True := by
  w_top off
  k_with "eval Name" => ((k_here; k_dflt (first | (refine' nameX_L (by k_asm) (by first | assumption | rfl) ?_ (by rfl) (by rfl); k_whole) | (refine' nameX_C (by k_asm) (by rfl) (by k_mem) (by assumption) ?_ (by rfl) (by rfl); k_whole))))
  exact True.intro
theorem kw119 : True := by
  w_top off
  k_with "subscriptTail" => ((k_here; (with_reducible show wpAny _ _ (subscriptTail _ _ (Value.ref _) (Value.str _ _)) _ _ _); (refine' notes_item (by k_asm) (by k_mem) (by assumption) (by assumption) ?_); intro _ _; (try dsimp only)))
  exact True.intro
theorem kw120 : True := by
  w_top off
  k_with "exec For" => ((k_here; (try dsimp only); refine Stop.it ?_))
  exact True.intro
theorem step_3 {Q : Flow → Shared → Prop} (X : (hd.heap_1 w.params).In g) (T : Top p loose mean mg mb g) (F : Fr g L s.heap m) (N : News g L s.heap ((x, pileObj its n dp) :: R)) (off : ∀ q ∈ R, @Ne Nat q.1 x)
    (hdp : (dp, dictOf [ent w "_initial_size" t v] k) ∈ R) (hnt : (nt, no) ∈ R) (hN : IsNotes Challenge.rw_re0023_01.row.prog w no Ws) (hW : W ∈ Ws) (hp : PileOk R its)
    (m1 : m "pile" = some (.ref x)) (m2 : m "missed" = some (.int mi tm)) (m3 : m "word" = some (.str W tW)) (m4 : m "notes" = some (.ref nt)) (ok : PyData.strOk W = true) (hl : its.length < 50) (hlW : W.length < 40) (hln : noteLen W < 40) (hnl : (noteOf W).length < 100) (hmi : mi < 50)
    (hq : ∀ h tk m' its' n' ext tm', Fr g L h m' → News g L h ((x, pileObj its' n' dp) :: (ext ++ R)) → (∀ e ∈ ext, @Ne Nat e.1 x ∧ ∀ q ∈ R, @Ne Nat q.1 e.1) → PileOk (ext ++ R) its' → its'.length = stepLen W its.length → m' "missed" = some (.int ((stepMiss W its.length mi : Nat) : Int) tm') → (∀ y : Str, y ≠ "sign" → y ≠ "missed" → m' y = m y) → Q .next { s with heap := h, toks := tk }) :
    wpAny (model Challenge.rw_re0023_01.row.prog w) ((Ar 310 50 fr).deeper (lwEnv fA cD L)) (execs (lwStep.drop 2) (lwEnv fA cD L)) Q (fun _ _ => False) s := by
  obtain ⟨h0, g0, d0, k0, o0⟩ := s
  dsimp only at F N hq
  generalize hb : lwStep.drop 2 = b
  generalize hs : lwS = sc
  replace hb := hb.symm
  replace hs := hs.symm
  conv at hb => rhs; whnf
  conv at hs => rhs; whnf
  subst hb hs
  try dsimp only
  k_steps
  · refine Stop.mk ?_
    have ho : pushB = pushB := rfl
    conv at ho => rhs; whnf
    rw [← ho]
    rename (_ == _) = true => hn
    have e1 : stepLen W its.length = its.length + W.length := if_pos hn
    have e2 : stepMiss W its.length mi = mi := if_pos hn
    rw [e1, e2] at hq
    refine For_invVF F rfl rfl (nameX_L F m3 ?_ rfl rfl)
    refine iter_strUnr rfl F N rfl fun I hI => ?_
    have hxI : @Ne Nat x I := Nat.ne_of_lt (hI _ (.head _))
    refine push_rest X T hxI (W.cps.toList.map fun c => (⟨#[c]⟩ : Str)) its n R m ?_ hp off hdp (fun q hq => Nat.ne_of_lt (hI _ (.tail _ hq))) m1 ?_ ?_
    · intro c hc
      obtain ⟨a, ha, rfl⟩ := List.mem_map.mp hc
      refine ⟨one_sign a, ?_⟩
      simp only [PyData.strOk] at ok ⊢
      have := (Array.all_eq_true_iff_forall_mem.mp ok) a (by simpa using ha)
      simpa using this
    · rw [cps_map_len]; omega
    · intro h tk m' its' n' ext F' N' hext hlen hpo hm
      refine wpAny_execs_nil (wpAny_execs_nil (hq h tk m' its' n' ext tm F' N' hext hpo ?_ ((hm _ (by decide)).trans m2) fun y hy _ => hm y hy))
      rw [hlen, cps_map_len]
  · refine Stop.mk ?_
    have ho : popB = popB := rfl
    conv at ho => rhs; whnf
    rw [← ho]
    rename (_ == _) = false => hn
    have hn' : ¬ (noteOf W == "#") = true := by rw [hn]; exact Bool.false_ne_true
    have e1 : stepLen W its.length = its.length - noteLen W := if_neg hn'
    have e2 : stepMiss W its.length mi = mi + (noteLen W - its.length) := if_neg hn'
    rw [e1, e2] at hq
    refine For_invVF F rfl rfl ?_
    k_steps
    rename News _ _ _ _ => NN
    rename Fr _ _ _ _ => FF
    dsimp only
    refine iter_strUnr rfl FF NN rfl fun I hI => ?_
    have hxI : @Ne Nat x I := Nat.ne_of_lt (hI _ (.head _))
    have hc : ((Txt.slice (noteOf W) (some 2) none).cps.toList.map fun c => (⟨#[c]⟩ : Str)).length = noteLen W := cps_map_len _
    refine pop_rest X T hxI off hdp (fun q hq => Nat.ne_of_lt (hI _ (.tail _ hq))) _ its n m mi tm hp m1 m2 (by omega) (by rw [hc]; omega) ?_
    intro h tk m' its' n' tm' F' N' hlen hpo hm hmm
    rw [hc] at hlen hm
    exact wpAny_execs_nil (wpAny_execs_nil (hq h tk m' its' n' [] tm' F' N' (fun _ h => nomatch h) hpo hlen hm hmm))
end
theorem kw121 : True := by
  w_top off
  k_with_none
  exact True.intro
end Mine
end

section
open PySem PySem.W PyProof.Rows
theorem Mine.freshLW : True ∧ True := by
  w_top off
  first
  | (walk1; fail)
  | exact ⟨True.intro, True.intro⟩
end

section -- LW
open PySem PySem.W PyProof.Rows
set_option maxRecDepth 100000
set_option maxHeartbeats 1000000
set_option linter.unusedVariables false
namespace Mine
structure WordOk (Ws : List Str) (W : Str) : Prop where
  mem : W ∈ Ws
  ok : PyData.strOk W = true
  len : W.length ≤ 5
  nlen : noteLen W ≤ 5
  olen : (noteOf W).length < 100
theorem PileOk.less {R ext : List (Addr × Obj)} {its : List Value} {a : Addr} {ws : Array Value} {n : Nat} (h : PileOk (ext ++ (a, listOf ws n) :: R) its) : PileOk (ext ++ R) its := fun v hv => by
  obtain ⟨D, a', b, t1, t2, e, h1, h2⟩ := h v hv
  refine ⟨D, a', b, t1, t2, e, ?_, h2⟩
  rcases List.mem_append.mp h1 with h1 | h1
  · exact List.mem_append_left _ h1
  · rcases List.mem_cons.mp h1 with h1 | h1
    · have := congrArg (fun q : Addr × Obj => q.2.cls) h1
      exact absurd (Value.type.inj this) (by decide)
    · exact List.mem_append_right _ h1
noncomputable def runSteps : List Str → Nat → Nat → Nat × Nat
  | [], l, mi => (l, mi)
  | W :: r, l, mi => runSteps r (stepLen W l) (stepMiss W l mi)
section
variable {fA : Addr} {cD : Value} {w : World} {p : Program} {loose : List Str} {mean : ExcName → Option Value} {mg mb : Str → Option Value} {g : Heap} {s : Shared} {fr : List Env} {L x dp nt I : Addr} {n np k mi : Nat} {v : Value} {t tW tm : Tok} {m : Str → Option Value} {R : List (Addr × Obj)} {its qs : List Value} {no o1 : Obj} {W : Str} {Ws : List Str} {z : Lex} {lv : Value}
theorem step_all {Q : Flow → Shared → Prop} (X : (hd.heap_1 w.params).In g) (T : Top p loose mean mg mb g) (F : Fr g L s.heap m) (N : News g L s.heap ((z.pb, listOf (Value.str W tW :: qs).toArray np) :: (x, pileObj its n dp) :: R)) (hxp : @Ne Nat x z.pb) (offp : ∀ q ∈ R, @Ne Nat q.1 z.pb) (off : ∀ q ∈ R, @Ne Nat q.1 x)
    (h1 : (L + 1, o1) ∈ R) (c1 : o1.data = .cell (some (.ref z.mc))) (hdm : (z.dm, z.dict w lv) ∈ R) (hmc : (z.mc, instObj 150 z.dm) ∈ R) (hqs : qs.length < 100)
    (hdp : (dp, dictOf [ent w "_initial_size" t v] k) ∈ R) (hnt : (nt, no) ∈ R) (hN : IsNotes Challenge.rw_re0023_01.row.prog w no Ws) (hW : WordOk Ws W) (hp : PileOk R its)
    (m1 : m "pile" = some (.ref x)) (m2 : m "missed" = some (.int mi tm)) (m4 : m "notes" = some (.ref nt)) (hl : its.length < 50) (hmi : mi < 50)
    (hq : ∀ h tk m' its' n' np' ext tm', Fr g L h m' → News g L h ((z.pb, listOf (qs ++ [Value.str W tW]).toArray np') :: (x, pileObj its' n' dp) :: (ext ++ R)) → (∀ e ∈ ext, @Ne Nat e.1 x ∧ @Ne Nat e.1 z.pb ∧ ∀ q ∈ R, @Ne Nat q.1 e.1) → PileOk (ext ++ R) its' → its'.length = stepLen W its.length → m' "missed" = some (.int ((stepMiss W its.length mi : Nat) : Int) tm') →
      (∀ y : Str, y ≠ "sign" → y ≠ "missed" → y ≠ "word" → m' y = m y) → Q .next { s with heap := h, toks := tk }) :
    wpAny (model Challenge.rw_re0023_01.row.prog w) ((Ar 310 50 fr).deeper (lwEnv fA cD L)) (execs lwStep (lwEnv fA cD L)) Q (fun _ _ => False) s := by
  refine execs_at 2 (step_12 X T F N (fun q hq => ?_) (.tail _ h1) c1 (.tail _ hdm) (.tail _ hmc) hqs fun h' tk' n' F' N' => ?_)
  · rcases List.mem_cons.mp hq with rfl | hq
    · exact hxp
    · exact offp q hq
  dsimp only
  have N2 : News g L h' ((x, pileObj its n dp) :: (z.pb, listOf (qs ++ [Value.str W tW]).toArray n') :: R) := (by
    (try dsimp only)
    repeat refine all_cons (N' _ (by k_mem)) ?_
    first | exact all_nil | exact fun q hq => N' q (by repeat first | exact hq | apply List.Mem.tail))
  refine step_3 (s := { s with heap := h', toks := tk' }) (tW := tW) (tm := tm) X T F' N2 (fun q hq => ?_) (.tail _ hdp) (.tail _ hnt) hN hW.mem (hp.mono fun q hq => .tail _ hq) ((if_neg (by decide)).trans m1) ((if_neg (by decide)).trans m2) (if_pos rfl) ((if_neg (by decide)).trans m4) hW.ok hl (by have := hW.len; omega) (by have := hW.nlen; omega) hW.olen hmi fun h tk m' its' n2 ext tm' F3 N3 hext hpo hlen hm hmm => ?_
  · rcases List.mem_cons.mp hq with rfl | hq
    · exact Ne.symm hxp
    · exact off q hq
  refine hq h tk m' its' n2 n' ext tm' F3 (fun q hq => N3 q (by
    simp only [List.mem_cons, List.mem_append] at hq ⊢
    rcases hq with e | e | e | e <;> simp only [e, true_or, or_true])) (fun e he => ⟨(hext e he).1, Ne.symm ((hext e he).2 _ (.head _)), fun q hq => (hext e he).2 q (.tail _ hq)⟩) hpo.less hlen hm fun y y1 y2 y3 => (hmm y y1 y2).trans (if_neg y3)
theorem stepLen_le (hW : WordOk Ws W) (l : Nat) : stepLen W l ≤ l + 5 := by
  have := hW.len
  unfold stepLen
  split <;> omega
theorem stepMiss_le (hW : WordOk Ws W) (l mi : Nat) : stepMiss W l mi ≤ mi + 5 := by
  have := hW.nlen
  unfold stepMiss
  split <;> omega
theorem steps_rest {Q : Flow → Shared → Prop} {a : Int} {nn : Nat} (X : (hd.heap_1 w.params).In g) (T : Top p loose mean mg mb g) (hxp : @Ne Nat x z.pb) (hxI : @Ne Nat x I) (hpI : @Ne Nat z.pb I) (c1 : o1.data = .cell (some (.ref z.mc))) (hN : IsNotes Challenge.rw_re0023_01.row.prog w no Ws) :
    ∀ (todo : List Str) (tv dv its : List Value) (i n np mi : Nat) (tm : Tok) (R : List (Addr × Obj)) (m : Str → Option Value), StrsAre tv todo → (∀ W ∈ todo, WordOk Ws W) → (∀ q ∈ R, @Ne Nat q.1 z.pb) → (∀ q ∈ R, @Ne Nat q.1 x) → (∀ q ∈ R, @Ne Nat q.1 I) →
      (L + 1, o1) ∈ R → (z.dm, z.dict w lv) ∈ R → (z.mc, instObj 150 z.dm) ∈ R → (dp, dictOf [ent w "_initial_size" t v] k) ∈ R → (nt, no) ∈ R → PileOk R its →
      m "pile" = some (.ref x) → m "missed" = some (.int mi tm) → m "notes" = some (.ref nt) → its.length + 5 * todo.length < 50 → mi + 5 * todo.length < 50 → tv.length + dv.length < 90 →
      (∀ h tk m' its' n' np' ext tm', Fr g L h m' → News g L h ((z.pb, listOf (dv ++ tv).toArray np') :: (x, pileObj its' n' dp) :: (ext ++ R)) → (∀ e ∈ ext, @Ne Nat e.1 x ∧ @Ne Nat e.1 z.pb ∧ ∀ q ∈ R, @Ne Nat q.1 e.1) → PileOk (ext ++ R) its' → its'.length = (runSteps todo its.length mi).1 →
        m' "missed" = some (.int ((runSteps todo its.length mi).2 : Int) tm') → (∀ y : Str, y ≠ "sign" → y ≠ "missed" → y ≠ "word" → y ≠ "step" → m' y = m y) → Q .next { s with heap := h, toks := tk }) →
      RangeRest Challenge.rw_re0023_01.row.prog w ((Ar 310 50 fr).deeper (lwEnv fA cD L)) (fun _ _ => False) g (lwEnv fA cD L) "step" lwStep Q s I a nn todo.length i m ((z.pb, listOf (tv ++ dv).toArray np) :: (x, pileObj its n dp) :: R) := by
  intro todo
  induction todo with
  | nil =>
    intro tv dv its i n np mi tm R m hv hw offp off offI h1 hdm hmc hdp hnt hp m1 m2 m4 hl hmi hlen fin
    cases hv
    refine RangeRest.zero fun h tk F N => ?_
    rw [List.append_nil] at fin
    exact fin h tk m its n np [] tm F N (fun _ h => nomatch h) hp rfl m2 fun _ _ _ _ _ => rfl
  | cons W todo ih =>
    intro tv dv its i n np mi tm R m hv hw offp off offI h1 hdm hmc hdp hnt hp m1 m2 m4 hl hmi hlen fin
    cases hv with
    | cons _ tW hv' =>
    rename_i tv
    rw [List.length_cons] at hl hmi hlen
    have hW := hw W (.head _)
    refine RangeRest.succ fun ti h tk F N => ?_
    have N' : News g L h ((z.pb, listOf (Value.str W tW :: (tv ++ dv)).toArray np) :: (x, pileObj its n dp) :: (I, itR (a + ((i + 1 : Nat) : Int)) ((nn : Int) - ((i + 1 : Nat) : Int))) :: R) := fun q hq => N q (by
      simp only [List.mem_cons] at hq ⊢
      rcases hq with e | e | e | e <;> simp only [e, true_or, or_true, List.cons_append])
    refine step_all (s := { s with heap := h, toks := tk }) (tm := tm) (k := k) (t := t) (v := v) (lv := lv) X T F N' hxp (fun q hq => ?_) (fun q hq => ?_) (.tail _ h1) c1 (.tail _ hdm) (.tail _ hmc) (by rw [List.length_append]; omega) (.tail _ hdp) (.tail _ hnt) hN hW (hp.mono fun q hq => .tail _ hq) ((if_neg (by decide)).trans m1) ((if_neg (by decide)).trans m2) ((if_neg (by decide)).trans m4) (by omega) (by omega) fun h' tk' m' its' n' np' ext tm' F' N2 hext hpo hlen' hm hmm => ?_
    · rcases List.mem_cons.mp hq with rfl | hq
      · exact Ne.symm hpI
      · exact offp q hq
    · rcases List.mem_cons.mp hq with rfl | hq
      · exact Ne.symm hxI
      · exact off q hq
    have extI : ∀ e ∈ ext, @Ne Nat e.1 I := fun e he => Ne.symm ((hext e he).2.2 _ (.head _))
    have hpo2 : PileOk (ext ++ R) its' := fun v hv => by
      obtain ⟨D, a', b, t1, t2, e, h1, h2⟩ := hpo v hv
      refine ⟨D, a', b, t1, t2, e, ?_, h2⟩
      rcases List.mem_append.mp h1 with h1 | h1
      · exact List.mem_append_left _ h1
      · rcases List.mem_cons.mp h1 with h1 | h1
        · have := congrArg (fun q : Addr × Obj => q.2.cls) h1
          exact absurd (Value.type.inj this) (by decide)
        · exact List.mem_append_right _ h1
    refine ⟨h', tk', m', (z.pb, listOf (tv ++ (dv ++ [Value.str W tW])).toArray np') :: (x, pileObj its' n' dp) :: (ext ++ R), rfl, F', fun q hq => N2 q (by
      rw [List.append_assoc]
      simp only [List.mem_cons, List.mem_append] at hq ⊢
      rcases hq with e | e | e | e | e <;> simp only [e, true_or, or_true]), fun q hq => ?_, ?_⟩
    · rcases List.mem_cons.mp hq with rfl | hq
      · exact hpI
      · rcases List.mem_cons.mp hq with rfl | hq
        · exact hxI
        · rcases List.mem_append.mp hq with hq | hq
          · exact extI q hq
          · exact offI q hq
    · have b1 := stepLen_le hW its.length
      have b2 := stepMiss_le hW its.length mi
      refine ih tv (dv ++ [Value.str W tW]) its' (i + 1) n' np' (stepMiss W its.length mi) tm' (ext ++ R) m' hv' (fun W' h' => hw W' (.tail _ h')) ?_ ?_ ?_ (List.mem_append_right _ h1) (List.mem_append_right _ hdm) (List.mem_append_right _ hmc) (List.mem_append_right _ hdp) (List.mem_append_right _ hnt) hpo2
        ((hmm _ (by decide) (by decide) (by decide)).trans ((if_neg (by decide)).trans m1)) hm ((hmm _ (by decide) (by decide) (by decide)).trans ((if_neg (by decide)).trans m4)) (by omega) (by omega) (by rw [List.length_append, List.length_singleton]; omega) ?_
      · intro q hq
        rcases List.mem_append.mp hq with hq | hq
        · exact (hext q hq).2.1
        · exact offp q hq
      · intro q hq
        rcases List.mem_append.mp hq with hq | hq
        · exact (hext q hq).1
        · exact off q hq
      · intro q hq
        rcases List.mem_append.mp hq with hq | hq
        · exact extI q hq
        · exact offI q hq
      · intro h3 tk3 m3 its3 n3 np3 ext3 tm3 F3 N3 hext3 hpo3 hlen3 hm3 hmm3
        rw [hlen'] at hlen3 hm3
        rw [List.append_assoc dv [Value.str W tW] tv, List.singleton_append, ← List.append_assoc ext3 ext R] at N3
        refine fin h3 tk3 m3 its3 n3 np3 (ext3 ++ ext) tm3 F3 N3 (fun e he => ?_) (by rw [List.append_assoc]; exact hpo3) hlen3 hm3 fun y y1 y2 y3 y4 => (hmm3 y y1 y2 y3 y4).trans ((hmm y y1 y2 y3).trans (if_neg y4))
        rcases List.mem_append.mp he with he | he
        · exact ⟨(hext3 e he).1, (hext3 e he).2.1, fun q hq => (hext3 e he).2.2 q (List.mem_append_right _ hq)⟩
        · exact ⟨(hext e he).1, (hext e he).2.1, fun q hq => (hext e he).2.2 q (.tail _ hq)⟩
end
end Mine
end

section
open PySem PySem.W PyProof.Rows
theorem Mine.freshLXa : True ∧ True := by
  w_top off
  first
  | (walk1; fail)
  | exact ⟨True.intro, True.intro⟩
end

section -- LXa
open PySem PySem.W PyProof.Rows
set_option maxRecDepth 100000
set_option maxHeartbeats 1000000
set_option linter.unusedVariables false
namespace Mine
section
variable {fA : Addr} {cD : Value} {w : World} {p : Program} {loose : List Str} {mean : ExcName → Option Value} {mg mb : Str → Option Value} {g : Heap} {s : Shared} {fr : List Env} {L x dp nt I wy sz ra lf du : Addr} {n np nl nd k mi nW nS nR : Nat} {v tot : Value} {t tW tm tn tt : Tok} {m : Str → Option Value} {R news : List (Addr × Obj)} {its qs vW vS vR vl vd : List Value} {no o1 : Obj} {W : Str} {Ws : List Str} {z : Lex} {lv : Value} {ws ss r : List Int} {tu total : Int}
  {A : Around} {E : Value → Shared → Prop}
theorem way_sum_K {Q : Value → Shared → Prop} (F : Fr g L s.heap m) (X : (hd.heap_1 w.params).In g) (T : Top p loose mean mg mb g) (N : News g L s.heap news) (h1 : (wy, listOf vW.toArray nW) ∈ news) (h2 : (sz, listOf vS.toArray nS) ∈ news)
    (iW : IntsAre vW ws) (iS : IntsAre vS ss) (lW : ws.length = 4) (lS : ss.length = 4) (hst : wsAllStop [0, 1, 2, 3] ws ss [] = true)
    (a1 : A.handled = none) (a2 : A.depth ≤ 430) (a3 : A.units ≤ 130) (a4 : A.frames = some fr)
    (h : ∀ h' tk' t', Fr g L h' m → News g L h' news → Q (.int (wsSteps [0, 1, 2, 3] ws ss [] 0) t') { s with heap := h', toks := tk' }) :
    wpAny (model Challenge.rw_re0023_01.row.prog w) A (call (.ref 168) [.ref wy, .ref sz]) Q E s := by
  refine ar_any a1 a2 a3 a4 (way_sum (vW := vW) (nW := nW) (vS := vS) (nS := nS) X T F.keep (own_of N fun q hq => ?_) iW iS lW lS hst fun h' tk' t' M => ?_)
  · simp only [List.mem_cons, List.not_mem_nil, or_false] at hq
    rcases hq with rfl | rfl
    · exact h1
    · exact h2
  · exact h h' tk' t' (fr_mod F (by simp) M) (news_mod N (by simp) M fun q hq => .inr ⟨hq, by simp⟩)
theorem kw122 : True := by
  w_top off
  k_with "k_mem" => (assumption)
  exact True.intro
theorem kw123 : True := by
  w_top off
  k_with "k_all" => (assumption)
  exact True.intro
theorem kw124 : True := by
  w_top off
  k_with "eval Name" => ((k_here; k_dflt (first | (refine' nameX_L (by k_asm) (by first | assumption | rfl) ?_ (by rfl) (by rfl); k_whole) | (refine' nameX_C (by k_asm) (by rfl) (by k_mem) (by assumption) ?_ (by rfl) (by rfl); k_whole))))
  exact True.intro
theorem kw125 : True := by
  w_top off
  k_with "call ref" => ((k_here; (try dsimp only); refine Stop.it ?_))
  exact True.intro
section
theorem kw126 : True := by
  w_top off
  k_with "getMethod ref" => ((k_here; refine' meth_pile_fn_K (by k_asm) (by k_asm) (by k_asm) (by k_mem) (by k_mem) (by k_is) (by k_is) (by kernel_rfl) ?_))
  exact True.intro
theorem turn_a {Q : Flow → Shared → Prop} (X : (hd.heap_1 w.params).In g) (T : Top p loose mean mg mb g) (F : Fr g L s.heap m) (N : News g L s.heap ((x, pileObj its n dp) :: (dp, dictOf [ent w "_initial_size" t v] k) :: R)) (hxd : @Ne Nat x dp) (off : ∀ q ∈ R, @Ne Nat q.1 x ∧ @Ne Nat q.1 dp) (hl : its.length < 100)
    (m1 : m "pile" = some (.ref x))
    (hq : ∀ h' tk' n' t1 t2 t3, Fr g L h' (fun y => if y = "missed" then some (.int 0 t3) else m y) → News g L h' ((x, pileObj [] n' dp) :: (dp, dictOf [ent w "_initial_size" t1 (.int 0 t2)] k) :: R) → Q .next { s with heap := h', toks := tk' }) :
    wpAny (model Challenge.rw_re0023_01.row.prog w) ((Ar 310 50 fr).deeper (lwEnv fA cD L)) (execs (lwTurn.take 2) (lwEnv fA cD L)) Q (fun _ _ => False) s := by
  obtain ⟨h0, g0, d0, k0, o0⟩ := s
  dsimp only at F N hq
  generalize hb : lwTurn = b
  generalize hs : lwS = sc
  replace hb := hb.symm
  replace hs := hs.symm
  conv at hb => rhs; whnf
  conv at hs => rhs; whnf
  subst hb hs
  try dsimp only [List.take_zero, List.take_succ_cons]
  k_steps
  refine Stop.mk ?_
  refine pile_reset_K (fr := lwEnv fA cD L :: fr) F X T N hxd off hl rfl (Nat.le_of_ble_eq_true rfl) (Nat.le_of_ble_eq_true rfl) rfl fun h' tk' n' t1 t2 F' N' => ?_
  clear F N
  k_steps
  rename News _ _ _ _ => NN
  rename Fr _ _ _ _ => FF
  exact hq _ _ _ _ _ _ FF NN
theorem turn_c {Q : Flow → Shared → Prop} (X : (hd.heap_1 w.params).In g) (T : Top p loose mean mg mb g) (F : Fr g L s.heap m) (N : News g L s.heap ((lf, listOf vl.toArray nl) :: (x, pileObj its n dp) :: R)) (h1 : @Ne Nat x lf) (off : ∀ q ∈ R, @Ne Nat q.1 lf) (hdp : (dp, dictOf [ent w "_initial_size" t v] k) ∈ R) (hl : its.length < 100) (hv : vl.length < 100)
    (m1 : m "pile" = some (.ref x)) (m2 : m "missed" = some (.int mi tm)) (m3 : m "total" = some (.int total tt)) (m4 : m "lefts" = some (.ref lf)) (hmi : mi < 100) (hsum : (its.length : Int) - mi = total)
    (hq : ∀ h' tk' t1, Fr g L h' m → News g L h' ((lf, listOf (vl ++ [Value.int (its.length : Int) t1]).toArray (nl + 1)) :: (x, pileObj its n dp) :: R) → Q .next { s with heap := h', toks := tk' }) :
    wpAny (model Challenge.rw_re0023_01.row.prog w) ((Ar 310 50 fr).deeper (lwEnv fA cD L)) (execs ((lwTurn.drop 3).take 2) (lwEnv fA cD L)) Q (fun _ _ => False) s := by
  obtain ⟨h0, g0, d0, k0, o0⟩ := s
  dsimp only at F N hq
  generalize hb : (lwTurn.drop 3).take 2 = b
  generalize hs : lwS = sc
  replace hb := hb.symm
  replace hs := hs.symm
  conv at hb => rhs; whnf
  conv at hs => rhs; whnf
  subst hb hs
  try dsimp only [List.take_zero, List.take_succ_cons]
  k_steps
  refine Stop.mk ?_
  refine pile_count_K (its := its) (n := n) (dp := dp) (fr := lwEnv fA cD L :: fr) F X T N (.tail _ (.head _)) (.tail _ (.tail _ hdp)) hl rfl (Nat.le_of_ble_eq_true rfl) (Nat.le_of_ble_eq_true rfl) rfl fun h' tk' t' F' N' => ?_
  clear F N
  k_steps
  · exact absurd hsum (by assumption)
  refine Stop.mk ?_
  rename News _ _ _ _ => NN
  rename Fr _ _ _ _ => FF
  refine pile_count_K (its := its) (n := n) (dp := dp) (fr := lwEnv fA cD L :: fr) FF X T NN (.tail _ (.head _)) (.tail _ (.tail _ hdp)) hl rfl (Nat.le_of_ble_eq_true rfl) (Nat.le_of_ble_eq_true rfl) rfl fun h2 tk2 t2 F2 N2 => ?_
  clear FF NN
  have offA : ∀ q ∈ ((x, pileObj its n dp) :: R), q.1 ≠ lf := fun q hq => by
    rcases List.mem_cons.mp hq with rfl | hq
    · exact h1
    · exact off q hq
  k_steps
  rename News _ _ _ _ => NN
  rename Fr _ _ _ _ => FF
  rw [List.push_toArray] at NN
  exact hq _ _ _ FF NN
end
theorem kw127 : True := by
  w_top off
  k_with_none
  k_with "k_mem" => (assumption)
  k_with "k_all" => (assumption)
  k_with "eval Name" => ((k_here; k_dflt (first | (refine' nameX_L (by k_asm) (by first | assumption | rfl) ?_ (by rfl) (by rfl); k_whole) | (refine' nameX_C (by k_asm) (by rfl) (by k_mem) (by assumption) ?_ (by rfl) (by rfl); k_whole))))
  k_with "call ref" => ((k_here; (try dsimp only); refine Stop.it ?_))
  exact True.intro
section
theorem turn_d {Q : Flow → Shared → Prop} (X : (hd.heap_1 w.params).In g) (T : Top p loose mean mg mb g) (F : Fr g L s.heap m) (N : News g L s.heap ((du, listOf vd.toArray nd) :: R)) (off : ∀ q ∈ R, @Ne Nat q.1 du) (hra : (ra, listOf vR.toArray nR) ∈ R) (hsz : (sz, listOf vS.toArray nS) ∈ R) (hd' : vd.length < 100)
    (iR : IntsAre vR r) (iS : IntsAre vS ss) (lR : r.length = 4) (lS : ss.length = 4) (t0 : 0 ≤ tu) (t4 : tu < 4) (hst : wsAllStop [0, 1, 2, 3] (r.drop tu.toNat ++ r.take tu.toNat) ss [] = true)
    (m1 : m "ring" = some (.ref ra)) (m2 : m "turn" = some (.int tu tm)) (m3 : m "sizes" = some (.ref sz)) (m4 : m "dues" = some (.ref du)) 
    (hq : ∀ h' tk' t1, Fr g L h' m → News g L h' ((du, listOf (vd ++ [Value.int (wsSteps [0, 1, 2, 3] (r.drop tu.toNat ++ r.take tu.toNat) ss [] 0) t1]).toArray (nd + 1)) :: R) → Q .next { s with heap := h', toks := tk' }) :
    wpAny (model Challenge.rw_re0023_01.row.prog w) ((Ar 310 50 fr).deeper (lwEnv fA cD L)) (execs ((lwTurn.drop 5).take 1) (lwEnv fA cD L)) Q (fun _ _ => False) s := by
  obtain ⟨h0, g0, d0, k0, o0⟩ := s
  dsimp only at F N hq
  generalize hb : (lwTurn.drop 5).take 1 = b
  generalize hs : lwS = sc
  replace hb := hb.symm
  replace hs := hs.symm
  conv at hb => rhs; whnf
  conv at hs => rhs; whnf
  subst hb hs
  try dsimp only [List.take_zero, List.take_succ_cons]
  have hr4 : r.length < 100 := by omega
  k_steps
  refine Stop.mk ?_
  rename News _ _ _ _ => NN
  rename Fr _ _ _ _ => FF
  rename IntsAre _ (List.drop _ _ ++ List.take _ _) => II
  refine way_sum_K (fr := lwEnv fA cD L :: fr) FF X T NN (.head _) (.tail _ (.tail _ (.tail _ (.tail _ hsz)))) II iS (by rw [List.length_append, List.length_drop, List.length_take]; omega) lS hst rfl (Nat.le_of_ble_eq_true rfl) (Nat.le_of_ble_eq_true rfl) rfl fun h2 tk2 t2 F2 N2 => ?_
  clear FF NN
  replace N2 : News g L h2 ((du, listOf vd.toArray nd) :: R) := fun q hq => N2 q (.tail _ (.tail _ (.tail _ hq)))
  k_steps
  rename News _ _ _ _ => NN
  rename Fr _ _ _ _ => FF
  rw [List.push_toArray] at NN
  exact hq _ _ _ FF NN
end
end
theorem kw128 : True := by
  w_top off
  k_with_none
  exact True.intro
end Mine
end

section
open PySem PySem.W PyProof.Rows
theorem Mine.freshLXb : True ∧ True := by
  w_top off
  first
  | (walk1; fail)
  | exact ⟨True.intro, True.intro⟩
end

section -- LXb
open PySem PySem.W PyProof.Rows
set_option maxRecDepth 100000
set_option maxHeartbeats 1000000
set_option linter.unusedVariables false
namespace Mine
noncomputable def rotOnce (qs : List Value) : List Value := qs.drop 1 ++ qs.take 1
theorem lwTurn2 : ∃ p1 p2 p3 p4 p5 kk, lwTurn.drop 2 = .For (.Name "step" p1) (.Call (.Name "range" p2) [.Constant (.int 4) kk p3] [] p4) lwStep [] p5 :: lwTurn.drop 3 := ⟨_, _, _, _, _, _, by with_unfolding_all rfl⟩
theorem cast_rest {prog : Program} {w : World} {A : Around} {E : Value → Shared → Prop} {h₀ : Heap} {env : Env} {x : Str} {body : List Stmt} {Q : Flow → Shared → Prop} {s : Shared} {I : Addr} {a : Int} {n j j' i : Nat} {m : Str → Option Value} {pb : Addr} {ws ws' : List Value} {np : Nat} {R : List (Addr × Obj)} (e : j = j') (e2 : ws = ws')
    (h : RangeRest prog w A E h₀ env x body Q s I a n j i m ((pb, listOf ws.toArray np) :: R)) : RangeRest prog w A E h₀ env x body Q s I a n j' i m ((pb, listOf ws'.toArray np) :: R) := by
  subst e e2; exact h
section
variable {fA : Addr} {cD : Value} {w : World} {p : Program} {loose : List Str} {mean : ExcName → Option Value} {mg mb : Str → Option Value} {g : Heap} {s : Shared} {fr : List Env} {L x dp nt I wy sz ra lf du : Addr} {n np nl nd k mi nW nS nR : Nat} {v tot : Value} {t tW tm tn tt : Tok} {m : Str → Option Value} {R news : List (Addr × Obj)} {its qs vW vS vR vl vd : List Value} {no o1 : Obj} {W : Str} {Ws : List Str} {z : Lex} {lv : Value} {ws ss r : List Int} {tu total : Int}
  {A : Around} {E : Value → Shared → Prop}
theorem kw129 : True := by
  w_top off
  k_with "k_mem" => (assumption)
  exact True.intro
theorem kw130 : True := by
  w_top off
  k_with "k_all" => (assumption)
  exact True.intro
theorem kw131 : True := by
  w_top off
  k_with "eval Name" => ((k_here; k_dflt (first | (refine' nameX_L (by k_asm) (by first | assumption | rfl) ?_ (by rfl) (by rfl); k_whole) | (refine' nameX_C (by k_asm) (by rfl) (by k_mem) (by assumption) ?_ (by rfl) (by rfl); k_whole))))
  exact True.intro
theorem kw132 : True := by
  w_top off
  k_with "call ref" => ((k_here; (try dsimp only); refine Stop.it ?_))
  exact True.intro
section
local macro_rules | `(tactic| walk_at "pyIter ref") => `(tactic| k_extra "my pyIter ref")
theorem kw133 : True := by
  w_top off
  k_with "my pyIter ref" => ((k_here; (try dsimp only); refine Stop.it ?_))
  exact True.intro
theorem turn_b {Q : Flow → Shared → Prop} {Wq : List Str} (X : (hd.heap_1 w.params).In g) (T : Top p loose mean mg mb g) (F : Fr g L s.heap m) (N : News g L s.heap ((z.pb, listOf qs.toArray np) :: (x, pileObj [] n dp) :: R)) (hxp : @Ne Nat x z.pb) (offp : ∀ q ∈ R, @Ne Nat q.1 z.pb) (off : ∀ q ∈ R, @Ne Nat q.1 x)
    (h1 : (L + 1, o1) ∈ R) (c1 : o1.data = .cell (some (.ref z.mc))) (hdm : (z.dm, z.dict w lv) ∈ R) (hmc : (z.mc, instObj 150 z.dm) ∈ R) 
    (hdp : (dp, dictOf [ent w "_initial_size" t v] k) ∈ R) (hnt : (nt, no) ∈ R) (hN : IsNotes Challenge.rw_re0023_01.row.prog w no Ws) (hqs : StrsAre qs Wq) (hW : ∀ W ∈ Wq, WordOk Ws W) (l4 : Wq.length = 4) 
    (m1 : m "pile" = some (.ref x)) (m2 : m "missed" = some (.int 0 tm)) (m4 : m "notes" = some (.ref nt)) 
    (hq : ∀ h tk m' its' n' np' ext tm', Fr g L h m' → News g L h ((z.pb, listOf qs.toArray np') :: (x, pileObj its' n' dp) :: (ext ++ R)) → its'.length = (runSteps Wq 0 0).1 →
        m' "missed" = some (.int ((runSteps Wq 0 0).2 : Int) tm') → (∀ y : Str, y ≠ "sign" → y ≠ "missed" → y ≠ "word" → y ≠ "step" → m' y = m y) → 
        wpAny (model Challenge.rw_re0023_01.row.prog w) ((Ar 310 50 fr).deeper (lwEnv fA cD L)) (execs (lwTurn.drop 3) (lwEnv fA cD L)) Q (fun _ _ => False) { s with heap := h, toks := tk }) :
    wpAny (model Challenge.rw_re0023_01.row.prog w) ((Ar 310 50 fr).deeper (lwEnv fA cD L)) (execs (lwTurn.drop 2) (lwEnv fA cD L)) Q (fun _ _ => False) s := by
  obtain ⟨p1, p2, p3, p4, p5, kk, e⟩ := lwTurn2
  rw [e]
  refine wpAny_execs_cons (For_invVF F rfl rfl ?_)
  obtain ⟨h0, g0, d0, k0, o0⟩ := s
  dsimp only at F N hq
  k_steps
  refine Stop.mk ?_
  rename IsRange _ _ _ _ _ _ _ _ => RR
  rename News _ _ _ _ => NN
  rename Fr _ _ _ _ => FF
  refine iter_rangeUnr (n := 4) rfl RR (by decide) (by decide) FF NN fun I hI => ?_
  have hxI : @Ne Nat x I := Nat.ne_of_lt (hI _ (.tail _ (.head _)))
  have hpI : @Ne Nat z.pb I := Nat.ne_of_lt (hI _ (.head _))
  have offI : ∀ q ∈ R, @Ne Nat q.1 I := fun q hq => Nat.ne_of_lt (hI _ (.tail _ (.tail _ hq)))
  have l5 : qs.length = 4 := (StrsAre.length hqs).trans l4
  refine cast_rest l4 (by rw [List.append_nil]) (steps_rest (fr := fr) (no := no) (nn := 4) (a := 0) (k := k) (t := t) (v := v) (lv := lv) (o1 := o1) X T hxp hxI hpI c1 hN Wq qs [] [] 0 n np 0 tm R m hqs hW offp off offI h1 hdm hmc hdp hnt (fun _ h => nomatch h) m1 m2 m4 (by rw [l4]; decide) (by rw [l4]; decide) (by rw [l5]; decide) fun h tk m' its' n' np' ext tm' F' N' hext hpo hlen hm hmm => ?_)
  exact hq h tk m' its' n' np' ext tm' F' N' hlen hm hmm
end
theorem kw134 : True := by
  w_top off
  k_with_none
  k_with "k_mem" => (assumption)
  k_with "k_all" => (assumption)
  k_with "eval Name" => ((k_here; k_dflt (first | (refine' nameX_L (by k_asm) (by first | assumption | rfl) ?_ (by rfl) (by rfl); k_whole) | (refine' nameX_C (by k_asm) (by rfl) (by k_mem) (by assumption) ?_ (by rfl) (by rfl); k_whole))))
  k_with "call ref" => ((k_here; (try dsimp only); refine Stop.it ?_))
  exact True.intro
theorem turn_e {Q : Flow → Shared → Prop} (X : (hd.heap_1 w.params).In g) (T : Top p loose mean mg mb g) (F : Fr g L s.heap m) (N : News g L s.heap ((z.pb, listOf (v :: its).toArray n) :: R)) (off : ∀ q ∈ R, @Ne Nat q.1 z.pb)
    (h1 : (L + 1, o1) ∈ R) (c1 : o1.data = .cell (some (.ref z.mc))) (hdm : (z.dm, z.dict w lv) ∈ R) (hmc : (z.mc, instObj 150 z.dm) ∈ R) (hl : its.length < 100)
    (hq : ∀ h' tk' n', Fr g L h' m → News g L h' ((z.pb, listOf (its ++ [v]).toArray n') :: R) → Q .next { s with heap := h', toks := tk' }) :
    wpAny (model Challenge.rw_re0023_01.row.prog w) ((Ar 310 50 fr).deeper (lwEnv fA cD L)) (execs (lwTurn.drop 6) (lwEnv fA cD L)) Q (fun _ _ => False) s := by
  obtain ⟨h0, g0, d0, k0, o0⟩ := s
  dsimp only at F N hq
  generalize hb : lwTurn.drop 6 = b
  generalize hs : lwS = sc
  replace hb := hb.symm
  replace hs := hs.symm
  conv at hb => rhs; whnf
  conv at hs => rhs; whnf
  subst hb hs
  try dsimp only [List.take_zero, List.take_succ_cons]
  k_steps
  refine Stop.mk ?_
  refine pop_tok_K (fr := lwEnv fA cD L :: fr) F X T N off hdm hmc hl rfl (Nat.le_of_ble_eq_true rfl) (Nat.le_of_ble_eq_true rfl) rfl fun h' tk' F' N' => ?_
  clear F N
  k_steps
  refine Stop.mk ?_
  refine push_tok_K (fr := lwEnv fA cD L :: fr) F' X T N' off hdm hmc hl rfl (Nat.le_of_ble_eq_true rfl) (Nat.le_of_ble_eq_true rfl) rfl fun h2 tk2 F2 N2 => ?_
  clear F' N'
  k_steps
  exact hq _ _ _ F2 N2
end
theorem kw135 : True := by
  w_top off
  k_with_none
  exact True.intro
end Mine
end

section
open PySem PySem.W PyProof.Rows
theorem Mine.freshLY : True ∧ True := by
  w_top off
  first
  | (walk1; fail)
  | exact ⟨True.intro, True.intro⟩
end

section -- LY
open PySem PySem.W PyProof.Rows
set_option maxRecDepth 100000
set_option maxHeartbeats 1000000
set_option linter.unusedVariables false
namespace Mine
/-- the five objects that a turn changes are apart, and apart from the rest -/
structure Five (pb x dp lf du : Addr) (R : List (Addr × Obj)) : Prop where
  xp : @Ne Nat x pb
  dp_p : @Ne Nat dp pb
  lp : @Ne Nat lf pb
  up : @Ne Nat du pb
  xd : @Ne Nat x dp
  xl : @Ne Nat x lf
  xu : @Ne Nat x du
  dl : @Ne Nat dp lf
  d_u : @Ne Nat dp du
  lu : @Ne Nat lf du
  off : ∀ q ∈ R, @Ne Nat q.1 pb ∧ @Ne Nat q.1 x ∧ @Ne Nat q.1 dp ∧ @Ne Nat q.1 lf ∧ @Ne Nat q.1 du
noncomputable abbrev five (w : World) (pb x dp lf du : Addr) (qs : List Value) (np : Nat) (its : List Value) (n : Nat) (t : Tok) (v : Value) (vl : List Value) (nl : Nat) (vd : List Value) (nd : Nat) (R : List (Addr × Obj)) : List (Addr × Obj) :=
  (pb, listOf qs.toArray np) :: (x, pileObj its n dp) :: (dp, dictOf [ent w "_initial_size" t v] 1) :: (lf, listOf vl.toArray nl) :: (du, listOf vd.toArray nd) :: R
section
variable {fA : Addr} {cD : Value} {w : World} {p : Program} {loose : List Str} {mean : ExcName → Option Value} {mg mb : Str → Option Value} {g : Heap} {s : Shared} {fr : List Env} {L x dp nt I wy sz ra lf du : Addr} {n np nl nd k mi nW nS nR : Nat} {v tot q0 : Value} {t tW tm tn tt : Tok} {m : Str → Option Value} {R news : List (Addr × Obj)} {its qr vW vS vR vl vd : List Value} {no o1 : Obj} {W : Str} {Ws Wq : List Str} {z : Lex} {lv : Value} {ws ss r : List Int} {tu total : Int}
  {A : Around} {E : Value → Shared → Prop}
theorem turn_full {Q : Flow → Shared → Prop} (X : (hd.heap_1 w.params).In g) (T : Top p loose mean mg mb g) (f : Five z.pb x dp lf du R) (F : Fr g L s.heap m) (N : News g L s.heap (five w z.pb x dp lf du (q0 :: qr) np its n t v vl nl vd nd R)) (hl : its.length < 100) (hvl : vl.length < 100) (hvd : vd.length < 100)
    (h1 : (L + 1, o1) ∈ R) (c1 : o1.data = .cell (some (.ref z.mc))) (hdm : (z.dm, z.dict w lv) ∈ R) (hmc : (z.mc, instObj 150 z.dm) ∈ R) (hnt : (nt, no) ∈ R) (hra : (ra, listOf vR.toArray nR) ∈ R) (hsz : (sz, listOf vS.toArray nS) ∈ R)
    (hN : IsNotes Challenge.rw_re0023_01.row.prog w no Ws) (hqs : StrsAre (q0 :: qr) Wq) (hW : ∀ W ∈ Wq, WordOk Ws W) (l4 : Wq.length = 4)
    (iR : IntsAre vR r) (iS : IntsAre vS ss) (lR : r.length = 4) (lS : ss.length = 4) (t0 : 0 ≤ tu) (t4 : tu < 4) (hst : wsAllStop [0, 1, 2, 3] (r.drop tu.toNat ++ r.take tu.toNat) ss [] = true) (hsum : ((runSteps Wq 0 0).1 : Int) - ((runSteps Wq 0 0).2 : Int) = total) (b1 : (runSteps Wq 0 0).1 < 100) (b2 : (runSteps Wq 0 0).2 < 100)
    (m1 : m "pile" = some (.ref x)) (m2 : m "notes" = some (.ref nt)) (m3 : m "total" = some (.int total tt)) (m4 : m "lefts" = some (.ref lf)) (m5 : m "ring" = some (.ref ra)) (m6 : m "turn" = some (.int tu tm)) (m7 : m "sizes" = some (.ref sz)) (m8 : m "dues" = some (.ref du))
    (hq : ∀ h' tk' m' its' n' np' t' v' u1 u2, Fr g L h' m' → News g L h' (five w z.pb x dp lf du (qr ++ [q0]) np' its' n' t' v' (vl ++ [Value.int ((runSteps Wq 0 0).1 : Int) u1]) (nl + 1) (vd ++ [Value.int (wsSteps [0, 1, 2, 3] (r.drop tu.toNat ++ r.take tu.toNat) ss [] 0) u2]) (nd + 1) R) → its'.length < 100 →
      (∀ y : Str, y ≠ "sign" → y ≠ "missed" → y ≠ "word" → y ≠ "step" → m' y = m y) → Q .next { s with heap := h', toks := tk' }) :
    wpAny (model Challenge.rw_re0023_01.row.prog w) ((Ar 310 50 fr).deeper (lwEnv fA cD L)) (execs lwTurn (lwEnv fA cD L)) Q (fun _ _ => False) s := by
  have hq4 : qr.length + 1 = 4 := (StrsAre.length hqs).trans l4
  have N1 : News g L s.heap ((x, pileObj its n dp) :: (dp, dictOf [ent w "_initial_size" t v] 1) :: ((z.pb, listOf (q0 :: qr).toArray np) :: (lf, listOf vl.toArray nl) :: (du, listOf vd.toArray nd) :: R)) := (by
    (try dsimp only)
    repeat refine all_cons (N _ (by k_mem)) ?_
    first | exact all_nil | exact fun q hq => N q (by repeat first | exact hq | apply List.Mem.tail))
  refine execs_at 2 (turn_a X T F N1 f.xd (fun q hq => ?_) hl m1 fun h2 tk2 n2 t1 t2 t3 F2 N2 => ?_)
  · rcases List.mem_cons.mp hq with rfl | hq
    · exact ⟨Ne.symm f.xp, Ne.symm f.dp_p⟩
    · rcases List.mem_cons.mp hq with rfl | hq
      · exact ⟨Ne.symm f.xl, Ne.symm f.dl⟩
      · rcases List.mem_cons.mp hq with rfl | hq
        · exact ⟨Ne.symm f.xu, Ne.symm f.d_u⟩
        · exact ⟨(f.off q hq).2.1, (f.off q hq).2.2.1⟩
  dsimp only
  have N3 : News g L h2 ((z.pb, listOf (q0 :: qr).toArray np) :: (x, pileObj [] n2 dp) :: ((dp, dictOf [ent w "_initial_size" t1 (.int 0 t2)] 1) :: (lf, listOf vl.toArray nl) :: (du, listOf vd.toArray nd) :: R)) := (by
    (try dsimp only)
    repeat refine all_cons (N2 _ (by k_mem)) ?_
    first | exact all_nil | exact fun q hq => N2 q (by repeat first | exact hq | apply List.Mem.tail))
  refine turn_b (s := { s with heap := h2, toks := tk2 }) (Wq := Wq) X T F2 N3 f.xp (fun q hq => ?_) (fun q hq => ?_) (.tail _ (.tail _ (.tail _ h1))) c1 (.tail _ (.tail _ (.tail _ hdm))) (.tail _ (.tail _ (.tail _ hmc))) (.head _) (.tail _ (.tail _ (.tail _ hnt))) hN hqs hW l4 ((if_neg (by decide)).trans m1) (if_pos rfl) ((if_neg (by decide)).trans m2) fun h3 tk3 m3' its3 n3 np3 ext tm3 F3 N3' hlen hmiss hmm => ?_
  · rcases List.mem_cons.mp hq with rfl | hq
    · exact f.dp_p
    · rcases List.mem_cons.mp hq with rfl | hq
      · exact f.lp
      · rcases List.mem_cons.mp hq with rfl | hq
        · exact f.up
        · exact (f.off q hq).1
  · rcases List.mem_cons.mp hq with rfl | hq
    · exact Ne.symm f.xd
    · rcases List.mem_cons.mp hq with rfl | hq
      · exact Ne.symm f.xl
      · rcases List.mem_cons.mp hq with rfl | hq
        · exact Ne.symm f.xu
        · exact (f.off q hq).2.1
  have keepn : ∀ y : Str, y ≠ "sign" → y ≠ "missed" → y ≠ "word" → y ≠ "step" → m3' y = m y := fun y y1 y2 y3 y4 => (hmm y y1 y2 y3 y4).trans (if_neg y2)
  have N4 : News g L h3 ((lf, listOf vl.toArray nl) :: (x, pileObj its3 n3 dp) :: ((z.pb, listOf (q0 :: qr).toArray np3) :: (dp, dictOf [ent w "_initial_size" t1 (.int 0 t2)] 1) :: (du, listOf vd.toArray nd) :: R)) := fun q hq => N3' q (by
    simp only [List.mem_cons, List.mem_append] at hq ⊢
    rcases hq with e | e | e | e | e | e <;> simp only [e, true_or, or_true])
  refine execs_at 2 (turn_c (s := { s with heap := h3, toks := tk3 }) X T F3 N4 f.xl (fun q hq => ?_) (.tail _ (.head _)) (by omega) hvl ((keepn _ (by decide) (by decide) (by decide) (by decide)).trans m1) hmiss ((keepn _ (by decide) (by decide) (by decide) (by decide)).trans m3) ((keepn _ (by decide) (by decide) (by decide) (by decide)).trans m4) b2 (by rw [hlen]; exact hsum) fun h4 tk4 u1 F4 N5 => ?_)
  · rcases List.mem_cons.mp hq with rfl | hq
    · exact Ne.symm f.lp
    · rcases List.mem_cons.mp hq with rfl | hq
      · exact f.dl
      · rcases List.mem_cons.mp hq with rfl | hq
        · exact Ne.symm f.lu
        · exact (f.off q hq).2.2.2.1
  dsimp only
  rw [List.drop_drop]
  have N6 : News g L h4 ((du, listOf vd.toArray nd) :: ((lf, listOf (vl ++ [Value.int (its3.length : Int) u1]).toArray (nl + 1)) :: (x, pileObj its3 n3 dp) :: (z.pb, listOf (q0 :: qr).toArray np3) :: (dp, dictOf [ent w "_initial_size" t1 (.int 0 t2)] 1) :: R)) := (by
    (try dsimp only)
    repeat refine all_cons (N5 _ (by k_mem)) ?_
    first | exact all_nil | exact fun q hq => N5 q (by repeat first | exact hq | apply List.Mem.tail))
  refine execs_at 1 (turn_d (s := { s with heap := h4, toks := tk4 }) X T F4 N6 (fun q hq => ?_) (.tail _ (.tail _ (.tail _ (.tail _ hra)))) (.tail _ (.tail _ (.tail _ (.tail _ hsz)))) hvd iR iS lR lS t0 t4 hst ((keepn _ (by decide) (by decide) (by decide) (by decide)).trans m5) ((keepn _ (by decide) (by decide) (by decide) (by decide)).trans m6) ((keepn _ (by decide) (by decide) (by decide) (by decide)).trans m7) ((keepn _ (by decide) (by decide) (by decide) (by decide)).trans m8) fun h5 tk5 u2 F5 N7 => ?_)
  · rcases List.mem_cons.mp hq with rfl | hq
    · exact f.lu
    · rcases List.mem_cons.mp hq with rfl | hq
      · exact f.xu
      · rcases List.mem_cons.mp hq with rfl | hq
        · exact Ne.symm f.up
        · rcases List.mem_cons.mp hq with rfl | hq
          · exact f.d_u
          · exact (f.off q hq).2.2.2.2
  dsimp only
  rw [List.drop_drop]
  have N8 : News g L h5 ((z.pb, listOf (q0 :: qr).toArray np3) :: ((x, pileObj its3 n3 dp) :: (dp, dictOf [ent w "_initial_size" t1 (.int 0 t2)] 1) :: (lf, listOf (vl ++ [Value.int (its3.length : Int) u1]).toArray (nl + 1)) :: (du, listOf (vd ++ [Value.int (wsSteps [0, 1, 2, 3] (r.drop tu.toNat ++ r.take tu.toNat) ss [] 0) u2]).toArray (nd + 1)) :: R)) := (by
    (try dsimp only)
    repeat refine all_cons (N7 _ (by k_mem)) ?_
    first | exact all_nil | exact fun q hq => N7 q (by repeat first | exact hq | apply List.Mem.tail))
  refine turn_e (s := { s with heap := h5, toks := tk5 }) X T F5 N8 (fun q hq => ?_) (.tail _ (.tail _ (.tail _ (.tail _ h1)))) c1 (.tail _ (.tail _ (.tail _ (.tail _ hdm)))) (.tail _ (.tail _ (.tail _ (.tail _ hmc)))) (by omega) fun h6 tk6 np6 F6 N9 => ?_
  · rcases List.mem_cons.mp hq with rfl | hq
    · exact f.xp
    · rcases List.mem_cons.mp hq with rfl | hq
      · exact f.dp_p
      · rcases List.mem_cons.mp hq with rfl | hq
        · exact f.lp
        · rcases List.mem_cons.mp hq with rfl | hq
          · exact f.up
          · exact (f.off q hq).1
  rw [hlen] at N9
  exact hq h6 tk6 m3' its3 n3 np6 t1 (.int 0 t2) u1 u2 F6 N9 (by omega) keepn
end
end Mine
end

section
open PySem PySem.W PyProof.Rows
theorem Mine.freshLZ : True ∧ True := by
  w_top off
  first
  | (walk1; fail)
  | exact ⟨True.intro, True.intro⟩
end

section -- LZ
open PySem PySem.W PyProof.Rows
set_option maxRecDepth 100000
set_option maxHeartbeats 1000000
set_option linter.unusedVariables false
namespace Mine
noncomputable def rotS {α : Type} : List α → List α
  | [] => []
  | a :: r => r ++ [a]
noncomputable def rotN {α : Type} : Nat → List α → List α
  | 0, l => l
  | j + 1, l => rotN j (rotS l)
noncomputable def turnsOk : Nat → List Str → Int → Prop
  | 0, _, _ => True
  | j + 1, Wq, total => ((runSteps Wq 0 0).1 : Int) - ((runSteps Wq 0 0).2 : Int) = total ∧ (runSteps Wq 0 0).1 < 100 ∧ (runSteps Wq 0 0).2 < 100 ∧ turnsOk j (rotS Wq) total
noncomputable def turnsL : Nat → List Str → List Int
  | 0, _ => []
  | j + 1, Wq => ((runSteps Wq 0 0).1 : Int) :: turnsL j (rotS Wq)
noncomputable def turnsD : Nat → Nat → List Int → List Int → List Int
  | 0, _, _, _ => []
  | j + 1, i, r, ss => wsSteps [0, 1, 2, 3] (r.drop i ++ r.take i) ss [] 0 :: turnsD j (i + 1) r ss
noncomputable def stopsOk : Nat → Nat → List Int → List Int → Prop
  | 0, _, _, _ => True
  | j + 1, i, r, ss => wsAllStop [0, 1, 2, 3] (r.drop i ++ r.take i) ss [] = true ∧ stopsOk j (i + 1) r ss
theorem strs_rot {a : Value} {r : List Value} {Wq : List Str} (h : StrsAre (a :: r) Wq) : StrsAre (r ++ [a]) (rotS Wq) := by
  cases h with
  | cons W t h' => exact str_snoc h' W t
section
variable {fA : Addr} {cD : Value} {w : World} {p : Program} {loose : List Str} {mean : ExcName → Option Value} {mg mb : Str → Option Value} {g : Heap} {s : Shared} {fr : List Env} {L x dp nt I wy sz ra lf du : Addr} {nS nR : Nat} {tt : Tok} {R : List (Addr × Obj)} {vS vR : List Value} {no o1 : Obj} {Ws : List Str} {z : Lex} {lv : Value} {ss r : List Int} {total : Int}
theorem Five.cons {pb : Addr} {o : Obj} (f : Five pb x dp lf du R) (fI : @Ne Nat pb I ∧ @Ne Nat x I ∧ @Ne Nat dp I ∧ @Ne Nat lf I ∧ @Ne Nat du I) : Five pb x dp lf du ((I, o) :: R) :=
  ⟨f.xp, f.dp_p, f.lp, f.up, f.xd, f.xl, f.xu, f.dl, f.d_u, f.lu, fun q hq => by
    rcases List.mem_cons.mp hq with rfl | hq
    · exact ⟨Ne.symm fI.1, Ne.symm fI.2.1, Ne.symm fI.2.2.1, Ne.symm fI.2.2.2.1, Ne.symm fI.2.2.2.2⟩
    · exact f.off q hq⟩
theorem turns_rest {Q : Flow → Shared → Prop} (X : (hd.heap_1 w.params).In g) (T : Top p loose mean mg mb g) (f : Five z.pb x dp lf du R) (fI : @Ne Nat z.pb I ∧ @Ne Nat x I ∧ @Ne Nat dp I ∧ @Ne Nat lf I ∧ @Ne Nat du I) (offI : ∀ q ∈ R, @Ne Nat q.1 I)
    (h1 : (L + 1, o1) ∈ R) (c1 : o1.data = .cell (some (.ref z.mc))) (hdm : (z.dm, z.dict w lv) ∈ R) (hmc : (z.mc, instObj 150 z.dm) ∈ R) (hnt : (nt, no) ∈ R) (hra : (ra, listOf vR.toArray nR) ∈ R) (hsz : (sz, listOf vS.toArray nS) ∈ R)
    (hN : IsNotes Challenge.rw_re0023_01.row.prog w no Ws) (iR : IntsAre vR r) (iS : IntsAre vS ss) (lR : r.length = 4) (lS : ss.length = 4) :
    ∀ (j i : Nat), i + j = 4 → ∀ (Wq : List Str) (qs its vl vd : List Value) (np n nl nd : Nat) (t : Tok) (v : Value) (m : Str → Option Value) (lsL lsD : List Int), StrsAre qs Wq → (∀ W ∈ Wq, WordOk Ws W) → Wq.length = 4 → turnsOk j Wq total → stopsOk j i r ss → its.length < 100 → vl.length + j < 100 → vd.length + j < 100 →
      IntsAre vl lsL → IntsAre vd lsD → m "pile" = some (.ref x) → m "notes" = some (.ref nt) → m "total" = some (.int total tt) → m "lefts" = some (.ref lf) → m "ring" = some (.ref ra) → m "sizes" = some (.ref sz) → m "dues" = some (.ref du) →
      (∀ h tk m' qs' np' its' n' t' v' vl' nl' vd' nd', Fr g L h m' → News g L h (five w z.pb x dp lf du qs' np' its' n' t' v' vl' nl' vd' nd' R) → StrsAre qs' (rotN j Wq) → its'.length < 100 → IntsAre vl' (lsL ++ turnsL j Wq) → IntsAre vd' (lsD ++ turnsD j i r ss) →
        (∀ y : Str, y ≠ "sign" → y ≠ "missed" → y ≠ "word" → y ≠ "step" → y ≠ "turn" → m' y = m y) → Q .next { s with heap := h, toks := tk }) →
      RangeRest Challenge.rw_re0023_01.row.prog w ((Ar 310 50 fr).deeper (lwEnv fA cD L)) (fun _ _ => False) g (lwEnv fA cD L) "turn" lwTurn Q s I 0 4 j i m (five w z.pb x dp lf du qs np its n t v vl nl vd nd R) := by
  intro j
  induction j with
  | zero =>
    intro i hi Wq qs its vl vd np n nl nd t v m lsL lsD hqs hW l4 ok st hl hvl hvd iL iD m1 m2 m3 m4 m5 m7 m8 fin
    refine RangeRest.zero fun h tk F N => ?_
    exact fin h tk m qs np its n t v vl nl vd nd F N hqs hl (by rw [turnsL, List.append_nil]; exact iL) (by rw [turnsD, List.append_nil]; exact iD) fun _ _ _ _ _ _ => rfl
  | succ j ih =>
    intro i hi Wq qs its vl vd np n nl nd t v m lsL lsD hqs hW l4 ok st hl hvl hvd iL iD m1 m2 m3 m4 m5 m7 m8 fin
    obtain ⟨k1, k2, k3, k4⟩ := ok
    obtain ⟨s1, s2⟩ := st
    cases qs with
    | nil => have := StrsAre.length hqs; rw [l4] at this; cases this
    | cons q0 qr =>
    refine RangeRest.succ fun ti h tk F N => ?_
    have f' : Five z.pb x dp lf du ((I, itR (0 + ((i + 1 : Nat) : Int)) (((4 : Nat) : Int) - ((i + 1 : Nat) : Int))) :: R) := f.cons fI
    have N' : News g L h (five w z.pb x dp lf du (q0 :: qr) np its n t v vl nl vd nd ((I, itR (0 + ((i + 1 : Nat) : Int)) (((4 : Nat) : Int) - ((i + 1 : Nat) : Int))) :: R)) := (by
      (try dsimp only)
      repeat refine all_cons (N _ (by k_mem)) ?_
      first | exact all_nil | exact fun q hq => N q (by repeat first | exact hq | apply List.Mem.tail))
    have ei : (0 + (i : Int)).toNat = i := by omega
    refine turn_full (s := { s with heap := h, toks := tk }) (tu := 0 + (i : Int)) (tm := ti) (Wq := Wq) (r := r) (ss := ss) X T f' F N' hl (by omega) (by omega) (.tail _ h1) c1 (.tail _ hdm) (.tail _ hmc) (.tail _ hnt) (.tail _ hra) (.tail _ hsz) hN hqs hW l4 iR iS lR lS (by omega) (by omega) (by rw [ei]; exact s1) k1 k2 k3
      ((if_neg (by decide)).trans m1) ((if_neg (by decide)).trans m2) ((if_neg (by decide)).trans m3) ((if_neg (by decide)).trans m4) ((if_neg (by decide)).trans m5) (if_pos rfl) ((if_neg (by decide)).trans m7) ((if_neg (by decide)).trans m8) fun h' tk' m' its' n' np' t' v' u1 u2 F' N2 hl' hmm => ?_
    rw [ei] at N2
    refine ⟨h', tk', m', _, rfl, F', (fun q hq => N2 q (show q ∈ five w z.pb x dp lf du (qr ++ [q0]) np' its' n' t' v' (vl ++ [Value.int ((runSteps Wq 0 0).1 : Int) u1]) (nl + 1) (vd ++ [Value.int (wsSteps [0, 1, 2, 3] (r.drop i ++ r.take i) ss [] 0) u2]) (nd + 1) (_ :: R) from ?_) : News g L h' ((I, itR (0 + ((i + 1 : Nat) : Int)) (((4 : Nat) : Int) - ((i + 1 : Nat) : Int))) :: five w z.pb x dp lf du (qr ++ [q0]) np' its' n' t' v' (vl ++ [Value.int ((runSteps Wq 0 0).1 : Int) u1]) (nl + 1) (vd ++ [Value.int (wsSteps [0, 1, 2, 3] (r.drop i ++ r.take i) ss [] 0) u2]) (nd + 1) R)), fun q hq => ?_, ?_⟩
    · simp only [List.mem_cons] at hq ⊢
      rcases hq with e | e | e | e | e | e | e <;> simp only [e, true_or, or_true]
    · simp only [List.mem_cons] at hq
      rcases hq with e | e | e | e | e | e
      · subst e; exact fI.1
      · subst e; exact fI.2.1
      · subst e; exact fI.2.2.1
      · subst e; exact fI.2.2.2.1
      · subst e; exact fI.2.2.2.2
      · exact offI q e
    · have keepn : ∀ y : Str, y ≠ "sign" → y ≠ "missed" → y ≠ "word" → y ≠ "step" → y ≠ "turn" → m' y = m y := fun y y1 y2 y3 y4 y5 => (hmm y y1 y2 y3 y4).trans (if_neg y5)
      refine ih (i + 1) (by omega) (rotS Wq) (qr ++ [q0]) its' _ _ np' n' (nl + 1) (nd + 1) t' v' m' (lsL ++ [((runSteps Wq 0 0).1 : Int)]) (lsD ++ [wsSteps [0, 1, 2, 3] (r.drop i ++ r.take i) ss [] 0]) (strs_rot hqs) (fun W hW' => hW W ?_) ?_ k4 s2 hl' (by rw [List.length_append, List.length_singleton]; omega) (by rw [List.length_append, List.length_singleton]; omega) (ints_snoc iL _ _) (ints_snoc iD _ _)
        ((keepn _ (by decide) (by decide) (by decide) (by decide) (by decide)).trans m1) ((keepn _ (by decide) (by decide) (by decide) (by decide) (by decide)).trans m2) ((keepn _ (by decide) (by decide) (by decide) (by decide) (by decide)).trans m3) ((keepn _ (by decide) (by decide) (by decide) (by decide) (by decide)).trans m4) ((keepn _ (by decide) (by decide) (by decide) (by decide) (by decide)).trans m5) ((keepn _ (by decide) (by decide) (by decide) (by decide) (by decide)).trans m7) ((keepn _ (by decide) (by decide) (by decide) (by decide) (by decide)).trans m8) fun h5 tk5 m5 qs5 np5 its5 n5 t5 v5 vl5 nl5 vd5 nd5 F5 N5 q5 l5 iL5 iD5 hm5 => ?_
      · cases Wq with
        | nil => exact hW'
        | cons a r =>
          rcases List.mem_append.mp hW' with h | h
          · exact .tail _ h
          · rw [List.mem_singleton.mp h]; exact .head _
      · cases Wq with
        | nil => exact l4
        | cons a r => rw [rotS, List.length_append, List.length_singleton]; exact l4
      · rw [List.append_assoc, List.singleton_append] at iL5 iD5
        exact fin h5 tk5 m5 qs5 np5 its5 n5 t5 v5 vl5 nl5 vd5 nd5 F5 N5 q5 l5 iL5 iD5 fun y y1 y2 y3 y4 y5 => (hm5 y y1 y2 y3 y4 y5).trans (keepn y y1 y2 y3 y4 y5)
end
end Mine
end

section
open PySem PySem.W PyProof.Rows
theorem Mine.freshMA : True ∧ True := by
  w_top off
  first
  | (walk1; fail)
  | exact ⟨True.intro, True.intro⟩
end

section -- MA
open PySem PySem.W PyProof.Rows
set_option maxRecDepth 100000
set_option maxHeartbeats 1000000
set_option linter.unusedVariables false
namespace Mine
theorem lwRing0 : ∃ p1 p2 p3, lwRing = .For (.Name "k" p1) (.Name "ring" p2) lwPush [] p3 :: lwRing.drop 1 := ⟨_, _, _, by with_unfolding_all rfl⟩
theorem lwRing1 : ∃ p1 p2 p3 p4 p5 kk, lwRing.drop 1 = .For (.Name "turn" p1) (.Call (.Name "range" p2) [.Constant (.int 4) kk p3] [] p4) lwTurn [] p5 :: lwRing.drop 2 := ⟨_, _, _, _, _, _, by with_unfolding_all rfl⟩
theorem item_S {prog : Program} {w : World} {A : Around} {E : Value → Shared → Prop} {s : Shared} {g : Heap} {L : Addr} {news : List (Addr × Obj)} {value slice : PySem.Expr} {l : Addr} {vs : List Value} {n : Nat} {k : Int} {u : Tok} {v : Value} {Q : Value → Shared → Prop} (N : News g L s.heap news) (hm : (l, listOf vs.toArray n) ∈ news)
    (h0 : 0 ≤ k) (h1 : k < 4) (hx : vs[k.toNat]? = some v) (h : Q v s)
    (hs : subscripted slice false (.ref l) (.int k u) = operate [.ref l, .int k u] (getItem (.ref l) (.int k u)) := by with_unfolding_all rfl) :
    wpAny (model prog w) A (subscriptTail value slice (.ref l) (.int k u)) Q E s := by
  have hl := PySem.IsL.isList (n := n) (N _ hm).1
  exact tail_any hl.typeIs slot_list_getitem.lookup (wpAny_getItem_list hl h0 (by omega) (by simpa using hx) h) hs
theorem ints_at {vs : List Value} {ns : List Int} (h : IntsAre vs ns) {i : Nat} (hi : i < ns.length) {v : Value} (hv : vs[i]? = some v) : ∃ t, v = .int (ns[i]'hi) t := by
  induction h generalizing i with
  | nil => cases hi
  | cons n t h ih =>
    cases i with
    | zero => exact ⟨t, (Option.some.inj hv).symm⟩
    | succ i => exact ih (Nat.lt_of_succ_lt_succ hi) hv
section
variable {fA : Addr} {cD : Value} {w : World} {p : Program} {loose : List Str} {mean : ExcName → Option Value} {mg mb : Str → Option Value} {g : Heap} {s : Shared} {fr : List Env} {L x dp nt I wy sz ra lf du hl : Addr} {nS nR np nH : Nat} {tk3 : Tok} {m : Str → Option Value} {R : List (Addr × Obj)} {vS vR vH its : List Value} {no o1 o2 o3 : Obj} {Ws : List Str} {z : Lex} {lv v : Value} {ss r : List Int} {k : Int}
theorem kw136 : True := by
  w_top off
  k_with "k_mem" => (assumption)
  exact True.intro
theorem kw137 : True := by
  w_top off
  k_with "k_all" => (assumption)
  exact True.intro
theorem kw138 : True := by
  w_top off
  k_with "eval Name" => ((k_here; k_dflt (first | (refine' nameX_L (by k_asm) (by first | assumption | rfl) ?_ (by rfl) (by rfl); k_whole) | (refine' nameX_C (by k_asm) (by rfl) (by k_mem) (by assumption) ?_ (by rfl) (by rfl); k_whole))))
  exact True.intro
theorem kw139 : True := by
  w_top off
  k_with "call ref" => ((k_here; (try dsimp only); refine Stop.it ?_))
  exact True.intro
theorem kw140 : True := by
  w_top off
  k_with "subscriptTail" => ((k_here; (with_reducible show wpAny _ _ (subscriptTail _ _ (Value.ref _) (Value.int _ _)) _ _ _); (refine' item_S (by k_asm) (by k_mem) (by assumption) (by assumption) (by assumption) ?_)))
  exact True.intro
theorem push_one {Q : Flow → Shared → Prop} (X : (hd.heap_1 w.params).In g) (T : Top p loose mean mg mb g) (F : Fr g L s.heap m) (N : News g L s.heap ((z.pb, listOf its.toArray np) :: R)) (off : ∀ q ∈ R, @Ne Nat q.1 z.pb)
    (h1 : (L + 1, o1) ∈ R) (c1 : o1.data = .cell (some (.ref z.mc))) (h2 : (L + 2, o2) ∈ R) (c2 : o2.data = .cell (some (.ref hl))) (h3 : (L + 3, o3) ∈ R) (c3 : o3.data = .cell (some (.int k tk3))) (hdm : (z.dm, z.dict w lv) ∈ R) (hmc : (z.mc, instObj 150 z.dm) ∈ R) (hhl : (hl, listOf vH.toArray nH) ∈ R)
    (k0 : 0 ≤ k) (k4 : k < 4) (hv : vH[k.toNat]? = some v) (hlen : its.length < 100)
    (hq : ∀ h' tk' np', Fr g L h' m → News g L h' ((z.pb, listOf (its ++ [v]).toArray np') :: R) → Q .next { s with heap := h', toks := tk' }) :
    wpAny (model Challenge.rw_re0023_01.row.prog w) ((Ar 310 50 fr).deeper (lwEnv fA cD L)) (execs lwPush (lwEnv fA cD L)) Q (fun _ _ => False) s := by
  obtain ⟨h0, g0, d0, k0, o0⟩ := s
  dsimp only at F N hq
  generalize hb : lwPush = b
  generalize hs : lwS = sc
  replace hb := hb.symm
  replace hs := hs.symm
  conv at hb => rhs; whnf
  conv at hs => rhs; whnf
  subst hb hs
  try dsimp only [List.take_zero, List.take_succ_cons]
  k_steps
  refine Stop.mk ?_
  refine push_tok_K (fr := lwEnv fA cD L :: fr) F X T N off hdm hmc hlen rfl (Nat.le_of_ble_eq_true rfl) (Nat.le_of_ble_eq_true rfl) rfl fun h' tk' F' N' => ?_
  clear F N
  k_steps
  exact hq _ _ _ F' N'
theorem ring_push {Q : Flow → Shared → Prop} {v3 : Option Value} (X : (hd.heap_1 w.params).In g) (T : Top p loose mean mg mb g) (F : Fr g L s.heap m) (N : News g L s.heap ((L + 3, o3) :: (z.pb, listOf #[] np) :: R)) (offp : ∀ q ∈ R, @Ne Nat q.1 z.pb) (off3 : ∀ q ∈ R, @Ne Nat q.1 (L + 3)) (hp3 : @Ne Nat z.pb (L + 3)) (c3 : o3.data = .cell v3)
    (h1 : (L + 1, o1) ∈ R) (c1 : o1.data = .cell (some (.ref z.mc))) (h2 : (L + 2, o2) ∈ R) (c2 : o2.data = .cell (some (.ref hl))) (hdm : (z.dm, z.dict w lv) ∈ R) (hmc : (z.mc, instObj 150 z.dm) ∈ R) (hhl : (hl, listOf vH.toArray nH) ∈ R) (hra : (ra, listOf vR.toArray nR) ∈ R)
    (iR : IntsAre vR r) (lR : r.length = 4) (hk : ∀ k ∈ r, 0 ≤ k ∧ k < 4) (lH : vH.length = 4) (m1 : m "ring" = some (.ref ra))
    (hq : ∀ h' tk' o3' v3' np', Fr g L h' m → o3'.data = .cell v3' → News g L h' ((L + 3, o3') :: (z.pb, listOf (r.map fun k => vH.getD k.toNat .none).toArray np') :: R) → wpAny (model Challenge.rw_re0023_01.row.prog w) ((Ar 310 50 fr).deeper (lwEnv fA cD L)) (execs (lwRing.drop 1) (lwEnv fA cD L)) Q (fun _ _ => False) { s with heap := h', toks := tk' }) :
    wpAny (model Challenge.rw_re0023_01.row.prog w) ((Ar 310 50 fr).deeper (lwEnv fA cD L)) (execs lwRing (lwEnv fA cD L)) Q (fun _ _ => False) s := by
  obtain ⟨p1, p2, p3, e⟩ := lwRing0
  rw [e]
  refine wpAny_execs_cons (For_invT g (nameX_L F m1 ?_ rfl rfl) (fun _ => by with_unfolding_all rfl))
  have hraG := (N _ (.tail _ (.tail _ hra))).1
  have hlt : ra < s.heap.objs.size := Heap.lt_size hraG
  have hlist := PySem.IsL.isList (n := nR) hraG
  have nI := fresh_fr F (Nat.le_refl s.heap.objs.size)
  have lt : ∀ q ∈ ((L + 3, o3) :: (z.pb, listOf #[] np) :: R), @LT.lt Nat _ q.1 s.heap.objs.size := fun q hq => Heap.lt_size (N q hq).1
  have l3 : @LT.lt Nat _ (L + 3) s.heap.objs.size := lt _ (.head _)
  have lp : @LT.lt Nat _ z.pb s.heap.objs.size := lt _ (.tail _ (.head _))
  have lR' : vR.toArray.size = 4 := by rw [List.size_toArray, iR.length, lR]
  refine wpAny_pyIter_list hlist ?_
  refine ⟨s.heap.objs.size, [s.heap.objs.size, ra], [s.heap.objs.size], vR.toArray.size, _, _, m, (L + 3, o3) :: (z.pb, listOf #[] np) :: R, fun i m₁ news => ∃ o3 v3 np, news = (L + 3, o3) :: (z.pb, listOf ((r.take i).map fun k => vH.getD k.toNat .none).toArray np) :: R ∧ o3.data = .cell v3 ∧ m₁ = m,
    rfl, Walks.list rfl s.heap.objs.size ra (Nat.ne_of_lt hlt) vR.toArray, ?_, ?_, ?_, ⟨⟨_, Heap.get?_push_size _ rfl, rfl, rfl⟩, hlist.at fun o e => Heap.get?_push_of_some _ e⟩, F.push _, fun q hq => ⟨Heap.get?_push_of_some _ (N q hq).1, (N q hq).2⟩, ?_, ?_, ?_, ?_⟩
  · intro hmem
    rcases List.mem_cons.mp hmem with e | hmem
    · exact nI.2 e.symm
    · exact (N _ (.tail _ (.tail _ hra))).2.1 (List.mem_singleton.mp hmem).symm
  · intro b hb
    rw [List.mem_singleton.mp hb]; exact nI.1
  · intro q hq hI
    exact absurd (lt q hq) ((List.mem_singleton.mp hI) ▸ Nat.lt_irrefl _)
  · intro i s' v Q' hst hQ'
    exact wpAny_of_eq (by rfl) hQ'
  · exact ⟨o3, v3, np, rfl, c3, rfl⟩
  · rintro i v m₁ news₁ s₁ own hin hP ⟨o3, v3, np, rfl, c3, rfl⟩ hoffw hown hget hall hst F₁ N₁
    have hi4 : i < r.length := by rw [lR]; omega
    obtain ⟨tv, rfl⟩ : ∃ t, v = .int (r[i]'hi4) t := by
      have hP' : vR[i]? = some v := by simpa using hP
      exact ints_at iR hi4 hP'
    obtain ⟨k0, k4⟩ := hk (r[i]'hi4) (List.getElem_mem hi4)
    have own3 : ∀ q ∈ own, @Ne Nat q.1 (L + 3) := fun q hq => by
      rcases List.mem_cons.mp (hown q hq) with e | e
      · rw [e]; exact Nat.ne_of_gt l3
      · rw [List.mem_singleton.mp e]; exact off3 _ hra
    have ownp : ∀ q ∈ own, @Ne Nat q.1 z.pb := fun q hq => by
      rcases List.mem_cons.mp (hown q hq) with e | e
      · rw [e]; exact Nat.ne_of_gt lp
      · rw [List.mem_singleton.mp e]; exact offp _ hra
    have N₁' : News g L s₁.heap ((L + 3, o3) :: (own ++ (z.pb, listOf ((r.take i).map fun k => vH.getD k.toNat .none).toArray np) :: R)) := fun q hq => N₁ q (by
      simp only [List.mem_append, List.mem_cons] at hq ⊢
      rcases hq with e | e | e | e <;> simp only [e, true_or, or_true])
    have U : UpdF (L + 3) o3 ((L + 3, o3) :: (own ++ (z.pb, listOf ((r.take i).map fun k => vH.getD k.toNat .none).toArray np) :: R)) (fun o' => (L + 3, o') :: (own ++ (z.pb, listOf ((r.take i).map fun k => vH.getD k.toNat .none).toArray np) :: R)) := .head fun q hq => by
      rcases List.mem_append.mp hq with hq | hq
      · exact own3 q hq
      · rcases List.mem_cons.mp hq with rfl | hq
        · exact hp3
        · exact off3 q hq
    refine wpAny_assign_Name (storeX_C F₁ N₁' rfl U c3 (fun h2' o' F2 N2 c' => ?_) rfl rfl)
    have N3 : News g L h2' ((z.pb, listOf ((r.take i).map fun k => vH.getD k.toNat .none).toArray np) :: ((L + 3, o') :: (own ++ R))) := fun q hq => N2 q (by
      simp only [List.mem_append, List.mem_cons] at hq ⊢
      rcases hq with e | e | e | e <;> simp only [e, true_or, or_true])
    have inR : ∀ q ∈ R, q ∈ ((L + 3, o') :: (own ++ R)) := fun q hq => .tail _ (List.mem_append_right _ hq)
    have hv : vH[(r[i]'hi4).toNat]? = some (vH.getD (r[i]'hi4).toNat .none) := by
      have hlt : (r[i]'hi4).toNat < vH.length := by rw [lH]; omega
      rw [List.getD_eq_getElem?_getD, List.getElem?_eq_getElem hlt]; rfl
    refine push_one (s := { s₁ with heap := h2' }) X T F2 N3 (fun q hq => ?_) (inR _ h1) c1 (inR _ h2) c2 (.head _) c' (inR _ hdm) (inR _ hmc) (inR _ hhl) k0 k4 hv (by rw [List.length_map, List.length_take]; omega) fun h4 tk4 np4 F4 N4 => ?_
    · rcases List.mem_cons.mp hq with rfl | hq
      · exact Ne.symm hp3
      · rcases List.mem_append.mp hq with hq | hq
        · exact ownp q hq
        · exact offp q hq
    have et : (r.take (i + 1)).map (fun k => vH.getD k.toNat .none) = (r.take i).map (fun k => vH.getD k.toNat .none) ++ [vH.getD (r[i]'hi4).toNat .none] := by
      rw [List.take_succ_eq_append_getElem hi4, List.map_append]; rfl
    refine ⟨rfl, h4, tk4, m₁, (L + 3, o') :: (z.pb, listOf ((r.take (i + 1)).map fun k => vH.getD k.toNat .none).toArray np4) :: R, rfl, F4, fun q hq => ?_, fun q hq hI => ?_, o', _, np4, rfl, c', rfl⟩
    · rw [et] at hq
      refine N4 q ?_
      simp only [List.mem_append, List.mem_cons] at hq ⊢
      rcases hq with e | e | e | e <;> simp only [e, true_or, or_true]
    · have hI' := List.mem_singleton.mp hI
      rcases List.mem_cons.mp hq with rfl | hq
      · exact absurd hI' (Nat.ne_of_lt l3)
      · rcases List.mem_cons.mp hq with rfl | hq
        · exact absurd hI' (Nat.ne_of_lt lp)
        · exact absurd hI' (Nat.ne_of_lt (lt q (.tail _ (.tail _ hq))))
  · rintro h' tk m' news' F' N' _ ⟨o3, v3, np', rfl, c3, rfl⟩
    rw [lR', ← lR, List.take_length] at N'
    exact hq h' tk o3 v3 np' F' c3 N'
end
theorem kw141 : True := by
  w_top off
  k_with_none
  exact True.intro
end Mine
end

section
open PySem PySem.W PyProof.Rows
theorem Mine.freshMB : True ∧ True := by
  w_top off
  first
  | (walk1; fail)
  | exact ⟨True.intro, True.intro⟩
end

section -- MB
open PySem PySem.W PyProof.Rows
set_option maxRecDepth 100000
set_option maxHeartbeats 1000000
set_option linter.unusedVariables false
namespace Mine
section
variable {fA : Addr} {cD : Value} {w : World} {p : Program} {loose : List Str} {mean : ExcName → Option Value} {mg mb : Str → Option Value} {g : Heap} {s : Shared} {fr : List Env} {L x dp nt I wy sz ra lf du hl : Addr} {nS nR np nH : Nat} {tk3 : Tok} {m : Str → Option Value} {R : List (Addr × Obj)} {vS vR vH its qs : List Value} {no o1 o2 o3 : Obj} {Ws Wq : List Str} {z : Lex} {lv v : Value} {ss r : List Int} {k : Int} {A : Around}
theorem pops_rest {elt : PySem.Expr} {x : Str} {scope : Scope} {cl : List (Str × Addr)} {env : Env} {S : List (Addr × Obj) → Prop} {P : Nat → Value → Prop} {Fin : List Value → List (Addr × Obj) → Prop}
    (X : (hd.heap_1 w.params).In g) (T : Top p loose mean mg mb g) (offp : ∀ q ∈ R, @Ne Nat q.1 z.pb) (hdm : (z.dm, z.dict w lv) ∈ R) (hmc : (z.mc, instObj 150 z.dm) ∈ R)
    (a1 : A.handled = none) (a2 : A.depth ≤ 430) (a3 : A.units ≤ 130) (a4 : A.frames = some fr) (hS : ∀ nw : List (Addr × Obj), (∀ q ∈ R, q ∈ nw) → S nw)
    (helt : ∀ I oI C oC D m₂ ys h tk qs np E' (Q' : Value → Shared → Prop), LCg.NsObj oC m₂ → Fr g L h m → News g L h ((I, oI) :: (C, oC) :: (D, LCg.lst ys) :: (z.pb, listOf (List.toArray qs) np) :: R) →
      wpAny (model Challenge.rw_re0023_01.row.prog w) A (call (.ref 140) [.ref z.mc]) Q' E' { s with heap := h, toks := tk } → wpAny (model Challenge.rw_re0023_01.row.prog w) A (eval elt (compEnvC scope cl C env)) Q' E' { s with heap := h, toks := tk }) :
    ∀ (qs : List Value) (i : Nat) (ys : List Value) (np : Nat), qs.length < 100 → (∀ np', Fin (ys ++ qs) ((z.pb, listOf #[] np') :: R)) →
      LCg.CompRest Challenge.rw_re0023_01.row.prog w A g L m env elt x scope cl s S P Fin qs.length i ys ((z.pb, listOf qs.toArray np) :: R) := by
  intro qs
  induction qs with
  | nil =>
    intro i ys np hl fin
    have := fin np
    rw [List.append_nil] at this
    exact LCg.CompRest.zero this
  | cons q qs ih =>
    intro i ys np hl fin
    rw [List.length_cons] at hl
    refine LCg.CompRest.succ fun v I oI C oC D m₂ h tk E' hv hC hx F' N' off ne => ?_
    have off := off.mem
    have oP := off _ (.head _)
    have oR := fun q hq => off q (.tail _ hq)
    refine helt I oI C oC D m₂ ys h tk (q :: qs) np E' _ hC F' N' ?_
    have N2 : News g L h ((z.pb, listOf (q :: qs).toArray np) :: ((I, oI) :: (C, oC) :: (D, LCg.lst ys) :: R)) := (by
      (try dsimp only)
      repeat refine all_cons (N' _ (by k_mem)) ?_
      first | exact all_nil | exact fun q hq => N' q (by repeat first | exact hq | apply List.Mem.tail))
    refine pop_tok_K (fr := fr) (s := { s with heap := h, toks := tk }) F' X T N2 (fun q hq => ?_) (.tail _ (.tail _ (.tail _ hdm))) (.tail _ (.tail _ (.tail _ hmc))) (by omega) a1 a2 a3 a4 fun h' tk' F2 N3 => ?_
    · rcases List.mem_cons.mp hq with rfl | hq
      · exact Ne.symm oP.1
      · rcases List.mem_cons.mp hq with rfl | hq
        · exact Ne.symm oP.2.1
        · rcases List.mem_cons.mp hq with rfl | hq
          · exact Ne.symm oP.2.2
          · exact offp q hq
    · refine ⟨h', tk', (z.pb, listOf qs.toArray (np + 1)) :: R, rfl, F2, (by
        (try dsimp only)
        repeat refine all_cons (N3 _ (by k_mem)) ?_
        first | exact all_nil | exact fun q hq => N3 q (by repeat first | exact hq | apply List.Mem.tail)), LCg.Off3.of fun q hq => ?_, hS _ fun q hq => .tail _ hq, ?_⟩
      · rcases List.mem_cons.mp hq with rfl | hq
        · exact oP
        · exact oR q hq
      · refine ih (i + 1) (ys ++ [q]) (np + 1) (by omega) fun np' => ?_
        rw [List.append_assoc]; exact fin np'
theorem heards_rest {elt : PySem.Expr} {x : Str} {scope : Scope} {cl : List (Str × Addr)} {env : Env} {S : List (Addr × Obj) → Prop} {Fin : List Value → List (Addr × Obj) → Prop} {news : List (Addr × Obj)} (iR : IntsAre vR r) (hk : ∀ k ∈ r, 0 ≤ k ∧ k < 4) (hS : S news)
    (helt : ∀ I oI C oC D m₂ ys h tk k t E' (Q' : Value → Shared → Prop), LCg.NsObj oC m₂ → m₂ x = some (.int k t) → 0 ≤ k → k < 4 → Fr g L h m → News g L h ((I, oI) :: (C, oC) :: (D, LCg.lst ys) :: news) →
      (∀ tk', Q' (vH.getD k.toNat .none) { s with heap := h, toks := tk' }) → wpAny (model Challenge.rw_re0023_01.row.prog w) A (eval elt (compEnvC scope cl C env)) Q' E' { s with heap := h, toks := tk }) :
    ∀ (j i : Nat) (ys : List Value), i + j = r.length → (Fin (ys ++ (r.drop i).map fun k => vH.getD k.toNat .none) news) →
      LCg.CompRest Challenge.rw_re0023_01.row.prog w A g L m env elt x scope cl s S (fun i v => vR.toArray[i]? = some v) Fin j i ys news := by
  intro j
  induction j with
  | zero =>
    intro i ys hi fin
    rw [List.drop_of_length_le (by omega), List.map_nil, List.append_nil] at fin
    exact LCg.CompRest.zero fin
  | succ j ih =>
    intro i ys hi fin
    have hi4 : i < r.length := by omega
    refine LCg.CompRest.succ fun v I oI C oC D m₂ h tk E' hv hC hx F' N' off ne => ?_
    obtain ⟨tv, rfl⟩ : ∃ t, v = .int (r[i]'hi4) t := ints_at iR hi4 (by simpa using hv)
    obtain ⟨k0, k4⟩ := hk (r[i]'hi4) (List.getElem_mem hi4)
    refine helt I oI C oC D m₂ ys h tk _ tv E' _ hC hx k0 k4 F' N' fun tk' => ⟨h, tk', news, rfl, F', N', off, hS, ?_⟩
    refine ih (i + 1) _ (by omega) ?_
    rw [List.append_assoc]
    rw [List.drop_eq_getElem_cons hi4, List.map_cons] at fin
    exact fin
theorem kw142 : True := by
  w_top off
  k_with "k_mem" => (assumption)
  exact True.intro
theorem kw143 : True := by
  w_top off
  k_with "k_all" => (assumption)
  exact True.intro
theorem kw144 : True := by
  w_top off
  k_with "eval Name" => ((k_here; k_dflt (first | (refine' nameX_L (by k_asm) (by first | assumption | rfl) ?_ (by rfl) (by rfl); k_whole) | (refine' nameX_C (by k_asm) (by rfl) (by k_mem) (by assumption) ?_ (by rfl) (by rfl); k_whole) | (refine' nameC (by k_asm) (by assumption) (by k_mem) (by assumption) ?_ (by rfl) (by rfl) (by decide); k_whole) | (refine' nameCF (by k_asm) (by rfl) (by k_mem) (by assumption) ?_ (by rfl) (by rfl) (by decide) (by decide); k_whole))))
  exact True.intro
theorem kw145 : True := by
  w_top off
  k_with "call ref" => ((k_here; (try dsimp only); refine Stop.it ?_))
  exact True.intro
theorem kw146 : True := by
  w_top off
  k_with "eval ListComp" => ((k_here; (try dsimp only); refine Stop.it ?_))
  exact True.intro
theorem kw147 : True := by
  w_top off
  k_with "compareOp NotEq ref ref" => ((k_here; (try dsimp only); refine Stop.it ?_))
  exact True.intro
theorem kw148 : True := by
  w_top off
  k_with "subscriptTail" => ((k_here; (with_reducible show wpAny _ _ (subscriptTail _ _ (Value.ref _) (Value.int _ _)) _ _ _); (refine' item_S (by k_asm) (by k_mem) (by assumption) (by assumption) (by assumption) ?_)))
  exact True.intro
theorem ring_check {Q : Flow → Shared → Prop} (X : (hd.heap_1 w.params).In g) (T : Top p loose mean mg mb g) (F : Fr g L s.heap m) (N : News g L s.heap ((z.pb, listOf qs.toArray np) :: R)) (offp : ∀ q ∈ R, @Ne Nat q.1 z.pb)
    (h1 : (L + 1, o1) ∈ R) (c1 : o1.data = .cell (some (.ref z.mc))) (h2 : (L + 2, o2) ∈ R) (c2 : o2.data = .cell (some (.ref hl))) (hdm : (z.dm, z.dict w lv) ∈ R) (hmc : (z.mc, instObj 150 z.dm) ∈ R) (hhl : (hl, listOf vH.toArray nH) ∈ R) (hra : (ra, listOf vR.toArray nR) ∈ R)
    (iR : IntsAre vR r) (lR : r.length = 4) (hk : ∀ k ∈ r, 0 ≤ k ∧ k < 4) (lH : vH.length = 4) (m1 : m "ring" = some (.ref ra)) (hqs : StrsAre qs Wq) (hrs : StrsAre (r.map fun k => vH.getD k.toNat .none) Wq) (ok : ∀ y ∈ Wq, PyData.strOk y = true)
    (hq : ∀ h' tk' np', Fr g L h' m → News g L h' ((z.pb, listOf #[] np') :: R) → Q .next { s with heap := h', toks := tk' }) :
    wpAny (model Challenge.rw_re0023_01.row.prog w) ((Ar 310 50 fr).deeper (lwEnv fA cD L)) (execs (lwRing.drop 2) (lwEnv fA cD L)) Q (fun _ _ => False) s := by
  have lq : qs.length = 4 := by
    have a := StrsAre.length hqs
    have b := StrsAre.length hrs
    rw [List.length_map, lR] at b
    omega
  obtain ⟨h0, g0, d0, k0, o0⟩ := s
  dsimp only at F N hq
  generalize hb : lwRing.drop 2 = b
  generalize hs : lwS = sc
  replace hb := hb.symm
  replace hs := hs.symm
  conv at hb => rhs; whnf
  conv at hs => rhs; whnf
  subst hb hs
  try dsimp only [List.take_zero, List.take_succ_cons]
  k_steps
  refine Stop.mk ?_
  refine LCg.ListComp_U (h₀ := g) (L := L) (m := m) (cl := [("machine", L + 1)]) F (by with_unfolding_all rfl) (by decide) rfl (by decide) rfl ?_
  refine nameX_L F m1 (LCg.CompSrc.ledger rfl F N (.tail _ hra) (by rw [List.size_toArray, iR.length, lR]; decide) fun g' => ?_) rfl rfl
  rw [List.size_toArray, iR.length, lR, ← lq]
  refine pops_rest (fr := lwEnv fA cD L :: fr) (lv := lv) X T offp hdm hmc rfl (Nat.le_of_ble_eq_true rfl) (Nat.le_of_ble_eq_true rfl) rfl (fun nw hnw => .inr ⟨_, hnw _ hra, rfl, _, rfl⟩) ?_ qs 0 [] np (by omega) ?_
  · intro I oI C oC D m₂ ys h tk qs np E' Q' hC F' N' hcall
    clear F N
    dsimp only at hcall ⊢
    k_steps
    exact Stop.mk hcall
  · intro np' D h tk F' N' off
    rw [List.nil_append] at N' 
    clear F N
    dsimp only
    k_steps
    refine Stop.mk ?_
    refine LCg.ListComp_U (h₀ := g) (L := L) (m := m) (cl := [("heard", L + 2)]) F' (by with_unfolding_all rfl) (by decide) rfl (by decide) rfl ?_
    refine nameX_L F' m1 (LCg.CompSrc.ledger rfl F' N' (.tail _ (.tail _ hra)) (by rw [List.size_toArray, iR.length, lR]; decide) fun g' => ?_) rfl rfl
    rw [List.size_toArray, iR.length]
    refine heards_rest (vH := vH) iR hk (.inr ⟨_, .tail _ (.tail _ hra), rfl, _, rfl⟩) ?_ r.length 0 [] (by omega) ?_
    · intro I oI C oC D m₂ ys h tk k t E' Q' hC hx k0 k4 F' N' hQ
      clear off
      have hv : vH[k.toNat]? = some (vH.getD k.toNat .none) := by
        have hlt : k.toNat < vH.length := by rw [lH]; omega
        rw [List.getD_eq_getElem?_getD, List.getElem?_eq_getElem hlt]; rfl
      dsimp only at hQ ⊢
      k_steps
      exact hQ _
    · intro D2 h2 tk2 F2 N2 off2
      rw [List.nil_append, List.drop_zero] at N2
      dsimp only
      clear F' N'
      k_steps
      refine Stop.mk (st_ne_same ok (PySem.IsL.isList (n := qs.length) (N2 _ (.tail _ (.head _))).1) (PySem.IsL.isList (n := (r.map fun k => vH.getD k.toNat .none).length) (N2 _ (.head _)).1) hqs hrs (Nat.le_of_ble_eq_true rfl) ?_)
      try dsimp only
      k_steps
      exact hq _ _ np' F2 (fun q hq => N2 q (.tail _ (.tail _ hq)))
end
theorem kw149 : True := by
  w_top off
  k_with_none
  exact True.intro
end Mine
end

section
open PySem PySem.W PyProof.Rows
theorem Mine.freshMC : True ∧ True := by
  w_top off
  first
  | (walk1; fail)
  | exact ⟨True.intro, True.intro⟩
end

section -- MC
open PySem PySem.W PyProof.Rows
set_option maxRecDepth 100000
set_option maxHeartbeats 1000000
set_option linter.unusedVariables false
namespace Mine
section
variable {fA : Addr} {cD : Value} {w : World} {p : Program} {loose : List Str} {mean : ExcName → Option Value} {mg mb : Str → Option Value} {g : Heap} {s : Shared} {fr : List Env} {L x dp nt I wy sz ra lf du hl : Addr} {nS nR np nH n nl nd : Nat} {tt t : Tok} {m : Str → Option Value} {R : List (Addr × Obj)} {vS vR vH its vl vd : List Value} {no o1 o2 o3 : Obj} {Ws Wq : List Str} {z : Lex} {lv v : Value} {ss r lsL lsD : List Int} {total : Int} {A : Around}
theorem kw150 : True := by
  w_top off
  k_with "k_mem" => (assumption)
  exact True.intro
local macro_rules | `(tactic| walk_at "pyIter ref") => `(tactic| k_extra "my pyIter ref")
theorem kw151 : True := by
  w_top off
  k_with "my pyIter ref" => ((k_here; (try dsimp only); refine Stop.it ?_))
  exact True.intro
theorem ring_turns {Q : Flow → Shared → Prop} {qs : List Value} (X : (hd.heap_1 w.params).In g) (T : Top p loose mean mg mb g) (f : Five z.pb x dp lf du R) (F : Fr g L s.heap m) (N : News g L s.heap (five w z.pb x dp lf du qs np its n t v vl nl vd nd R)) 
    (h1 : (L + 1, o1) ∈ R) (c1 : o1.data = .cell (some (.ref z.mc))) (hdm : (z.dm, z.dict w lv) ∈ R) (hmc : (z.mc, instObj 150 z.dm) ∈ R) (hnt : (nt, no) ∈ R) (hra : (ra, listOf vR.toArray nR) ∈ R) (hsz : (sz, listOf vS.toArray nS) ∈ R)
    (hN : IsNotes Challenge.rw_re0023_01.row.prog w no Ws) (iR : IntsAre vR r) (iS : IntsAre vS ss) (lR : r.length = 4) (lS : ss.length = 4)
    (hqs : StrsAre qs Wq) (hW : ∀ W ∈ Wq, WordOk Ws W) (l4 : Wq.length = 4) (ok : turnsOk 4 Wq total) (st : stopsOk 4 0 r ss) (hl' : its.length < 100) (hvl : vl.length < 90) (hvd : vd.length < 90) (iL : IntsAre vl lsL) (iD : IntsAre vd lsD)
    (m1 : m "pile" = some (.ref x)) (m2 : m "notes" = some (.ref nt)) (m3 : m "total" = some (.int total tt)) (m4 : m "lefts" = some (.ref lf)) (m5 : m "ring" = some (.ref ra)) (m7 : m "sizes" = some (.ref sz)) (m8 : m "dues" = some (.ref du))
    (hq : ∀ h tk m' qs' np' its' n' t' v' vl' nl' vd' nd', Fr g L h m' → News g L h (five w z.pb x dp lf du qs' np' its' n' t' v' vl' nl' vd' nd' R) → StrsAre qs' (rotN 4 Wq) → its'.length < 100 → IntsAre vl' (lsL ++ turnsL 4 Wq) → IntsAre vd' (lsD ++ turnsD 4 0 r ss) →
        (∀ y : Str, y ≠ "sign" → y ≠ "missed" → y ≠ "word" → y ≠ "step" → y ≠ "turn" → m' y = m y) → wpAny (model Challenge.rw_re0023_01.row.prog w) ((Ar 310 50 fr).deeper (lwEnv fA cD L)) (execs (lwRing.drop 2) (lwEnv fA cD L)) Q (fun _ _ => False) { s with heap := h, toks := tk }) :
    wpAny (model Challenge.rw_re0023_01.row.prog w) ((Ar 310 50 fr).deeper (lwEnv fA cD L)) (execs (lwRing.drop 1) (lwEnv fA cD L)) Q (fun _ _ => False) s := by
  obtain ⟨p1, p2, p3, p4, p5, kk, e⟩ := lwRing1
  rw [e]
  refine wpAny_execs_cons (For_invVF F rfl rfl ?_)
  obtain ⟨h0, g0, d0, k0, o0⟩ := s
  dsimp only at F N hq
  k_steps
  refine Stop.mk ?_
  rename IsRange _ _ _ _ _ _ _ _ => RR
  rename News _ _ _ _ => NN
  rename Fr _ _ _ _ => FF
  refine iter_rangeUnr (n := 4) rfl RR (by decide) (by decide) FF NN fun I hI => ?_
  have fI : @Ne Nat z.pb I ∧ @Ne Nat x I ∧ @Ne Nat dp I ∧ @Ne Nat lf I ∧ @Ne Nat du I := ⟨Nat.ne_of_lt (hI _ (.head _)), Nat.ne_of_lt (hI _ (.tail _ (.head _))), Nat.ne_of_lt (hI _ (.tail _ (.tail _ (.head _)))), Nat.ne_of_lt (hI _ (.tail _ (.tail _ (.tail _ (.head _))))), Nat.ne_of_lt (hI _ (.tail _ (.tail _ (.tail _ (.tail _ (.head _))))))⟩
  have offI : ∀ q ∈ R, @Ne Nat q.1 I := fun q hq => Nat.ne_of_lt (hI _ (.tail _ (.tail _ (.tail _ (.tail _ (.tail _ hq))))))
  refine turns_rest (fr := fr) (tt := tt) X T f fI offI h1 c1 hdm hmc hnt hra hsz hN iR iS lR lS 4 0 rfl Wq qs its vl vd np n nl nd t v m lsL lsD hqs hW l4 ok st hl' (by omega) (by omega) iL iD m1 m2 m3 m4 m5 m7 m8 fun h tk m' qs' np' its' n' t' v' vl' nl' vd' nd' F' N' a1 a2 a3 a4 a5 => ?_
  exact hq h tk m' qs' np' its' n' t' v' vl' nl' vd' nd' F' N' a1 a2 a3 a4 a5
end
theorem kw152 : True := by
  w_top off
  k_with_none
  exact True.intro
section
variable {fA : Addr} {cD : Value} {w : World} {p : Program} {loose : List Str} {mean : ExcName → Option Value} {mg mb : Str → Option Value} {g : Heap} {s : Shared} {fr : List Env} {L x dp nt I wy sz ra lf du hl : Addr} {nS nR np nH n nl nd : Nat} {tt t : Tok} {m : Str → Option Value} {R : List (Addr × Obj)} {vS vR vH its vl vd : List Value} {no o1 o2 o3 : Obj} {Ws Wq : List Str} {z : Lex} {lv v : Value} {ss r lsL lsD : List Int} {total : Int} {A : Around}
theorem ring_full {Q : Flow → Shared → Prop} {v3 : Option Value} (X : (hd.heap_1 w.params).In g) (T : Top p loose mean mg mb g) (f : Five z.pb x dp lf du R) (F : Fr g L s.heap m) (N : News g L s.heap ((L + 3, o3) :: five w z.pb x dp lf du [] np its n t v vl nl vd nd R)) (off3 : ∀ q ∈ R, @Ne Nat q.1 (L + 3)) (a3 : @Ne Nat z.pb (L + 3) ∧ @Ne Nat x (L + 3) ∧ @Ne Nat dp (L + 3) ∧ @Ne Nat lf (L + 3) ∧ @Ne Nat du (L + 3)) (c3 : o3.data = .cell v3)
    (h1 : (L + 1, o1) ∈ R) (c1 : o1.data = .cell (some (.ref z.mc))) (h2 : (L + 2, o2) ∈ R) (c2 : o2.data = .cell (some (.ref hl))) (hdm : (z.dm, z.dict w lv) ∈ R) (hmc : (z.mc, instObj 150 z.dm) ∈ R) (hnt : (nt, no) ∈ R) (hra : (ra, listOf vR.toArray nR) ∈ R) (hsz : (sz, listOf vS.toArray nS) ∈ R) (hhl : (hl, listOf vH.toArray nH) ∈ R)
    (hN : IsNotes Challenge.rw_re0023_01.row.prog w no Ws) (iR : IntsAre vR r) (iS : IntsAre vS ss) (lR : r.length = 4) (lS : ss.length = 4) (hk : ∀ k ∈ r, 0 ≤ k ∧ k < 4) (lH : vH.length = 4)
    (hqs : StrsAre (r.map fun k => vH.getD k.toNat .none) Wq) (hW : ∀ W ∈ Wq, WordOk Ws W) (l4 : Wq.length = 4) (hrot : rotN 4 Wq = Wq) (ok : turnsOk 4 Wq total) (st : stopsOk 4 0 r ss) (hl' : its.length < 100) (hvl : vl.length < 90) (hvd : vd.length < 90) (iL : IntsAre vl lsL) (iD : IntsAre vd lsD)
    (m1 : m "pile" = some (.ref x)) (m2 : m "notes" = some (.ref nt)) (m3 : m "total" = some (.int total tt)) (m4 : m "lefts" = some (.ref lf)) (m5 : m "ring" = some (.ref ra)) (m7 : m "sizes" = some (.ref sz)) (m8 : m "dues" = some (.ref du))
    (hq : ∀ h tk m' o3' v3' np' its' n' t' v' vl' nl' vd' nd', Fr g L h m' → o3'.data = .cell v3' → News g L h ((L + 3, o3') :: five w z.pb x dp lf du [] np' its' n' t' v' vl' nl' vd' nd' R) → its'.length < 100 → IntsAre vl' (lsL ++ turnsL 4 Wq) → IntsAre vd' (lsD ++ turnsD 4 0 r ss) →
        (∀ y : Str, y ≠ "sign" → y ≠ "missed" → y ≠ "word" → y ≠ "step" → y ≠ "turn" → m' y = m y) → Q .next { s with heap := h, toks := tk }) :
    wpAny (model Challenge.rw_re0023_01.row.prog w) ((Ar 310 50 fr).deeper (lwEnv fA cD L)) (execs lwRing (lwEnv fA cD L)) Q (fun _ _ => False) s := by
  let R1 := (x, pileObj its n dp) :: (dp, dictOf [ent w "_initial_size" t v] 1) :: (lf, listOf vl.toArray nl) :: (du, listOf vd.toArray nd) :: R
  have in1 : ∀ q ∈ R, q ∈ R1 := fun q hq => .tail _ (.tail _ (.tail _ (.tail _ hq)))
  refine ring_push (R := R1) X T F N (fun q hq => ?_) (fun q hq => ?_) a3.1 c3 (in1 _ h1) c1 (in1 _ h2) c2 (in1 _ hdm) (in1 _ hmc) (in1 _ hhl) (in1 _ hra) iR lR hk lH m5 fun h2' tk2 o3' v3' np' F2 c3' N2 => ?_
  · rcases List.mem_cons.mp hq with rfl | hq
    · exact f.xp
    · rcases List.mem_cons.mp hq with rfl | hq
      · exact f.dp_p
      · rcases List.mem_cons.mp hq with rfl | hq
        · exact f.lp
        · rcases List.mem_cons.mp hq with rfl | hq
          · exact f.up
          · exact (f.off q hq).1
  · rcases List.mem_cons.mp hq with rfl | hq
    · exact a3.2.1
    · rcases List.mem_cons.mp hq with rfl | hq
      · exact a3.2.2.1
      · rcases List.mem_cons.mp hq with rfl | hq
        · exact a3.2.2.2.1
        · rcases List.mem_cons.mp hq with rfl | hq
          · exact a3.2.2.2.2
          · exact off3 q hq
  have f3 : Five z.pb x dp lf du ((L + 3, o3') :: R) := f.cons a3
  have N3 : News g L h2' (five w z.pb x dp lf du (r.map fun k => vH.getD k.toNat .none) np' its n t v vl nl vd nd ((L + 3, o3') :: R)) := (by
    (try dsimp only)
    repeat refine all_cons (N2 _ (by k_mem)) ?_
    first | exact all_nil | exact fun q hq => N2 q (by repeat first | exact hq | apply List.Mem.tail))
  refine ring_turns (s := { s with heap := h2', toks := tk2 }) (tt := tt) X T f3 F2 N3 (.tail _ h1) c1 (.tail _ hdm) (.tail _ hmc) (.tail _ hnt) (.tail _ hra) (.tail _ hsz) hN iR iS lR lS hqs hW l4 ok st hl' hvl hvd iL iD m1 m2 m3 m4 m5 m7 m8 fun h3 tk3 m3' qs' np3 its3 n3 t3 v3'' vl3 nl3 vd3 nd3 F3 N4 q3 l3 iL3 iD3 hmm => ?_
  rw [hrot] at q3
  let R4 := (x, pileObj its3 n3 dp) :: (dp, dictOf [ent w "_initial_size" t3 v3''] 1) :: (lf, listOf vl3.toArray nl3) :: (du, listOf vd3.toArray nd3) :: (L + 3, o3') :: R
  have in4 : ∀ q ∈ R, q ∈ R4 := fun q hq => .tail _ (.tail _ (.tail _ (.tail _ (.tail _ hq))))
  refine ring_check (s := { s with heap := h3, toks := tk3 }) (R := R4) X T F3 N4 (fun q hq => ?_) (in4 _ h1) c1 (in4 _ h2) c2 (in4 _ hdm) (in4 _ hmc) (in4 _ hhl) (in4 _ hra) iR lR hk lH ((hmm _ (by decide) (by decide) (by decide) (by decide) (by decide)).trans m5) q3 hqs (fun y hy => (hW y hy).ok) fun h4 tk4 np4 F4 N5 => ?_
  · rcases List.mem_cons.mp hq with rfl | hq
    · exact f.xp
    · rcases List.mem_cons.mp hq with rfl | hq
      · exact f.dp_p
      · rcases List.mem_cons.mp hq with rfl | hq
        · exact f.lp
        · rcases List.mem_cons.mp hq with rfl | hq
          · exact f.up
          · rcases List.mem_cons.mp hq with rfl | hq
            · exact Ne.symm a3.1
            · exact (f.off q hq).1
  · refine hq h4 tk4 m3' o3' v3' np4 its3 n3 t3 v3'' vl3 nl3 vd3 nd3 F4 c3' (fun q hq => N5 q ?_) l3 iL3 iD3 hmm
    simp only [List.mem_cons, R4] at hq ⊢
    rcases hq with e | e | e | e | e | e | e <;> simp only [e, true_or, or_true]
end
end Mine
end

section
open PySem PySem.W PyProof.Rows
theorem Mine.freshMD : True ∧ True := by
  w_top off
  first
  | (walk1; fail)
  | exact ⟨True.intro, True.intro⟩
end

section -- MD
open PySem PySem.W PyProof.Rows
set_option maxRecDepth 100000
set_option maxHeartbeats 1000000
set_option linter.unusedVariables false
namespace Mine
theorem sorted_eq {a b : List Int} (ha : a.Pairwise (fun x y => x ≤ y)) (hb : b.Pairwise (fun x y => x ≤ y)) (h : a.Perm b) : a = b :=
  h.eq_of_pairwise (fun _ _ _ _ => Int.le_antisymm) ha hb
section
variable {fA : Addr} {cD : Value} {w : World} {p : Program} {loose : List Str} {mean : ExcName → Option Value} {mg mb : Str → Option Value} {g : Heap} {s : Shared} {fr : List Env} {L lf du : Addr} {nl nd nb : Nat} {m : Str → Option Value} {rest : List (Addr × Obj)} {vl vd : List Value} {o1 : Obj} {z : Lex} {lsL lsD : List Int} {l : Int} {tl ti : Tok}
theorem kw153 : True := by
  w_top off
  k_with "eval Name" => ((k_here; k_dflt (first | (refine' nameX_L (by k_asm) (by first | assumption | rfl) ?_ (by rfl) (by rfl); k_whole) | (refine' nameX_C (by k_asm) (by rfl) (by k_mem) (by assumption) ?_ (by rfl) (by rfl); k_whole))))
  exact True.intro
theorem kw154 : True := by
  w_top off
  k_with "call ref" => ((k_here; (try dsimp only); refine Stop.it ?_))
  exact True.intro
theorem law_17 {Q : Flow → Shared → Prop} (X : (hd.heap_1 w.params).In g) (T : Top p loose mean mg mb g) (F : Fr g L s.heap m) (Z : z.Ok) (hp1 : @Ne Nat z.pb z.aL) (hp2 : @Ne Nat z.pb z.dm)
    (N : News g L s.heap ((lf, listOf vl.toArray nl) :: (du, listOf vd.toArray nd) :: (L + 1, o1) :: (ZL z w nb l (z.x.length : Nat) tl ti))) (c1 : o1.data = .cell (some (.ref z.mc))) (iL : IntsAre vl lsL) (iD : IntsAre vd lsD) (hperm : lsL.Perm lsD) (l24 : lsL.length = 24)
    (m1 : m "lefts" = some (.ref lf)) (m2 : m "dues" = some (.ref du)) (off1 : @Ne Nat z.aL (L + 1) ∧ @Ne Nat z.dm (L + 1))
    (hq : ∀ h' tk', Fr g L h' m → Q (.ret (.bool true)) { s with heap := h', toks := tk' }) :
    wpAny (model Challenge.rw_re0023_01.row.prog w) ((Ar 310 50 fr).deeper (lwEnv fA cD L)) (execs (lwB.drop 17) (lwEnv fA cD L)) Q (fun _ _ => False) s := by
  have l24' : lsD.length = 24 := by rw [← hperm.length_eq]; exact l24
  obtain ⟨h0, g0, d0, k0, o0⟩ := s
  dsimp only at F N hq
  generalize hb : lwB.drop 17 = b
  generalize hs : lwS = sc
  replace hb := hb.symm
  replace hs := hs.symm
  conv at hb => rhs; whnf
  conv at hs => rhs; whnf
  subst hb hs
  try dsimp only [List.take_zero, List.take_succ_cons]
  k_steps
  · refine Stop.mk ?_
    rename News _ _ _ _ => NN
    rename Fr _ _ _ _ => FF
    refine get_end_K (fr := lwEnv fA cD L :: fr) (l := l) (tl := tl) (ti := ti) (nb := nb) (rest := [(L + 1, o1)]) (pre := []) (k := z.x.length) Z hp1 hp2 (fun q hq => ?_) FF X T (fun q hq => NN q ?_) (fun c hc => nomatch hc) ?_ rfl rfl (Nat.le_of_ble_eq_true rfl) (Nat.le_of_ble_eq_true rfl) rfl fun h' tk' t1 t2 t3 F' N' => ?_
    · rw [List.mem_singleton.mp hq]; exact off1
    · rcases List.mem_append.mp hq with hq | hq
      · exact .tail _ (.tail _ (.tail _ (.tail _ (.tail _ hq))))
      · rw [List.mem_singleton.mp hq]; exact .tail _ (.tail _ (.tail _ (.tail _ (.head _))))
    · exact List.drop_of_length_le (Nat.le_of_eq Array.length_toList)
    · clear FF NN
      k_steps
      exact hq _ _ F'
  · exfalso
    rename ¬ (_ = _) => hne
    exact hne (sorted_eq (by assumption) (by assumption) ((by assumption : List.Perm _ lsL).trans (hperm.trans (by assumption : List.Perm _ lsD).symm)))
end
theorem kw155 : True := by
  w_top off
  k_with_none
  exact True.intro
end Mine
end

section
open PySem PySem.W PyProof.Rows
theorem Mine.freshME : True ∧ True := by
  w_top off
  first
  | (walk1; fail)
  | exact ⟨True.intro, True.intro⟩
end

section -- ME
open PySem PySem.W PyProof.Rows
set_option maxRecDepth 100000
set_option maxHeartbeats 1000000
set_option linter.unusedVariables false
namespace Mine
noncomputable def wqOf (Ws : List Str) (r : List Int) : List Str := r.map fun k => Ws.getD k.toNat ""
structure RingOk (Ws : List Str) (ss : List Int) (total : Int) (r : List Int) : Prop where
  l4 : r.length = 4
  hk : ∀ k ∈ r, 0 ≤ k ∧ k < 4
  rot : rotN 4 (wqOf Ws r) = wqOf Ws r
  ok : turnsOk 4 (wqOf Ws r) total
  st : stopsOk 4 0 r ss
theorem strs_getD {vH : List Value} {Ws : List Str} (h : StrsAre vH Ws) (i : Nat) (hi : i < Ws.length) : ∃ t, vH.getD i .none = .str (Ws.getD i "") t := by
  induction h generalizing i with
  | nil => cases hi
  | cons y t h ih =>
    cases i with
    | zero => exact ⟨t, rfl⟩
    | succ i => exact ih i (Nat.lt_of_succ_lt_succ hi)
theorem strs_ring {vH : List Value} {Ws : List Str} (h : StrsAre vH Ws) (h4 : Ws.length = 4) : ∀ (r : List Int), (∀ k ∈ r, 0 ≤ k ∧ k < 4) → StrsAre (r.map fun k => vH.getD k.toNat .none) (wqOf Ws r)
  | [], _ => .nil
  | k :: r, hk => by
    obtain ⟨t, e⟩ := strs_getD h k.toNat (by have := hk k (.head _); omega)
    simp only [wqOf, List.map_cons, e]
    exact .cons _ _ (strs_ring h h4 r fun k' hk' => hk k' (.tail _ hk'))
theorem wq_mem {Ws : List Str} (h4 : Ws.length = 4) {r : List Int} (hk : ∀ k ∈ r, 0 ≤ k ∧ k < 4) : ∀ W ∈ wqOf Ws r, W ∈ Ws := by
  intro W hW
  obtain ⟨k, hk', rfl⟩ := List.mem_map.mp hW
  have := hk k hk'
  have hlt : k.toNat < Ws.length := by omega
  rw [List.getD_eq_getElem?_getD, List.getElem?_eq_getElem hlt]
  exact List.getElem_mem hlt
theorem lwB16 : ∃ p1 p2 p3, lwB.drop 16 = .For (.Name "ring" p1) (.Name "rings" p2) lwRing [] p3 :: lwB.drop 17 := ⟨_, _, _, by with_unfolding_all rfl⟩
theorem turnsL_len : ∀ j Wq, (turnsL j Wq).length = j
  | 0, _ => rfl
  | j + 1, Wq => by simp [turnsL, turnsL_len j]
theorem turnsD_len : ∀ j i r ss, (turnsD j i r ss).length = j
  | 0, _, _, _ => rfl
  | j + 1, i, r, ss => by simp [turnsD, turnsD_len j]
section
variable {fA : Addr} {cD : Value} {w : World} {p : Program} {loose : List Str} {mean : ExcName → Option Value} {mg mb : Str → Option Value} {g : Heap} {s : Shared} {fr : List Env} {L x dp nt I sz lf du hl rl : Addr} {nS nH : Nat} {tt : Tok} {m : Str → Option Value} {R : List (Addr × Obj)} {vS vH : List Value} {no o1 o2 : Obj} {Ws : List Str} {z : Lex} {lv : Value} {ss : List Int} {total : Int} {lp : Addr × Obj}
theorem rings_rest {Q : Flow → Shared → Prop} (X : (hd.heap_1 w.params).In g) (T : Top p loose mean mg mb g) (f : Five z.pb x dp lf du R) (off3 : ∀ q ∈ R, @Ne Nat q.1 (L + 3)) (a3 : @Ne Nat z.pb (L + 3) ∧ @Ne Nat x (L + 3) ∧ @Ne Nat dp (L + 3) ∧ @Ne Nat lf (L + 3) ∧ @Ne Nat du (L + 3)) (fI : @Ne Nat z.pb I ∧ @Ne Nat x I ∧ @Ne Nat dp I ∧ @Ne Nat lf I ∧ @Ne Nat du I) (offI : ∀ q ∈ R, @Ne Nat q.1 I) (I3 : @Ne Nat I (L + 3)) (hlp : lp ∈ R)
    (h1 : (L + 1, o1) ∈ R) (c1 : o1.data = .cell (some (.ref z.mc))) (h2 : (L + 2, o2) ∈ R) (c2 : o2.data = .cell (some (.ref hl))) (hdm : (z.dm, z.dict w lv) ∈ R) (hmc : (z.mc, instObj 150 z.dm) ∈ R) (hnt : (nt, no) ∈ R) (hsz : (sz, listOf vS.toArray nS) ∈ R) (hhl : (hl, listOf vH.toArray nH) ∈ R)
    (hN : IsNotes Challenge.rw_re0023_01.row.prog w no Ws) (iS : IntsAre vS ss) (lS : ss.length = 4) (hH : StrsAre vH Ws) (lW : Ws.length = 4) (hW : ∀ W ∈ Ws, WordOk Ws W) :
    ∀ (rs : List (List Int)) (vs its vl vd : List Value) (np n nl nd : Nat) (t : Tok) (v : Value) (m : Str → Option Value) (lsL lsD : List Int) (o3 : Obj) (v3 : Option Value), Made R vs rs → (∀ r ∈ rs, RingOk Ws ss total r) → o3.data = .cell v3 → its.length < 100 → vl.length + 4 * rs.length < 80 → vd.length + 4 * rs.length < 80 → IntsAre vl lsL → IntsAre vd lsD →
      m "pile" = some (.ref x) → m "notes" = some (.ref nt) → m "total" = some (.int total tt) → m "lefts" = some (.ref lf) → m "sizes" = some (.ref sz) → m "dues" = some (.ref du) →
      (∀ h tk m' o3' np' its' n' t' v' vl' nl' vd' nd', Fr g L h m' → News g L h ((L + 3, o3') :: five w z.pb x dp lf du [] np' its' n' t' v' vl' nl' vd' nd' R) → IntsAre vl' (lsL ++ rs.flatMap fun r => turnsL 4 (wqOf Ws r)) → IntsAre vd' (lsD ++ rs.flatMap fun r => turnsD 4 0 r ss) → m' "lefts" = some (.ref lf) → m' "dues" = some (.ref du) → Q .next { s with heap := h, toks := tk }) →
      ListRest Challenge.rw_re0023_01.row.prog w ((Ar 310 50 fr).deeper (lwEnv fA cD L)) (fun _ _ => False) g (lwEnv fA cD L) "ring" lwRing Q s I lp vs m ((L + 3, o3) :: five w z.pb x dp lf du [] np its n t v vl nl vd nd R) := by
  have lH : vH.length = 4 := (StrsAre.length hH).trans lW
  intro rs
  induction rs with
  | nil =>
    intro vs its vl vd np n nl nd t v m lsL lsD o3 v3 hm hr c3 hl' hvl hvd iL iD m1 m2 m3 m4 m7 m8 fin
    cases hm
    refine ListRest.zero fun h tk F N => ?_
    exact fin h tk m o3 np its n t v vl nl vd nd F N (by rw [List.flatMap_nil, List.append_nil]; exact iL) (by rw [List.flatMap_nil, List.append_nil]; exact iD) m4 m8
  | cons r rs ih =>
    intro vs its vl vd np n nl nd t v m lsL lsD o3 v3 hm hr c3 hl' hvl hvd iL iD m1 m2 m3 m4 m7 m8 fin
    rw [List.length_cons] at hvl hvd
    cases hm with
    | @cons ra vR _ nR vs' _ hra iR hm' =>
    have rok := hr r (.head _)
    refine ListRest.succ fun it h tk hc F N => ?_
    have f' : Five z.pb x dp lf du ((I, it) :: R) := f.cons fI
    have N' : News g L h ((L + 3, o3) :: five w z.pb x dp lf du [] np its n t v vl nl vd nd ((I, it) :: R)) := (by
      (try dsimp only)
      repeat refine all_cons (N _ (by k_mem)) ?_
      first | exact all_nil | exact fun q hq => N q (by repeat first | exact hq | apply List.Mem.tail))
    refine ring_full (s := { s with heap := h, toks := tk }) (tt := tt) (r := r) (ss := ss) (total := total) X T f' F N' (fun q hq => ?_) a3 c3 (.tail _ h1) c1 (.tail _ h2) c2 (.tail _ hdm) (.tail _ hmc) (.tail _ hnt) (.tail _ hra) (.tail _ hsz) (.tail _ hhl) hN iR iS rok.l4 lS rok.hk lH (strs_ring hH lW r rok.hk) (fun W hW' => hW W (wq_mem lW rok.hk W hW')) (by rw [wqOf, List.length_map]; exact rok.l4) rok.rot rok.ok rok.st hl' (by omega) (by omega) iL iD
      ((if_neg (by decide)).trans m1) ((if_neg (by decide)).trans m2) ((if_neg (by decide)).trans m3) ((if_neg (by decide)).trans m4) (if_pos rfl) ((if_neg (by decide)).trans m7) ((if_neg (by decide)).trans m8) fun h' tk' m' o3' v3' np' its' n' t' v' vl' nl' vd' nd' F' c3' N2 hl2 iL2 iD2 hmm => ?_
    · rcases List.mem_cons.mp hq with rfl | hq
      · exact I3
      · exact off3 q hq
    have keepn : ∀ y : Str, y ≠ "sign" → y ≠ "missed" → y ≠ "word" → y ≠ "step" → y ≠ "turn" → y ≠ "ring" → m' y = m y := fun y y1 y2 y3 y4 y5 y6 => (hmm y y1 y2 y3 y4 y5).trans (if_neg y6)
    have N3 : News g L h' ((I, it) :: (L + 3, o3') :: five w z.pb x dp lf du [] np' its' n' t' v' vl' nl' vd' nd' R) := (by
      (try dsimp only)
      repeat refine all_cons (N2 _ (by k_mem)) ?_
      first | exact all_nil | exact fun q hq => N2 q (by repeat first | exact hq | apply List.Mem.tail))
    have e1 := iL2.length
    have e2 := iD2.length
    have e3 := iL.length
    have e4 := iD.length
    rw [List.length_append, turnsL_len] at e1
    rw [List.length_append, turnsD_len] at e2
    refine ⟨h', tk', m', _, rfl, F', N3, fun q hq => ?_, ?_, ?_⟩
    · simp only [List.mem_cons] at hq
      rcases hq with e | e | e | e | e | e | e
      · subst e; exact Ne.symm I3
      · subst e; exact fI.1
      · subst e; exact fI.2.1
      · subst e; exact fI.2.2.1
      · subst e; exact fI.2.2.2.1
      · subst e; exact fI.2.2.2.2
      · exact offI q e
    · exact .tail _ (.tail _ (.tail _ (.tail _ (.tail _ (.tail _ hlp)))))
    · refine ih vs' its' vl' vd' np' n' nl' nd' t' v' m' (lsL ++ turnsL 4 (wqOf Ws r)) (lsD ++ turnsD 4 0 r ss) o3' v3' hm' (fun r' hr' => hr r' (.tail _ hr')) c3' hl2 (by omega) (by omega) iL2 iD2
        ((keepn _ (by decide) (by decide) (by decide) (by decide) (by decide) (by decide)).trans m1) ((keepn _ (by decide) (by decide) (by decide) (by decide) (by decide) (by decide)).trans m2) ((keepn _ (by decide) (by decide) (by decide) (by decide) (by decide) (by decide)).trans m3) ((keepn _ (by decide) (by decide) (by decide) (by decide) (by decide) (by decide)).trans m4) ((keepn _ (by decide) (by decide) (by decide) (by decide) (by decide) (by decide)).trans m7) ((keepn _ (by decide) (by decide) (by decide) (by decide) (by decide) (by decide)).trans m8)
        fun h5 tk5 m5 o5 np5 its5 n5 t5 v5 vl5 nl5 vd5 nd5 F5 N5 iL5 iD5 a5 b5 => ?_
      rw [List.append_assoc] at iL5 iD5
      exact fin h5 tk5 m5 o5 np5 its5 n5 t5 v5 vl5 nl5 vd5 nd5 F5 N5 (by rw [List.flatMap_cons]; exact iL5) (by rw [List.flatMap_cons]; exact iD5) a5 b5
end
end Mine
end

section
open PySem PySem.W PyProof.Rows
theorem Mine.freshMF : True ∧ True := by
  w_top off
  first
  | (walk1; fail)
  | exact ⟨True.intro, True.intro⟩
end

section -- MF
open PySem PySem.W PyProof.Rows
set_option maxRecDepth 100000
set_option maxHeartbeats 1000000
set_option linter.unusedVariables false
namespace Mine
section
variable {fA : Addr} {cD : Value} {w : World} {p : Program} {loose : List Str} {mean : ExcName → Option Value} {mg mb : Str → Option Value} {g : Heap} {s : Shared} {fr : List Env} {L x dp nt sz lf du hl rl : Addr} {nS nH nr np n nl nd : Nat} {tt t : Tok} {m : Str → Option Value} {R : List (Addr × Obj)} {vS vH vr : List Value} {no o1 o2 o3 : Obj} {Ws : List Str} {z : Lex} {l : Int} {k : Nat} {tl ti : Tok} {v : Value} {ss : List Int} {total : Int} {rs : List (List Int)}
theorem law_16 {Q : Flow → Shared → Prop} {v3 : Option Value} (X : (hd.heap_1 w.params).In g) (T : Top p loose mean mg mb g) (F : Fr g L s.heap m) (Z : z.Ok) (hp1 : @Ne Nat z.pb z.aL) (hp2 : @Ne Nat z.pb z.dm)
    (f : Five z.pb x dp lf du R) (off3 : ∀ q ∈ R, @Ne Nat q.1 (L + 3)) (a3 : @Ne Nat z.pb (L + 3) ∧ @Ne Nat x (L + 3) ∧ @Ne Nat dp (L + 3) ∧ @Ne Nat lf (L + 3) ∧ @Ne Nat du (L + 3)) (c3 : o3.data = .cell v3)
    (N : News g L s.heap ((L + 3, o3) :: five w z.pb x dp lf du [] np [] n t v [] nl [] nd R))
    (h1 : (L + 1, o1) ∈ R) (c1 : o1.data = .cell (some (.ref z.mc))) (h2 : (L + 2, o2) ∈ R) (c2 : o2.data = .cell (some (.ref hl))) (hz : ∀ q ∈ z.objs w l (z.x.length : Nat) tl ti, q ∈ R) (hnt : (nt, no) ∈ R) (hsz : (sz, listOf vS.toArray nS) ∈ R) (hhl : (hl, listOf vH.toArray nH) ∈ R) (hrl : (rl, listOf vr.toArray nr) ∈ R)
    (off1 : @Ne Nat z.aL (L + 1) ∧ @Ne Nat z.dm (L + 1))
    (hN : IsNotes Challenge.rw_re0023_01.row.prog w no Ws) (iS : IntsAre vS ss) (lS : ss.length = 4) (hH : StrsAre vH Ws) (lW : Ws.length = 4) (hW : ∀ W ∈ Ws, WordOk Ws W) (made : Made R vr rs) (hr : ∀ r ∈ rs, RingOk Ws ss total r) (lrs : rs.length = 6)
    (hperm : (rs.flatMap fun r => turnsL 4 (wqOf Ws r)).Perm (rs.flatMap fun r => turnsD 4 0 r ss))
    (m0 : m "rings" = some (.ref rl)) (m1 : m "pile" = some (.ref x)) (m2 : m "notes" = some (.ref nt)) (m3 : m "total" = some (.int total tt)) (m4 : m "lefts" = some (.ref lf)) (m7 : m "sizes" = some (.ref sz)) (m8 : m "dues" = some (.ref du))
    (hq : ∀ h' tk' m', Fr g L h' m' → Q (.ret (.bool true)) { s with heap := h', toks := tk' }) :
    wpAny (model Challenge.rw_re0023_01.row.prog w) ((Ar 310 50 fr).deeper (lwEnv fA cD L)) (execs (lwB.drop 16) (lwEnv fA cD L)) Q (fun _ _ => False) s := by
  obtain ⟨p1, p2, p3, e⟩ := lwB16
  rw [e]
  refine wpAny_execs_cons (For_invVF F rfl rfl (nameX_L F m0 ?_ rfl rfl))
  have inN : ∀ q ∈ R, q ∈ ((L + 3, o3) :: five w z.pb x dp lf du [] np [] n t v [] nl [] nd R) := fun q hq => .tail _ (.tail _ (.tail _ (.tail _ (.tail _ (.tail _ hq)))))
  refine iter_listUnr (vs := vr) (n := nr) (news := ((L + 3, o3) :: five w z.pb x dp lf du [] np [] n t v [] nl [] nd R)) rfl F N (inN _ hrl) rfl rfl fun I hI => ?_
  have ltI := fun q hq => (Nat.ne_of_lt (hI q hq) : @Ne Nat q.1 I)
  have fI : @Ne Nat z.pb I ∧ @Ne Nat x I ∧ @Ne Nat dp I ∧ @Ne Nat lf I ∧ @Ne Nat du I := ⟨ltI _ (.tail _ (.head _)), ltI _ (.tail _ (.tail _ (.head _))), ltI _ (.tail _ (.tail _ (.tail _ (.head _)))), ltI _ (.tail _ (.tail _ (.tail _ (.tail _ (.head _))))), ltI _ (.tail _ (.tail _ (.tail _ (.tail _ (.tail _ (.head _))))))⟩
  refine rings_rest (fr := fr) (tt := tt) (lv := .int l tl) X T f off3 a3 fI (fun q hq => ltI q (inN q hq)) (Ne.symm (ltI _ (.head _))) hrl h1 c1 h2 c2 (hz _ (by simp)) (hz _ (by simp)) hnt hsz hhl hN iS lS hH lW hW rs vr [] [] [] np n nl nd t v m [] [] o3 v3 made hr c3 (by decide) (by rw [lrs]; decide) (by rw [lrs]; decide) .nil .nil m1 m2 m3 m4 m7 m8
    fun h tk m' o3' np' its' n' t' v' vl' nl' vd' nd' F' N' iL iD a4 a8 => ?_
  rw [List.nil_append] at iL iD
  have lL : (rs.flatMap fun r => turnsL 4 (wqOf Ws r)).length = 24 := by
    have : ∀ l : List (List Int), (l.flatMap fun r => turnsL 4 (wqOf Ws r)).length = 4 * l.length := by
      intro l
      induction l with
      | nil => rfl
      | cons a l ih => rw [List.flatMap_cons, List.length_append, turnsL_len, ih, List.length_cons]; omega
    rw [this, lrs]
  refine law_17 (s := { s with heap := h, toks := tk }) (l := l) (tl := tl) (ti := ti) (nb := np') (nl := nl') (nd := nd') X T F' Z hp1 hp2 (fun q hq => ?_) c1 iL iD hperm lL a4 a8 off1 fun h' tk' F2 => hq h' tk' m' F2
  refine N' q ?_
  rcases List.mem_cons.mp hq with rfl | hq
  · exact .tail _ (.tail _ (.tail _ (.tail _ (.head _))))
  · rcases List.mem_cons.mp hq with rfl | hq
    · exact .tail _ (.tail _ (.tail _ (.tail _ (.tail _ (.head _)))))
    · have inR : ∀ q ∈ R, q ∈ ((L + 3, o3') :: five w z.pb x dp lf du [] np' its' n' t' v' vl' nl' vd' nd' R) := fun q hq => .tail _ (.tail _ (.tail _ (.tail _ (.tail _ (.tail _ hq)))))
      rcases List.mem_cons.mp hq with rfl | hq
      · exact inR _ h1
      · rcases List.mem_cons.mp hq with rfl | hq
        · exact .tail _ (.head _)
        · exact inR _ (hz _ hq)
end
end Mine
end

section
open PySem PySem.W PyProof.Rows
theorem Mine.freshM3 : True ∧ True := by
  w_top off
  first
  | (walk1; fail)
  | exact ⟨True.intro, True.intro⟩
end

section -- M3
open PySem PySem.W PyProof.Rows
set_option maxRecDepth 100000
set_option maxHeartbeats 4000000
set_option linter.unusedVariables false
namespace Mine
noncomputable def wordFacts2 (n : Int) : Bool := PyData.strOk (wordS n) && decide (noteLen (wordS n) ≤ 5) && decide ((noteOf (wordS n)).length < 100) && (if sizeS n < 0 then (!(noteOf (wordS n) == "#")) && decide ((noteLen (wordS n) : Int) = -(sizeS n)) else (noteOf (wordS n) == "#") && decide (((wordS n).length : Int) = sizeS n))
noncomputable def allFacts2 : Nat → Bool
  | 0 => true
  | k + 1 => wordFacts2 (k : Int) && allFacts2 k
theorem allFacts2_168 : allFacts2 168 = true := by decide +kernel
theorem facts2_of : ∀ {N k : Nat}, allFacts2 N = true → k < N → wordFacts2 (k : Int) = true
  | N + 1, k, h, hk => by
    simp only [allFacts2, Bool.and_eq_true] at h
    rcases Nat.lt_succ_iff_lt_or_eq.mp hk with hk | rfl
    · exact facts2_of h.2 hk
    · exact h.1
theorem word_facts2 {n : Int} (h0 : 0 ≤ n) (h1 : n < 168) : wordFacts2 n = true := by
  obtain ⟨k, rfl⟩ := Int.eq_ofNat_of_zero_le h0
  exact facts2_of allFacts2_168 (by omega)
theorem word_ok {n : Int} {Ws : List Str} (h0 : 0 ≤ n) (h1 : n < 168) (hm : wordS n ∈ Ws) : WordOk Ws (wordS n) := by
  have f := word_facts2 h0 h1
  simp only [wordFacts2, Bool.and_eq_true, decide_eq_true_eq] at f
  exact ⟨hm, f.1.1.1, word_len h0 h1, f.1.1.2, f.1.2⟩
theorem size_lo (n : Int) : -3 ≤ sizeS n := by have := fmod_lo n (n := 7) (by decide); unfold sizeS; omega
theorem size_hi (n : Int) : sizeS n ≤ 3 := by have := fmod_hi n (n := 7) (by decide); unfold sizeS; omega
/-- a word's step: Lindley's queue -/
theorem step_num {n : Int} (h0 : 0 ≤ n) (h1 : n < 168) (l mi : Nat) : stepLen (wordS n) l = (l + (sizeS n + 3).toNat) - 3 ∧ (stepLen (wordS n) l : Int) - (stepMiss (wordS n) l mi : Int) = (l : Int) - mi + sizeS n := by
  have f := word_facts2 h0 h1
  have s1 := size_lo n
  have s2 := size_hi n
  simp only [wordFacts2, Bool.and_eq_true] at f
  have f2 := f.2
  unfold stepLen stepMiss
  split at f2
  · simp only [Bool.and_eq_true, Bool.not_eq_true', decide_eq_true_eq] at f2
    rw [f2.1]
    simp only [Bool.false_eq_true, if_false]
    omega
  · simp only [Bool.and_eq_true, decide_eq_true_eq] at f2
    rw [if_pos f2.1, if_pos f2.1]
    omega
end Mine
end

section
open PySem PySem.W PyProof.Rows
theorem Mine.freshM4 : True ∧ True := by
  w_top off
  first
  | (walk1; fail)
  | exact ⟨True.intro, True.intro⟩
end

section -- M4
open PySem PySem.W PyProof.Rows
set_option maxRecDepth 100000
set_option maxHeartbeats 4000000
set_option linter.unusedVariables false
namespace Mine
noncomputable abbrev szN (n : Int) : Nat := (sizeS n + 3).toNat
noncomputable def leftN (len : Nat) (l : List Int) : Nat := l.foldl (fun l n => (l + szN n) - 3) len
theorem runSteps_num : ∀ (l : List Int) (len mi : Nat), (∀ n ∈ l, 0 ≤ n ∧ n < 168) → (runSteps (l.map wordS) len mi).1 = leftN len l ∧ ((runSteps (l.map wordS) len mi).1 : Int) - ((runSteps (l.map wordS) len mi).2 : Int) = (len : Int) - mi + (l.map sizeS).sum ∧ (runSteps (l.map wordS) len mi).1 ≤ len + 3 * l.length
  | [], len, mi, _ => by simp [runSteps, leftN]
  | n :: l, len, mi, h => by
    obtain ⟨n0, n1⟩ := h n (.head _)
    obtain ⟨e1, e2⟩ := step_num n0 n1 len mi
    obtain ⟨f1, f2, f3⟩ := runSteps_num l (stepLen (wordS n) len) (stepMiss (wordS n) len mi) fun k hk => h k (.tail _ hk)
    have s2 := size_hi n
    simp only [List.map_cons, runSteps, List.sum_cons, List.length_cons]
    refine ⟨?_, ?_, ?_⟩
    · rw [f1, e1]; rfl
    · rw [f2]; omega
    · rw [e1] at f3 ⊢; omega
theorem sum_bound : ∀ (l : List Int), -(3 * (l.length : Int)) ≤ (l.map sizeS).sum
  | [] => by simp
  | n :: l => by
    have := sum_bound l
    have s1 := size_lo n
    simp only [List.map_cons, List.sum_cons, List.length_cons]
    omega
theorem rotS_map {α β : Type} (f : α → β) (l : List α) : rotS (l.map f) = (rotS l).map f := by
  cases l with
  | nil => rfl
  | cons a r => simp [rotS]
theorem rotS_mem {α : Type} {l : List α} {a : α} : a ∈ rotS l → a ∈ l := by
  cases l with
  | nil => exact id
  | cons b r =>
    intro h
    rcases List.mem_append.mp h with h | h
    · exact .tail _ h
    · rw [List.mem_singleton.mp h]; exact .head _
theorem rotS_len {α : Type} (l : List α) : (rotS l).length = l.length := by
  cases l with
  | nil => rfl
  | cons b r => simp [rotS]
theorem rotS_sum (l : List Int) : ((rotS l).map sizeS).sum = (l.map sizeS).sum := by
  cases l with
  | nil => rfl
  | cons b r => simp only [rotS, List.map_append, List.map_cons, List.map_nil, List.sum_append, List.sum_cons, List.sum_nil]; omega
noncomputable def turnsN : Nat → List Int → List Nat
  | 0, _ => []
  | j + 1, l => leftN 0 l :: turnsN j (rotS l)
theorem turns_num : ∀ (j : Nat) (l : List Int) (total : Int), (∀ n ∈ l, 0 ≤ n ∧ n < 168) → l.length = 4 → (l.map sizeS).sum = total → turnsOk j (l.map wordS) total ∧ turnsL j (l.map wordS) = (turnsN j l).map Int.ofNat
  | 0, _, _, _, _, _ => ⟨trivial, rfl⟩
  | j + 1, l, total, h, h4, ht => by
    obtain ⟨e1, e2, e3⟩ := runSteps_num l 0 0 h
    have b := sum_bound l
    obtain ⟨i1, i2⟩ := turns_num j (rotS l) total (fun n hn => h n (rotS_mem hn)) ((rotS_len l).trans h4) ((rotS_sum l).trans ht)
    refine ⟨⟨by rw [e2, ht]; simp, by omega, by omega, by rw [rotS_map]; exact i1⟩, ?_⟩
    simp only [turnsL, turnsN, List.map_cons, e1, rotS_map, i2]
    rfl
end Mine
end

section
open PySem PySem.W PyProof.Rows
theorem Mine.freshM5 : True ∧ True := by
  w_top off
  first
  | (walk1; fail)
  | exact ⟨True.intro, True.intro⟩
end

section -- M5
open PySem PySem.W PyProof.Rows
set_option maxRecDepth 100000
set_option maxHeartbeats 4000000
set_option linter.unusedVariables false
namespace Mine
theorem pos0_cast {x : Int} (k m : Nat) (h : x = (k : Int) - (m : Int)) : pos0 x = ((k - m : Nat) : Int) := by
  unfold pos0
  split <;> omega
section
variable {a b c d : Int} {A B C D : Nat}
theorem way0 (hA : a = (A : Int) - 3) (hB : b = (B : Int) - 3) (hC : c = (C : Int) - 3) (hD : d = (D : Int) - 3) : wsSteps [0, 1, 2, 3] [0, 3, 2, 1] [a, b, c, d] [] 0 = Int.ofNat (Nat.add (Nat.add (Nat.sub A 3) (Nat.sub (Nat.add B D) 6)) (Nat.sub C 3)) := by
  have e : wsSteps [0, 1, 2, 3] [0, 3, 2, 1] [a, b, c, d] [] 0 = pos0 a + pos0 (b + d) + pos0 c := by simp [wsSteps, wsRun, pos0]
  rw [e, pos0_cast (A) 3 (by omega), pos0_cast (B + D) 6 (by omega), pos0_cast (C) 3 (by omega)]
  rfl
theorem way1 (hA : a = (A : Int) - 3) (hB : b = (B : Int) - 3) (hC : c = (C : Int) - 3) (hD : d = (D : Int) - 3) : wsSteps [0, 1, 2, 3] [3, 2, 1, 0] [a, b, c, d] [] 0 = Int.ofNat (Nat.add (Nat.sub (Nat.add A D) 6) (Nat.sub (Nat.add B C) 6)) := by
  have e : wsSteps [0, 1, 2, 3] [3, 2, 1, 0] [a, b, c, d] [] 0 = pos0 (a + d) + pos0 (b + c) := by simp [wsSteps, wsRun, pos0]
  rw [e, pos0_cast (A + D) 6 (by omega), pos0_cast (B + C) 6 (by omega)]
  rfl
theorem way2 (hA : a = (A : Int) - 3) (hB : b = (B : Int) - 3) (hC : c = (C : Int) - 3) (hD : d = (D : Int) - 3) : wsSteps [0, 1, 2, 3] [2, 1, 0, 3] [a, b, c, d] [] 0 = Int.ofNat (Nat.add (Nat.add (Nat.sub (Nat.add A C) 6) (Nat.sub B 3)) (Nat.sub D 3)) := by
  have e : wsSteps [0, 1, 2, 3] [2, 1, 0, 3] [a, b, c, d] [] 0 = pos0 (a + c) + pos0 b + pos0 d := by simp [wsSteps, wsRun, pos0]
  rw [e, pos0_cast (A + C) 6 (by omega), pos0_cast (B) 3 (by omega), pos0_cast (D) 3 (by omega)]
  rfl
theorem way3 (hA : a = (A : Int) - 3) (hB : b = (B : Int) - 3) (hC : c = (C : Int) - 3) (hD : d = (D : Int) - 3) : wsSteps [0, 1, 2, 3] [1, 0, 3, 2] [a, b, c, d] [] 0 = Int.ofNat (Nat.add (Nat.sub (Nat.add A B) 6) (Nat.sub (Nat.add C D) 6)) := by
  have e : wsSteps [0, 1, 2, 3] [1, 0, 3, 2] [a, b, c, d] [] 0 = pos0 (a + b) + pos0 (c + d) := by simp [wsSteps, wsRun, pos0]
  rw [e, pos0_cast (A + B) 6 (by omega), pos0_cast (C + D) 6 (by omega)]
  rfl
theorem way4 (hA : a = (A : Int) - 3) (hB : b = (B : Int) - 3) (hC : c = (C : Int) - 3) (hD : d = (D : Int) - 3) : wsSteps [0, 1, 2, 3] [0, 2, 3, 1] [a, b, c, d] [] 0 = Int.ofNat (Nat.add (Nat.sub A 3) (Nat.sub (Nat.add (Nat.add B C) D) 9)) := by
  have e : wsSteps [0, 1, 2, 3] [0, 2, 3, 1] [a, b, c, d] [] 0 = pos0 a + pos0 (b + c + d) := by simp [wsSteps, wsRun, pos0]
  rw [e, pos0_cast (A) 3 (by omega), pos0_cast (B + C + D) 9 (by omega)]
  rfl
theorem way5 (hA : a = (A : Int) - 3) (hB : b = (B : Int) - 3) (hC : c = (C : Int) - 3) (hD : d = (D : Int) - 3) : wsSteps [0, 1, 2, 3] [2, 3, 1, 0] [a, b, c, d] [] 0 = Int.ofNat (Nat.sub (Nat.add (Nat.add (Nat.add A C) B) D) 12) := by
  have e : wsSteps [0, 1, 2, 3] [2, 3, 1, 0] [a, b, c, d] [] 0 = pos0 (a + c + b + d) := by simp [wsSteps, wsRun, pos0]
  rw [e, pos0_cast (A + C + B + D) 12 (by omega)]
  rfl
theorem way6 (hA : a = (A : Int) - 3) (hB : b = (B : Int) - 3) (hC : c = (C : Int) - 3) (hD : d = (D : Int) - 3) : wsSteps [0, 1, 2, 3] [3, 1, 0, 2] [a, b, c, d] [] 0 = Int.ofNat (Nat.add (Nat.sub (Nat.add (Nat.add A D) C) 9) (Nat.sub B 3)) := by
  have e : wsSteps [0, 1, 2, 3] [3, 1, 0, 2] [a, b, c, d] [] 0 = pos0 (a + d + c) + pos0 b := by simp [wsSteps, wsRun, pos0]
  rw [e, pos0_cast (A + D + C) 9 (by omega), pos0_cast (B) 3 (by omega)]
  rfl
theorem way7 (hA : a = (A : Int) - 3) (hB : b = (B : Int) - 3) (hC : c = (C : Int) - 3) (hD : d = (D : Int) - 3) : wsSteps [0, 1, 2, 3] [1, 0, 2, 3] [a, b, c, d] [] 0 = Int.ofNat (Nat.add (Nat.add (Nat.sub (Nat.add A B) 6) (Nat.sub C 3)) (Nat.sub D 3)) := by
  have e : wsSteps [0, 1, 2, 3] [1, 0, 2, 3] [a, b, c, d] [] 0 = pos0 (a + b) + pos0 c + pos0 d := by simp [wsSteps, wsRun, pos0]
  rw [e, pos0_cast (A + B) 6 (by omega), pos0_cast (C) 3 (by omega), pos0_cast (D) 3 (by omega)]
  rfl
theorem way8 (hA : a = (A : Int) - 3) (hB : b = (B : Int) - 3) (hC : c = (C : Int) - 3) (hD : d = (D : Int) - 3) : wsSteps [0, 1, 2, 3] [0, 2, 1, 3] [a, b, c, d] [] 0 = Int.ofNat (Nat.add (Nat.add (Nat.sub A 3) (Nat.sub (Nat.add B C) 6)) (Nat.sub D 3)) := by
  have e : wsSteps [0, 1, 2, 3] [0, 2, 1, 3] [a, b, c, d] [] 0 = pos0 a + pos0 (b + c) + pos0 d := by simp [wsSteps, wsRun, pos0]
  rw [e, pos0_cast (A) 3 (by omega), pos0_cast (B + C) 6 (by omega), pos0_cast (D) 3 (by omega)]
  rfl
theorem way9 (hA : a = (A : Int) - 3) (hB : b = (B : Int) - 3) (hC : c = (C : Int) - 3) (hD : d = (D : Int) - 3) : wsSteps [0, 1, 2, 3] [2, 1, 3, 0] [a, b, c, d] [] 0 = Int.ofNat (Nat.add (Nat.sub (Nat.add (Nat.add A C) D) 9) (Nat.sub B 3)) := by
  have e : wsSteps [0, 1, 2, 3] [2, 1, 3, 0] [a, b, c, d] [] 0 = pos0 (a + c + d) + pos0 b := by simp [wsSteps, wsRun, pos0]
  rw [e, pos0_cast (A + C + D) 9 (by omega), pos0_cast (B) 3 (by omega)]
  rfl
theorem way10 (hA : a = (A : Int) - 3) (hB : b = (B : Int) - 3) (hC : c = (C : Int) - 3) (hD : d = (D : Int) - 3) : wsSteps [0, 1, 2, 3] [1, 3, 0, 2] [a, b, c, d] [] 0 = Int.ofNat (Nat.sub (Nat.add (Nat.add (Nat.add A B) D) C) 12) := by
  have e : wsSteps [0, 1, 2, 3] [1, 3, 0, 2] [a, b, c, d] [] 0 = pos0 (a + b + d + c) := by simp [wsSteps, wsRun, pos0]
  rw [e, pos0_cast (A + B + D + C) 12 (by omega)]
  rfl
theorem way11 (hA : a = (A : Int) - 3) (hB : b = (B : Int) - 3) (hC : c = (C : Int) - 3) (hD : d = (D : Int) - 3) : wsSteps [0, 1, 2, 3] [3, 0, 2, 1] [a, b, c, d] [] 0 = Int.ofNat (Nat.add (Nat.sub (Nat.add (Nat.add A D) B) 9) (Nat.sub C 3)) := by
  have e : wsSteps [0, 1, 2, 3] [3, 0, 2, 1] [a, b, c, d] [] 0 = pos0 (a + d + b) + pos0 c := by simp [wsSteps, wsRun, pos0]
  rw [e, pos0_cast (A + D + B) 9 (by omega), pos0_cast (C) 3 (by omega)]
  rfl
theorem way12 (hA : a = (A : Int) - 3) (hB : b = (B : Int) - 3) (hC : c = (C : Int) - 3) (hD : d = (D : Int) - 3) : wsSteps [0, 1, 2, 3] [0, 3, 1, 2] [a, b, c, d] [] 0 = Int.ofNat (Nat.add (Nat.sub A 3) (Nat.sub (Nat.add (Nat.add B D) C) 9)) := by
  have e : wsSteps [0, 1, 2, 3] [0, 3, 1, 2] [a, b, c, d] [] 0 = pos0 a + pos0 (b + d + c) := by simp [wsSteps, wsRun, pos0]
  rw [e, pos0_cast (A) 3 (by omega), pos0_cast (B + D + C) 9 (by omega)]
  rfl
theorem way13 (hA : a = (A : Int) - 3) (hB : b = (B : Int) - 3) (hC : c = (C : Int) - 3) (hD : d = (D : Int) - 3) : wsSteps [0, 1, 2, 3] [3, 1, 2, 0] [a, b, c, d] [] 0 = Int.ofNat (Nat.add (Nat.add (Nat.sub (Nat.add A D) 6) (Nat.sub B 3)) (Nat.sub C 3)) := by
  have e : wsSteps [0, 1, 2, 3] [3, 1, 2, 0] [a, b, c, d] [] 0 = pos0 (a + d) + pos0 b + pos0 c := by simp [wsSteps, wsRun, pos0]
  rw [e, pos0_cast (A + D) 6 (by omega), pos0_cast (B) 3 (by omega), pos0_cast (C) 3 (by omega)]
  rfl
theorem way14 (hA : a = (A : Int) - 3) (hB : b = (B : Int) - 3) (hC : c = (C : Int) - 3) (hD : d = (D : Int) - 3) : wsSteps [0, 1, 2, 3] [1, 2, 0, 3] [a, b, c, d] [] 0 = Int.ofNat (Nat.add (Nat.sub (Nat.add (Nat.add A B) C) 9) (Nat.sub D 3)) := by
  have e : wsSteps [0, 1, 2, 3] [1, 2, 0, 3] [a, b, c, d] [] 0 = pos0 (a + b + c) + pos0 d := by simp [wsSteps, wsRun, pos0]
  rw [e, pos0_cast (A + B + C) 9 (by omega), pos0_cast (D) 3 (by omega)]
  rfl
theorem way15 (hA : a = (A : Int) - 3) (hB : b = (B : Int) - 3) (hC : c = (C : Int) - 3) (hD : d = (D : Int) - 3) : wsSteps [0, 1, 2, 3] [2, 0, 3, 1] [a, b, c, d] [] 0 = Int.ofNat (Nat.sub (Nat.add (Nat.add (Nat.add A C) D) B) 12) := by
  have e : wsSteps [0, 1, 2, 3] [2, 0, 3, 1] [a, b, c, d] [] 0 = pos0 (a + c + d + b) := by simp [wsSteps, wsRun, pos0]
  rw [e, pos0_cast (A + C + D + B) 12 (by omega)]
  rfl
theorem way16 (hA : a = (A : Int) - 3) (hB : b = (B : Int) - 3) (hC : c = (C : Int) - 3) (hD : d = (D : Int) - 3) : wsSteps [0, 1, 2, 3] [0, 1, 3, 2] [a, b, c, d] [] 0 = Int.ofNat (Nat.add (Nat.add (Nat.sub A 3) (Nat.sub B 3)) (Nat.sub (Nat.add C D) 6)) := by
  have e : wsSteps [0, 1, 2, 3] [0, 1, 3, 2] [a, b, c, d] [] 0 = pos0 a + pos0 b + pos0 (c + d) := by simp [wsSteps, wsRun, pos0]
  rw [e, pos0_cast (A) 3 (by omega), pos0_cast (B) 3 (by omega), pos0_cast (C + D) 6 (by omega)]
  rfl
theorem way17 (hA : a = (A : Int) - 3) (hB : b = (B : Int) - 3) (hC : c = (C : Int) - 3) (hD : d = (D : Int) - 3) : wsSteps [0, 1, 2, 3] [1, 3, 2, 0] [a, b, c, d] [] 0 = Int.ofNat (Nat.add (Nat.sub (Nat.add (Nat.add A B) D) 9) (Nat.sub C 3)) := by
  have e : wsSteps [0, 1, 2, 3] [1, 3, 2, 0] [a, b, c, d] [] 0 = pos0 (a + b + d) + pos0 c := by simp [wsSteps, wsRun, pos0]
  rw [e, pos0_cast (A + B + D) 9 (by omega), pos0_cast (C) 3 (by omega)]
  rfl
theorem way18 (hA : a = (A : Int) - 3) (hB : b = (B : Int) - 3) (hC : c = (C : Int) - 3) (hD : d = (D : Int) - 3) : wsSteps [0, 1, 2, 3] [3, 2, 0, 1] [a, b, c, d] [] 0 = Int.ofNat (Nat.sub (Nat.add (Nat.add (Nat.add A D) B) C) 12) := by
  have e : wsSteps [0, 1, 2, 3] [3, 2, 0, 1] [a, b, c, d] [] 0 = pos0 (a + d + b + c) := by simp [wsSteps, wsRun, pos0]
  rw [e, pos0_cast (A + D + B + C) 12 (by omega)]
  rfl
theorem way19 (hA : a = (A : Int) - 3) (hB : b = (B : Int) - 3) (hC : c = (C : Int) - 3) (hD : d = (D : Int) - 3) : wsSteps [0, 1, 2, 3] [2, 0, 1, 3] [a, b, c, d] [] 0 = Int.ofNat (Nat.add (Nat.sub (Nat.add (Nat.add A C) B) 9) (Nat.sub D 3)) := by
  have e : wsSteps [0, 1, 2, 3] [2, 0, 1, 3] [a, b, c, d] [] 0 = pos0 (a + c + b) + pos0 d := by simp [wsSteps, wsRun, pos0]
  rw [e, pos0_cast (A + C + B) 9 (by omega), pos0_cast (D) 3 (by omega)]
  rfl
theorem way20 (hA : a = (A : Int) - 3) (hB : b = (B : Int) - 3) (hC : c = (C : Int) - 3) (hD : d = (D : Int) - 3) : wsSteps [0, 1, 2, 3] [0, 1, 2, 3] [a, b, c, d] [] 0 = Int.ofNat (Nat.add (Nat.add (Nat.add (Nat.sub A 3) (Nat.sub B 3)) (Nat.sub C 3)) (Nat.sub D 3)) := by
  have e : wsSteps [0, 1, 2, 3] [0, 1, 2, 3] [a, b, c, d] [] 0 = pos0 a + pos0 b + pos0 c + pos0 d := by simp [wsSteps, wsRun, pos0]
  rw [e, pos0_cast (A) 3 (by omega), pos0_cast (B) 3 (by omega), pos0_cast (C) 3 (by omega), pos0_cast (D) 3 (by omega)]
  rfl
theorem way21 (hA : a = (A : Int) - 3) (hB : b = (B : Int) - 3) (hC : c = (C : Int) - 3) (hD : d = (D : Int) - 3) : wsSteps [0, 1, 2, 3] [1, 2, 3, 0] [a, b, c, d] [] 0 = Int.ofNat (Nat.sub (Nat.add (Nat.add (Nat.add A B) C) D) 12) := by
  have e : wsSteps [0, 1, 2, 3] [1, 2, 3, 0] [a, b, c, d] [] 0 = pos0 (a + b + c + d) := by simp [wsSteps, wsRun, pos0]
  rw [e, pos0_cast (A + B + C + D) 12 (by omega)]
  rfl
theorem way22 (hA : a = (A : Int) - 3) (hB : b = (B : Int) - 3) (hC : c = (C : Int) - 3) (hD : d = (D : Int) - 3) : wsSteps [0, 1, 2, 3] [2, 3, 0, 1] [a, b, c, d] [] 0 = Int.ofNat (Nat.add (Nat.sub (Nat.add A C) 6) (Nat.sub (Nat.add B D) 6)) := by
  have e : wsSteps [0, 1, 2, 3] [2, 3, 0, 1] [a, b, c, d] [] 0 = pos0 (a + c) + pos0 (b + d) := by simp [wsSteps, wsRun, pos0]
  rw [e, pos0_cast (A + C) 6 (by omega), pos0_cast (B + D) 6 (by omega)]
  rfl
theorem way23 (hA : a = (A : Int) - 3) (hB : b = (B : Int) - 3) (hC : c = (C : Int) - 3) (hD : d = (D : Int) - 3) : wsSteps [0, 1, 2, 3] [3, 0, 1, 2] [a, b, c, d] [] 0 = Int.ofNat (Nat.sub (Nat.add (Nat.add (Nat.add A D) C) B) 12) := by
  have e : wsSteps [0, 1, 2, 3] [3, 0, 1, 2] [a, b, c, d] [] 0 = pos0 (a + d + c + b) := by simp [wsSteps, wsRun, pos0]
  rw [e, pos0_cast (A + D + C + B) 12 (by omega)]
  rfl
theorem dues_eq (hA : a = (A : Int) - 3) (hB : b = (B : Int) - 3) (hC : c = (C : Int) - 3) (hD : d = (D : Int) - 3) : ((ringsAt 3).flatMap fun r => turnsD 4 0 r [a, b, c, d]) = (duesN A B C D).map Int.ofNat := by
  rw [ringsAt3]
  show [wsSteps [0, 1, 2, 3] [0, 3, 2, 1] [a, b, c, d] [] 0, wsSteps [0, 1, 2, 3] [3, 2, 1, 0] [a, b, c, d] [] 0, wsSteps [0, 1, 2, 3] [2, 1, 0, 3] [a, b, c, d] [] 0, wsSteps [0, 1, 2, 3] [1, 0, 3, 2] [a, b, c, d] [] 0, wsSteps [0, 1, 2, 3] [0, 2, 3, 1] [a, b, c, d] [] 0, wsSteps [0, 1, 2, 3] [2, 3, 1, 0] [a, b, c, d] [] 0, wsSteps [0, 1, 2, 3] [3, 1, 0, 2] [a, b, c, d] [] 0, wsSteps [0, 1, 2, 3] [1, 0, 2, 3] [a, b, c, d] [] 0, wsSteps [0, 1, 2, 3] [0, 2, 1, 3] [a, b, c, d] [] 0, wsSteps [0, 1, 2, 3] [2, 1, 3, 0] [a, b, c, d] [] 0, wsSteps [0, 1, 2, 3] [1, 3, 0, 2] [a, b, c, d] [] 0, wsSteps [0, 1, 2, 3] [3, 0, 2, 1] [a, b, c, d] [] 0, wsSteps [0, 1, 2, 3] [0, 3, 1, 2] [a, b, c, d] [] 0, wsSteps [0, 1, 2, 3] [3, 1, 2, 0] [a, b, c, d] [] 0, wsSteps [0, 1, 2, 3] [1, 2, 0, 3] [a, b, c, d] [] 0, wsSteps [0, 1, 2, 3] [2, 0, 3, 1] [a, b, c, d] [] 0, wsSteps [0, 1, 2, 3] [0, 1, 3, 2] [a, b, c, d] [] 0, wsSteps [0, 1, 2, 3] [1, 3, 2, 0] [a, b, c, d] [] 0, wsSteps [0, 1, 2, 3] [3, 2, 0, 1] [a, b, c, d] [] 0, wsSteps [0, 1, 2, 3] [2, 0, 1, 3] [a, b, c, d] [] 0, wsSteps [0, 1, 2, 3] [0, 1, 2, 3] [a, b, c, d] [] 0, wsSteps [0, 1, 2, 3] [1, 2, 3, 0] [a, b, c, d] [] 0, wsSteps [0, 1, 2, 3] [2, 3, 0, 1] [a, b, c, d] [] 0, wsSteps [0, 1, 2, 3] [3, 0, 1, 2] [a, b, c, d] [] 0] = _
  rw [way0 hA hB hC hD, way1 hA hB hC hD, way2 hA hB hC hD, way3 hA hB hC hD, way4 hA hB hC hD, way5 hA hB hC hD, way6 hA hB hC hD, way7 hA hB hC hD, way8 hA hB hC hD, way9 hA hB hC hD, way10 hA hB hC hD, way11 hA hB hC hD, way12 hA hB hC hD, way13 hA hB hC hD, way14 hA hB hC hD, way15 hA hB hC hD, way16 hA hB hC hD, way17 hA hB hC hD, way18 hA hB hC hD, way19 hA hB hC hD, way20 hA hB hC hD, way21 hA hB hC hD, way22 hA hB hC hD, way23 hA hB hC hD]
  rfl
end
end Mine
end

section
open PySem PySem.W PyProof.Rows
theorem Mine.freshM6 : True ∧ True := by
  w_top off
  first
  | (walk1; fail)
  | exact ⟨True.intro, True.intro⟩
end

section -- M6
open PySem PySem.W PyProof.Rows
set_option maxRecDepth 100000
set_option maxHeartbeats 4000000
set_option linter.unusedVariables false
namespace Mine
theorem ok_at {a : Nat} (h : a ≤ 6) : okAt a = true := by
  match a, h with
  | 0, _ => exact ok0
  | 1, _ => exact ok1
  | 2, _ => exact ok2
  | 3, _ => exact ok3
  | 4, _ => exact ok4
  | 5, _ => exact ok5
  | 6, _ => exact ok6
theorem mem_n7 {a : Nat} (h : a ≤ 6) : a ∈ n7 := by
  match a, h with
  | 0, _ => decide
  | 1, _ => decide
  | 2, _ => decide
  | 3, _ => decide
  | 4, _ => decide
  | 5, _ => decide
  | 6, _ => decide
/-- Spitzer's lemma for four rises from -3 to 3 -/
theorem spitzer {a b c d : Nat} (ha : a ≤ 6) (hb : b ≤ 6) (hc : c ≤ 6) (hd : d ≤ 6) : (leftsN a b c d).Perm (duesN a b c d) := by
  have h := ok_at ha
  unfold okAt at h
  have h1 := List.all_eq_true.mp (List.all_eq_true.mp (List.all_eq_true.mp h b (mem_n7 hb)) c (mem_n7 hc)) d (mem_n7 hd)
  refine enc_perm ?_ ?_ ?_
  · show 24 < 32; decide
  · show 24 < 32; decide
  · rw [encL_eq, encD_eq]; exact Nat.eq_of_beq_eq_true h1
section
variable {n0 n1 n2 n3 : Int}
theorem szN_cast (n : Int) : sizeS n = (szN n : Int) - 3 := by have := size_lo n; unfold szN; omega
theorem szN_le (n : Int) : szN n ≤ 6 := by have := size_hi n; unfold szN; omega
theorem rings_math (h : ∀ n ∈ [n0, n1, n2, n3], 0 ≤ n ∧ n < 168) :
    (∀ r ∈ ringsAt 3, RingOk ([n0, n1, n2, n3].map wordS) ([n0, n1, n2, n3].map sizeS) ([n0, n1, n2, n3].map sizeS).sum r) ∧
    ((ringsAt 3).flatMap fun r => turnsL 4 (wqOf ([n0, n1, n2, n3].map wordS) r)).Perm ((ringsAt 3).flatMap fun r => turnsD 4 0 r ([n0, n1, n2, n3].map sizeS)) := by
  have h0 := h n0 (by simp)
  have h1 := h n1 (by simp)
  have h2 := h n2 (by simp)
  have h3 := h n3 (by simp)
  have one : ∀ {a b c d : Int}, (0 ≤ a ∧ a < 168) → (0 ≤ b ∧ b < 168) → (0 ≤ c ∧ c < 168) → (0 ≤ d ∧ d < 168) → a + (b + (c + d)) = n0 + (n1 + (n2 + n3)) ∨ True → ∀ n ∈ [a, b, c, d], 0 ≤ n ∧ n < 168 := by
    intro a b c d ha hb hc hd _ n hn
    simp only [List.mem_cons, List.not_mem_nil, or_false] at hn
    rcases hn with rfl | rfl | rfl | rfl <;> assumption
  have sm : ∀ {a b c d : Int}, sizeS a + (sizeS b + (sizeS c + (sizeS d + 0))) = sizeS n0 + (sizeS n1 + (sizeS n2 + (sizeS n3 + 0))) → ([a, b, c, d].map sizeS).sum = ([n0, n1, n2, n3].map sizeS).sum := fun e => e
  have t1 := turns_num 4 [n0, n3, n2, n1] _ (one h0 h3 h2 h1 (.inr trivial)) rfl (sm (by omega))
  have t2 := turns_num 4 [n0, n2, n3, n1] _ (one h0 h2 h3 h1 (.inr trivial)) rfl (sm (by omega))
  have t3 := turns_num 4 [n0, n2, n1, n3] _ (one h0 h2 h1 h3 (.inr trivial)) rfl (sm (by omega))
  have t4 := turns_num 4 [n0, n3, n1, n2] _ (one h0 h3 h1 h2 (.inr trivial)) rfl (sm (by omega))
  have t5 := turns_num 4 [n0, n1, n3, n2] _ (one h0 h1 h3 h2 (.inr trivial)) rfl (sm (by omega))
  have t6 := turns_num 4 [n0, n1, n2, n3] _ (one h0 h1 h2 h3 (.inr trivial)) rfl (sm (by omega))
  constructor
  · intro r hr
    rw [ringsAt3] at hr
    simp only [List.mem_cons, List.not_mem_nil, or_false] at hr
    rcases hr with rfl | rfl | rfl | rfl | rfl | rfl
    · exact ⟨rfl, by decide, rfl, t1.1, rfl, rfl, rfl, rfl, trivial⟩
    · exact ⟨rfl, by decide, rfl, t2.1, rfl, rfl, rfl, rfl, trivial⟩
    · exact ⟨rfl, by decide, rfl, t3.1, rfl, rfl, rfl, rfl, trivial⟩
    · exact ⟨rfl, by decide, rfl, t4.1, rfl, rfl, rfl, rfl, trivial⟩
    · exact ⟨rfl, by decide, rfl, t5.1, rfl, rfl, rfl, rfl, trivial⟩
    · exact ⟨rfl, by decide, rfl, t6.1, rfl, rfl, rfl, rfl, trivial⟩
  · have eL : ((ringsAt 3).flatMap fun r => turnsL 4 (wqOf ([n0, n1, n2, n3].map wordS) r)) = (leftsN (szN n0) (szN n1) (szN n2) (szN n3)).map Int.ofNat := by
      rw [ringsAt3]
      show turnsL 4 ([n0, n3, n2, n1].map wordS) ++ (turnsL 4 ([n0, n2, n3, n1].map wordS) ++ (turnsL 4 ([n0, n2, n1, n3].map wordS) ++ (turnsL 4 ([n0, n3, n1, n2].map wordS) ++ (turnsL 4 ([n0, n1, n3, n2].map wordS) ++ (turnsL 4 ([n0, n1, n2, n3].map wordS) ++ []))))) = _
      rw [t1.2, t2.2, t3.2, t4.2, t5.2, t6.2]
      rfl
    have eD := dues_eq (szN_cast n0) (szN_cast n1) (szN_cast n2) (szN_cast n3)
    rw [eL]
    exact ((spitzer (szN_le n0) (szN_le n1) (szN_le n2) (szN_le n3)).map Int.ofNat).trans (List.Perm.of_eq eD.symm)
end
end Mine
end

section
open PySem PySem.W PyProof.Rows
theorem Mine.freshMG : True ∧ True := by
  w_top off
  first
  | (walk1; fail)
  | exact ⟨True.intro, True.intro⟩
end

section -- MG
open PySem PySem.W PyProof.Rows
set_option maxRecDepth 100000
set_option maxHeartbeats 2000000
set_option linter.unusedVariables false
namespace Mine
theorem Made.filter2 {news news' : List (Addr × Obj)} (k : ∀ a ws n r, r ≠ [] → IntsAre ws r → (a, listOf ws.toArray n) ∈ news → (a, listOf ws.toArray n) ∈ news') : ∀ {ys rs}, (∀ r ∈ rs, r ≠ []) → Made news ys rs → Made news' ys rs
  | _, _, _, .nil => .nil
  | _, _, hne, .cons h i r => .cons (k _ _ _ _ (hne _ (.head _)) i h) i (r.filter2 k fun r hr => hne r (.tail _ hr))
theorem news_data {g h : Heap} {L a b : Addr} {o o' : Obj} {news : List (Addr × Obj)} (N : News g L h news) (h1 : (a, o) ∈ news) (h2 : (b, o') ∈ news) (hd : o.data ≠ o'.data) : @Ne Nat a b := fun e => by
  have e1 := (N _ h1).1
  have e2 := (N _ h2).1
  dsimp only at e1 e2
  rw [show a = b from e, e2] at e1
  cases e1
  exact hd rfl
section
variable {fA : Addr} {cD : Value} {w : World} {p : Program} {loose : List Str} {mean : ExcName → Option Value} {mg mb : Str → Option Value} {g : Heap} {s : Shared} {fr : List Env} {L wd sz : Addr} {nW nS : Nat} {tt : Tok} {m : Str → Option Value} {vW vS : List Value} {o1 o2 o3 : Obj} {n0 n1 n2 n3 : Int}
theorem law_6on {Q : Flow → Shared → Prop} (X : (hd.heap_1 w.params).In g) (T : Top p loose mean mg mb g) (Cd : CodeHd g 160 156) (F : Fr g L s.heap m) (hL : @LT.lt Nat _ 156 L)
    (N : News g L s.heap [(156, tabObj #[]), (wd, listOf vW.toArray nW), (sz, listOf vS.toArray nS), (L + 3, o3), (L + 2, o2), (L + 1, o1)]) (hw3 : @LT.lt Nat _ (L + 3) wd) (hs3 : @LT.lt Nat _ (L + 3) sz) (c1 : o1.data = .cell none) (c2 : o2.data = .cell none) (c3 : o3.data = .cell none)
    (h : ∀ n ∈ [n0, n1, n2, n3], 0 ≤ n ∧ n < 168) (sW : StrsAre vW ([n0, n1, n2, n3].map wordS)) (sS : IntsAre vS ([n0, n1, n2, n3].map sizeS))
    (m1 : m "words" = some (.ref wd)) (m2 : m "sizes" = some (.ref sz)) (m3 : m "text" = some (.str (textFrom "" [n0, n1, n2, n3]) tt))
    (hq : ∀ h' tk' m' tab, Fr g L h' m' → h'.get? 156 = some (tabObj tab) → Q (.ret (.bool true)) { s with heap := h', toks := tk' }) :
    wpAny (model Challenge.rw_re0023_01.row.prog w) ((Ar 310 50 fr).deeper (lwEnv fA cD L)) (execs (lwB.drop 6) (lwEnv fA cD L)) Q (fun _ _ => False) s := by
  have hlen : (textFrom "" [n0, n1, n2, n3]).length < 1000 := by
    have k0 := len_piece n0 (wordS n0) (word_len (h n0 (by simp)).1 (h n0 (by simp)).2)
    have k1 := len_piece n1 (wordS n1) (word_len (h n1 (by simp)).1 (h n1 (by simp)).2)
    have k2 := len_piece n2 (wordS n2) (word_len (h n2 (by simp)).1 (h n2 (by simp)).2)
    have k3 := len_piece n3 (wordS n3) (word_len (h n3 (by simp)).1 (h n3 (by simp)).2)
    show (((("" ++ pieceS n0 (wordS n0)) ++ pieceS n1 (wordS n1)) ++ pieceS n2 (wordS n2)) ++ pieceS n3 (wordS n3)).length < 1000
    have z : ("" : Str).length = 0 := by decide +kernel
    rw [PySem.Str.length_append, PySem.Str.length_append, PySem.Str.length_append, PySem.Str.length_append, z]
    omega
  have lW : vW.length = 4 := StrsAre.length sW
  -- machine
  refine execs_at 1 (law_6 (tt := tt) X T Cd F hL N hw3 hs3 hlen c1 m3 fun g' tab ha tka z tl ti o1' kp e156 Z hx hzn l1 l2 l3 offz c1' Fa Na => ?_)
  replace X : (hd.heap_1 w.params).In g' := fun a o e => kp _ _ (X a o e)
  replace T := T.keeps kp
  dsimp only
  rw [List.drop_drop]
  have hp1 : @Ne Nat z.pb z.aL := by refine neN ?_; omega
  have hp2 : @Ne Nat z.pb z.dm := by refine neN ?_; omega
  have offz' : ∀ q ∈ ZL z w 0 1 ((0 : Nat) : Int) tl ti, @Ne Nat wd q.1 ∧ @Ne Nat sz q.1 ∧ @Ne Nat (L + 3) q.1 ∧ @Ne Nat (L + 2) q.1 ∧ @Ne Nat (L + 1) q.1 := fun q hq => ⟨offz q hq _ (.head _), offz q hq _ (.tail _ (.head _)), offz q hq _ (.tail _ (.tail _ (.head _))), offz q hq _ (.tail _ (.tail _ (.tail _ (.head _)))), offz q hq _ (.tail _ (.tail _ (.tail _ (.tail _ (.head _)))))⟩
  -- heard
  refine execs_at 1 (law_7 (s := { s with heap := ha, toks := tka }) (ls := [n0, n1, n2, n3]) X T Fa Z hp1 hp2 (fun q hq r hr => ?_) (by refine neN ?_; omega) (by refine neN ?_; omega) Na m1 c1' c2 lW h rfl hx fun hb tkb D ys l' k' t1 t2 pre' o2' s1 e1 e2 e3 e4 c2' Fb Nb offD => ?_)
  · have a := offz' q hq
    revert r
    exact all_cons a.1 (all_cons a.2.1 (all_cons a.2.2.1 (all_cons a.2.2.2.1 (all_cons a.2.2.2.2 all_nil))))
  dsimp only
  rw [List.drop_drop]
  have oks : ∀ y ∈ [n0, n1, n2, n3].map wordS, WordOk ([n0, n1, n2, n3].map wordS) y := by
    intro y hy
    obtain ⟨n, hn, rfl⟩ := List.mem_map.mp hy
    exact word_ok (h n hn).1 (h n hn).2 hy
  have zDa : ∀ q ∈ ZL z w 0 l' k' t2 t1, @Ne Nat q.1 D := fun q hq => offD q (List.mem_append_right _ hq)
  have zoff : ∀ {nn : Nat} {la ka : Int} {u v : Tok}, ∀ q ∈ ZL z w nn la ka u v, @Ne Nat wd q.1 ∧ @Ne Nat sz q.1 ∧ @Ne Nat (L + 3) q.1 ∧ @Ne Nat (L + 2) q.1 ∧ @Ne Nat (L + 1) q.1 ∧ @Ne Nat q.1 D := fun q hq => by
    obtain ⟨q1, hq1, e1⟩ := zl_same (n2 := 0) (l2 := 1) (k2 := ((0 : Nat) : Int)) (u2 := tl) (v2 := ti) q hq
    obtain ⟨q2, hq2, e2⟩ := zl_same (n2 := 0) (l2 := l') (k2 := k') (u2 := t2) (v2 := t1) q hq
    have a := offz' q1 hq1
    rw [e1] at a
    have b := zDa q2 hq2
    rw [e2] at b
    exact ⟨a.1, a.2.1, a.2.2.1, a.2.2.2.1, a.2.2.2.2, b⟩
  have zaL : ∀ {nn : Nat} {la ka : Int} {u v : Tok}, (z.aL, listOf #[.int ka v] z.n) ∈ ZL z w nn la ka u v := .tail _ (.head _)
  have zdm : ∀ {nn : Nat} {la ka : Int} {u v : Tok}, (z.dm, z.dict w (.int la u)) ∈ ZL z w nn la ka u v := .tail _ (.tail _ (.head _))
  have zpb : ∀ {nn : Nat} {la ka : Int} {u v : Tok}, (z.pb, listOf #[] nn) ∈ ZL z w nn la ka u v := by intros; exact .head _
  have oA := zoff _ (zaL (nn := 0) (la := 0) (ka := 0) (u := t1) (v := t1))
  have oD := zoff _ (zdm (nn := 0) (la := 0) (ka := 0) (u := t1) (v := t1))
  have oP := zoff _ (zpb (nn := 0) (la := 0) (ka := 0) (u := t1) (v := t1))
  -- checks
  refine execs_at 1 (law_8 (ls := []) (s := { s with heap := hb, toks := tkb }) (tt := tt) X T Fb Z hp1 hp2 Nb m1 (by rw [hx]; exact m3) c1' c2' sW s1 (fun y hy => (oks y hy).ok) e1 e2 e4 e3 (fun q hq => ?_) fun hc tkc lc u1 u2 Fc Nc => ?_)
  · revert q
    exact all_cons ⟨oA.2.2.2.2.2, oD.2.2.2.2.2⟩ (all_cons ⟨Ne.symm oA.1, Ne.symm oD.1⟩ (all_cons ⟨Ne.symm oA.2.1, Ne.symm oD.2.1⟩ (all_cons ⟨Ne.symm oA.2.2.1, Ne.symm oD.2.2.1⟩ (all_cons ⟨Ne.symm oA.2.2.2.1, Ne.symm oD.2.2.2.1⟩ (all_cons ⟨Ne.symm oA.2.2.2.2.1, Ne.symm oD.2.2.2.2.1⟩ all_nil)))))
  dsimp only
  rw [List.drop_drop]
  -- notes
  let R9 := ZL z w 0 lc (z.x.length : Nat) u2 u1 ++ [(wd, listOf vW.toArray nW), (sz, listOf vS.toArray nS), (L + 3, o3), (L + 1, o1')]
  have N9 : News g' L hc ((D, listOf ys.toArray ys.length) :: (L + 2, o2') :: R9) :=
    all_cons (Nc _ (List.mem_append_right _ (.head _))) (all_cons (Nc _ (List.mem_append_right _ (.tail _ (.tail _ (.tail _ (.tail _ (.head _))))))) (all_append (fun q hq => Nc q (List.mem_append_left _ hq)) (all_cons (Nc _ (List.mem_append_right _ (.tail _ (.head _)))) (all_cons (Nc _ (List.mem_append_right _ (.tail _ (.tail _ (.head _))))) (all_cons (Nc _ (List.mem_append_right _ (.tail _ (.tail _ (.tail _ (.head _)))))) (all_cons (Nc _ (List.mem_append_right _ (.tail _ (.tail _ (.tail _ (.tail _ (.tail _ (.head _)))))))) all_nil))))))
  refine execs_at 1 (law_9 (s := { s with heap := hc, toks := tkc }) (rest := R9) X T Fc N9 c2' s1 (fun W hW => Nat.lt_of_le_of_lt (oks W hW).len (by decide)) (by rw [StrsAre.length s1]; exact Nat.le_of_ble_eq_true rfl) fun hd' tkd nt no hN Fd Nd offN => ?_)
  dsimp only
  rw [List.drop_drop]
  -- rings
  refine execs_at 1 (law_10 (s := { s with heap := hd', toks := tkd }) X T Fd Nd fun he tke rl l0 ti2 Fe Nee ltE l0l => ?_)
  dsimp only
  rw [List.drop_drop]
  let base := (rl, listOf #[.ref l0] 0) :: (l0, listOf #[.int 0 ti2] 0) :: (nt, no) :: (D, listOf ys.toArray ys.length) :: (L + 2, o2') :: (ZL z w 0 lc (z.x.length : Nat) u2 u1 ++ [(wd, listOf vW.toArray nW), (sz, listOf vS.toArray nS), (L + 1, o1')])
  have r9 : ∀ q ∈ R9, q ∈ ((rl, listOf #[.ref l0] 0) :: (l0, listOf #[.int 0 ti2] 0) :: (nt, no) :: (D, listOf ys.toArray ys.length) :: (L + 2, o2') :: R9) := fun q hq => .tail _ (.tail _ (.tail _ (.tail _ (.tail _ (hq)))))
  have Nf : News g' L he ((L + 3, o3) :: base) :=
    all_cons (Nee _ (r9 _ (List.mem_append_right _ (.tail _ (.tail _ (.head _)))))) (all_cons (Nee _ (.head _)) (all_cons (Nee _ (.tail _ (.head _))) (all_cons (Nee _ (.tail _ (.tail _ (.head _)))) (all_cons (Nee _ (.tail _ (.tail _ (.tail _ (.head _))))) (all_cons (Nee _ (.tail _ (.tail _ (.tail _ (.tail _ (.head _)))))) (all_append (fun q hq => Nee q (r9 q (List.mem_append_left _ hq))) (all_cons (Nee _ (r9 _ (List.mem_append_right _ (.head _)))) (all_cons (Nee _ (r9 _ (List.mem_append_right _ (.tail _ (.head _))))) (all_cons (Nee _ (r9 _ (List.mem_append_right _ (.tail _ (.tail _ (.tail _ (.head _))))))) all_nil)))))))))
  have m3r : (L + 3, o3) ∈ R9 := List.mem_append_right _ (.tail _ (.tail _ (.head _)))
  have m3mem : (L + 3, o3) ∈ ((nt, no) :: (D, listOf ys.toArray ys.length) :: (L + 2, o2') :: R9) := .tail _ (.tail _ (.tail _ (m3r)))
  have lt3 := ltE _ m3mem
  have offB : ∀ q ∈ base, @Ne Nat q.1 (L + 3) := by
    refine all_cons (Nat.ne_of_gt (Nat.lt_trans lt3 l0l)) ?_
    refine all_cons (Nat.ne_of_gt lt3) ?_
    refine all_cons (Ne.symm (offN (L + 3, o3) (.tail _ (.tail _ (m3r))))) ?_
    refine all_cons (Ne.symm (offD (L + 3, o3) (.tail _ (.tail _ (.head _))))) ?_
    refine all_cons (neN (by dsimp only; omega)) ?_
    refine all_append (fun q hq => Ne.symm (zoff q hq).2.2.1) ?_
    exact all_cons (Nat.ne_of_gt hw3) (all_cons (Nat.ne_of_gt hs3) (all_cons (neN (by dsimp only; omega)) all_nil))
  refine law_11 (s := { s with heap := he, toks := tke }) (vs := [.ref l0]) (nR := 0) (rl := rl) X T Fe Nf offB c3 (if_pos rfl) (.head _) (.cons (ws := [.int 0 ti2]) (n := 0) (.tail _ (.head _)) (.cons 0 ti2 .nil) .nil) fun hf tkf mf rl' vs' nR' o3' v3' news Ff hmm Ng off3 c3' hbase mr hrl made => ?_
  -- pile and the rest
  have inb : ∀ q ∈ base, q ∈ news := hbase
  have hszN : (sz, listOf vS.toArray nS) ∈ base := .tail _ (.tail _ (.tail _ (.tail _ (.tail _ (List.mem_append_right _ (.tail _ (.head _)))))))
  have N12 : News g' L hf ((sz, listOf vS.toArray nS) :: ((L + 3, o3') :: news)) := fun q hq => by
    rcases List.mem_cons.mp hq with rfl | hq
    · exact Ng _ (.tail _ (inb _ hszN))
    · exact Ng q hq
  refine execs_at 4 (law_12 (s := { s with heap := hf, toks := tkf }) X T Ff N12 sS rfl ((hmm _ (by decide)).trans ((if_neg (by decide)).trans ((if_neg (by decide)).trans m2))) fun hg tkg mg' x dp t3 t4 t5 lf du Fg Nh d1 d2 d3 d4 d5 d6 offR md ml mt mp msz mn mrr => ?_)
  dsimp only
  rw [List.drop_drop]
  have N13 : News g' L hf news := fun q hq => Ng q (.tail _ hq)
  have hpbN : (z.pb, listOf #[] 0) ∈ news := inb _ (.tail _ (.tail _ (.tail _ (.tail _ (.tail _ (List.mem_append_left _ (.head _)))))))
  let R := news.filter fun q => !([z.pb].contains q.1)
  have fl : ∀ q, q ∈ R ↔ q ∈ news ∧ @Ne Nat q.1 z.pb := by
    intro q
    rw [List.mem_filter]
    refine and_congr_right fun _ => ?_
    simp only [Bool.not_eq_true', List.contains_eq_mem, decide_eq_false_iff_not, List.mem_cons, List.not_mem_nil, or_false]
  have inR : ∀ q ∈ R, q ∈ news := fun q hq => ((fl q).mp hq).1
  have rest : ∀ q ∈ news, q ∈ ((sz, listOf vS.toArray nS) :: (L + 3, o3') :: news) := fun q hq => .tail _ (.tail _ hq)
  have oPb := offR _ (rest _ hpbN)
  have o3b := offR _ (.tail _ (.head _))
  have five' : Five z.pb x dp lf du R := ⟨Ne.symm oPb.1, Ne.symm oPb.2.1, Ne.symm oPb.2.2.1, Ne.symm oPb.2.2.2, Ne.symm d1, d2, d5, d3, d6, d4, fun q hq => by
    have a := offR q (rest q (inR q hq))
    exact ⟨((fl q).mp hq).2, a.1, a.2.1, a.2.2.1, a.2.2.2⟩⟩
  have l6 : vs'.length = 6 := by rw [made.len, ringsAt3]; rfl
  obtain ⟨q1, q2⟩ := rings_math h
  have ndat : ∀ q ∈ news, q.2.data ≠ .seq #[] 0 → q ∈ R := fun q hq hd => (fl q).mpr ⟨hq, news_data N13 hq hpbN hd⟩
  have zobj : ∀ q ∈ z.objs w lc (z.x.length : Nat) u2 u1, q ∈ R := by
    have hz : ∀ q ∈ z.objs w lc (z.x.length : Nat) u2 u1, q ∈ news := fun q hq => inb q (.tail _ (.tail _ (.tail _ (.tail _ (.tail _ (List.mem_append_left _ (.tail _ hq)))))))
    refine all_cons ((fl _).mpr ⟨hz _ (.head _), Ne.symm hp1⟩) ?_
    refine all_cons ((fl _).mpr ⟨hz _ (.tail _ (.head _)), Ne.symm hp2⟩) ?_
    refine all_cons ((fl _).mpr ⟨hz _ (.tail _ (.tail _ (.head _))), Nat.ne_of_lt l1⟩) ?_
    refine all_cons (ndat _ (hz _ (.tail _ (.tail _ (.tail _ (.head _))))) (fun z => by cases z)) ?_
    refine all_cons (ndat _ (hz _ (.tail _ (.tail _ (.tail _ (.tail _ (.head _)))))) (fun z => by cases z)) ?_
    refine all_cons (ndat _ (hz _ (.tail _ (.tail _ (.tail _ (.tail _ (.tail _ (.head _))))))) (fun z => by cases z)) ?_
    obtain ⟨vc, tc, hc', _⟩ := Z.code
    refine all_cons (ndat _ (hz _ (.tail _ (.tail _ (.tail _ (.tail _ (.tail _ (.tail _ (.head _)))))))) (fun e => by dsimp only at e; rw [hc'] at e; cases e)) ?_
    refine all_cons (ndat _ (hz _ (.tail _ (.tail _ (.tail _ (.tail _ (.tail _ (.tail _ (.tail _ (.head _))))))))) (fun e => by dsimp only at e; rw [Z.hA] at e; cases e)) ?_
    refine all_cons (ndat _ (hz _ (.tail _ (.tail _ (.tail _ (.tail _ (.tail _ (.tail _ (.tail _ (.tail _ (.head _)))))))))) (fun e => by dsimp only at e; rw [Z.hT] at e; cases e)) ?_
    exact all_nil
  have seqne : ∀ (ws : List Value) (n : Nat), ws ≠ [] → (Data.seq ws.toArray n) ≠ .seq #[] 0 := fun ws n hne e => by
    injection e with e1 e2
    exact hne (by simpa using e1)
  refine law_16 (s := { s with heap := hg, toks := tkg }) (np := 0) (n := 0) (nl := 0) (nd := 0) (t := t3) (v := .int 1 t4) (l := lc) (tl := u2) (ti := u1) (o1 := o1') (o2 := o2') (nt := nt) (no := no) (hl := D) (vH := ys) (nH := ys.length) (vS := vS) (nS := nS) (sz := sz) (rl := rl') (vr := vs') (nr := nR') (Ws := [n0, n1, n2, n3].map wordS) (ss := [n0, n1, n2, n3].map sizeS) (rs := ringsAt 3) (R := R) X T Fg Z hp1 hp2 five' (fun q hq => off3 q (inR q hq)) ⟨Ne.symm oP.2.2.1, Ne.symm o3b.1, Ne.symm o3b.2.1, Ne.symm o3b.2.2.1, Ne.symm o3b.2.2.2⟩ c3' (fun q hq => ?_)
    ((fl _).mpr ⟨inb _ (.tail _ (.tail _ (.tail _ (.tail _ (.tail _ (List.mem_append_right _ (.tail _ (.tail _ (.head _))))))))), oP.2.2.2.2.1⟩) c1' ((fl _).mpr ⟨inb _ (.tail _ (.tail _ (.tail _ (.tail _ (.head _))))), oP.2.2.2.1⟩) c2' zobj ((fl _).mpr ⟨inb _ (.tail _ (.tail _ (.head _))), Ne.symm (offN (z.pb, listOf #[] 0) (.tail _ (.tail _ (List.mem_append_left _ (.head _)))))⟩) ((fl _).mpr ⟨inb _ (.tail _ (.tail _ (.tail _ (.tail _ (.tail _ (List.mem_append_right _ (.tail _ (.head _)))))))), oP.2.1⟩) ((fl _).mpr ⟨inb _ (.tail _ (.tail _ (.tail _ (.head _)))), Ne.symm oP.2.2.2.2.2⟩)
    (ndat _ hrl (seqne _ _ (by intro e; rw [e] at l6; cases l6))) ⟨Ne.symm oA.2.2.2.2.1, Ne.symm oD.2.2.2.2.1⟩ hN sS rfl s1 rfl oks (made.filter2 (fun a ws n r hr hi hm => ndat _ hm (seqne _ _ (by intro e; subst e; cases hi; exact hr rfl))) (by rw [ringsAt3]; decide)) q1 (by rw [ringsAt3]; rfl) q2
    (mrr.trans mr) mp (mn.trans ((hmm _ (by decide)).trans ((if_neg (by decide)).trans (if_pos rfl)))) mt ml (msz.trans ((hmm _ (by decide)).trans ((if_neg (by decide)).trans ((if_neg (by decide)).trans m2)))) md fun h' tk' m' F' => hq h' tk' m' tab ⟨F'.ns, fun b o e => F'.keep b o (kp b o e), F.above⟩ (F'.keep _ _ e156)
  revert q
  exact all_cons (Nh _ (.tail _ (.tail _ (.tail _ (.tail _ (.tail _ (.head _))))))) (all_cons (Nh _ (.tail _ (.tail _ (.tail _ (.tail _ (rest _ hpbN)))))) (all_cons (Nh _ (.tail _ (.tail _ (.head _)))) (all_cons (Nh _ (.tail _ (.tail _ (.tail _ (.head _))))) (all_cons (Nh _ (.tail _ (.head _))) (all_cons (Nh _ (.head _)) fun q e => Nh _ (.tail _ (.tail _ (.tail _ (.tail _ (rest _ (inR _ e)))))))))))
end
end Mine
end

section
open PySem PySem.W PyProof.Rows
theorem Mine.freshMH : True ∧ True := by
  w_top off
  first
  | (walk1; fail)
  | exact ⟨True.intro, True.intro⟩
end

section -- MH
open PySem PySem.W PyProof.Rows
set_option maxRecDepth 100000
set_option maxHeartbeats 2000000
set_option linter.unusedVariables false
namespace Mine
section
variable {fA : Addr} {cD : Value} {w : World} {p : Program} {loose : List Str} {mean : ExcName → Option Value} {mg mb : Str → Option Value} {g : Heap} {s : Shared} {fr : List Env} {L sc : Addr} {vs : List Value} {ns : List Int} {o1 o2 o3 : Obj}
theorem kw156 : True := by
  w_top off
  k_with "kmk_sign" => (exact Int.natCast_nonneg _)
  exact True.intro
local macro_rules | `(tactic| walk_at "subscriptTail Name Slice ref ref") => `(tactic| (k_here; (with_reducible show wpAny _ _ (subscriptTail _ (PySem.Expr.Slice _ _ none _) (Value.ref _) (Value.ref _)) _ _ _); k_dflt (refine' kmk_slice_ints ?F ?N ?l ?p ?q ?i ?m ?c ?_ ?s ?t ?z; (case F => k_asm); (case N => k_asm); (case l => kmk_list); (case p => kmk_part); (case q => kmk_part); (case i => l_ints); (case m => first | exact kmk_from (by l_ints) (Int.natCast_nonneg _) | kmk_nums); (case c => kmk_len); (case s => with_unfolding_all rfl); (case t => kmk_pure); (case z => kmk_size)); intro D' ws' h' F' N' l1 hI' hC' hL'; (try simp only [Int.reduceNeg, Int.neg_neg, Int.reduceToNat] at hI' hC' hL'); (try k_lt l1); (try k_sweep)))
theorem law_0 {Q : Flow → Shared → Prop} (X : (hd.heap_1 w.params).In g) (T : Top p loose mean mg mb g) (F : Fr g L s.heap (fun y => if y = "script" then some (.ref sc) else none)) (N : News g L s.heap [(L + 3, o3), (L + 2, o2), (L + 1, o1), (156, tabObj #[])])
    (hS : g.IsList sc vs.toArray) (hI : IntsAre vs ns) (hl : ¬ 63 < ns.length)
    (hq : ∀ h' tk' m' nu wd sz vN n1 t, Fr g L h' m' → News g L h' [(sz, listOf #[] 0), (wd, listOf #[] 0), (nu, listOf (List.toArray vN) n1), (L + 3, o3), (L + 2, o2), (L + 1, o1), (156, tabObj #[])] → IntsAre vN ((ns.take 4).map (fun k => k.fmod 168) ++ [5, 37, 102, 78].drop (min 4 ns.length)) → @LT.lt Nat _ (L + 3) nu → @LT.lt Nat _ nu wd → @LT.lt Nat _ wd sz → m' "numbers" = some (.ref nu) → m' "words" = some (.ref wd) → m' "sizes" = some (.ref sz) → m' "text" = some (.str "" t) → Q .next { s with heap := h', toks := tk' }) :
    wpAny (model Challenge.rw_re0023_01.row.prog w) ((Ar 310 50 fr).deeper (lwEnv fA cD L)) (execs (lwB.take 5) (lwEnv fA cD L)) Q (fun _ _ => False) s := by
  obtain ⟨h0, g0, d0, k0, o0⟩ := s
  dsimp only at F N hq
  generalize hb : lwB = b
  generalize hs : lwS = sc
  replace hb := hb.symm
  replace hs := hs.symm
  conv at hb => rhs; whnf
  conv at hs => rhs; whnf
  subst hb hs
  try dsimp only [List.take_zero, List.take_succ_cons]
  iterate 61 walk1
  rename News _ _ _ _ => NN
  rename Fr _ _ _ _ => FF
  rename IntsAre _ (List.map _ _ ++ List.drop _ _) => II
  have e4 : ((((ns.take 4).map (fun k' => k'.fmod 168)).length : Nat) : Int).toNat = min 4 ns.length := by simp
  rw [e4] at II
  exact hq _ _ _ _ _ _ _ 0 _ FF ((by
    (try dsimp only)
    repeat refine all_cons (NN _ (by k_mem)) ?_
    first | exact all_nil | exact fun q hq => NN q (by repeat first | exact hq | apply List.Mem.tail))) II (ltN (by omega)) (ltN (by omega)) (ltN (by omega)) rfl rfl rfl rfl
end
theorem kw157 : True := by
  w_top off
  k_with_none
  exact True.intro
/-- the four numbers -/
theorem four_numbers (ns : List Int) : ∃ n0 n1 n2 n3, (ns.take 4).map (fun k => k.fmod 168) ++ [5, 37, 102, 78].drop (min 4 ns.length) = [n0, n1, n2, n3] ∧ ∀ n ∈ [n0, n1, n2, n3], 0 ≤ n ∧ n < 168 := by
  have lo := fun k : Int => fmod_lo k (n := 168) (by decide)
  have hi := fun k : Int => fmod_hi k (n := 168) (by decide)
  match ns with
  | [] => exact ⟨5, 37, 102, 78, rfl, by decide⟩
  | [a] => exact ⟨a.fmod 168, 37, 102, 78, rfl, by simp [lo, hi]⟩
  | [a, b] => exact ⟨a.fmod 168, b.fmod 168, 102, 78, rfl, by simp [lo, hi]⟩
  | [a, b, c] => exact ⟨a.fmod 168, b.fmod 168, c.fmod 168, 78, rfl, by simp [lo, hi]⟩
  | a :: b :: c :: d :: r =>
    refine ⟨a.fmod 168, b.fmod 168, c.fmod 168, d.fmod 168, ?_, by simp [lo, hi]⟩
    have e : min 4 (a :: b :: c :: d :: r).length = 4 := by simp only [List.length_cons]; omega
    rw [e]
    rfl
section
variable {fA : Addr} {cD : Value} {w : World} {p : Program} {loose : List Str} {mean : ExcName → Option Value} {mg mb : Str → Option Value} {g : Heap} {s : Shared} {fr : List Env} {L sc : Addr} {vs : List Value} {ns : List Int} {o1 o2 o3 : Obj}
theorem law_whole {Q : Flow → Shared → Prop} (X : (hd.heap_1 w.params).In g) (T : Top p loose mean mg mb g) (Cd : CodeHd g 160 156) (F : Fr g L s.heap (fun y => if y = "script" then some (.ref sc) else none)) (hL : @LT.lt Nat _ 156 L) (N : News g L s.heap [(L + 3, o3), (L + 2, o2), (L + 1, o1), (156, tabObj #[])])
    (c1 : o1.data = .cell none) (c2 : o2.data = .cell none) (c3 : o3.data = .cell none) (hS : g.IsList sc vs.toArray) (hI : IntsAre vs ns) (hl : ¬ 63 < ns.length)
    (hq : ∀ h' tk' m' tab, Fr g L h' m' → h'.get? 156 = some (tabObj tab) → Q (.ret (.bool true)) { s with heap := h', toks := tk' }) :
    wpAny (model Challenge.rw_re0023_01.row.prog w) ((Ar 310 50 fr).deeper (lwEnv fA cD L)) (execs lwB (lwEnv fA cD L)) Q (fun _ _ => False) s := by
  refine execs_at 5 (law_0 X T F N hS hI hl fun h1 tk1 m1 nu wd sz vN n1 t F1 N1 iN l1 l2 l3 a1 a2 a3 a4 => ?_)
  dsimp only
  obtain ⟨n0, n1', n2, n3, e, hn⟩ := four_numbers ns
  rw [e] at iN
  have N2 : News g L h1 ((wd, listOf #[] 0) :: (sz, listOf #[] 0) :: [(nu, listOf vN.toArray n1), (L + 3, o3), (L + 2, o2), (L + 1, o1), (156, tabObj #[])]) := (by
    (try dsimp only)
    repeat refine all_cons (N1 _ (by k_mem)) ?_
    first | exact all_nil | exact fun q hq => N1 q (by repeat first | exact hq | apply List.Mem.tail))
  have off : ∀ q ∈ [(nu, listOf vN.toArray n1), (L + 3, o3), (L + 2, o2), (L + 1, o1), (156, tabObj #[])], @LT.lt Nat _ q.1 wd := by
    intro q hq
    simp only [List.mem_cons, List.not_mem_nil, or_false] at hq
    rcases hq with rfl | rfl | rfl | rfl | rfl <;> (dsimp only; refine ltN ?_; omega)
  refine law_5 (s := { s with heap := h1, toks := tk1 }) X T F1 N2 (Nat.ne_of_lt l3) (fun q hq => Nat.ne_of_lt (off q hq)) (fun q hq => Nat.ne_of_lt (Nat.lt_trans (off q hq) l3)) (.head _) iN hn rfl a1 a2 a3 a4 fun h2 tk2 m2 vW vS nW nS t3 F2 N3 sW sS b1 b2 b3 => ?_
  refine law_6on (s := { s with heap := h2, toks := tk2 }) (wd := wd) (sz := sz) (vW := vW) (vS := vS) (nW := nW) (nS := nS) X T Cd F2 hL (fun q hq => N3 q ?_) (Nat.lt_trans l1 l2) (Nat.lt_trans l1 (Nat.lt_trans l2 l3)) c1 c2 c3 hn sW sS b1 b2 b3 hq
  simp only [List.mem_cons, List.not_mem_nil, or_false] at hq ⊢
  rcases hq with e | e | e | e | e | e <;> simp only [e, true_or, or_true]
end
end Mine
end

section
open PySem PySem.W PyProof.Rows
theorem Mine.freshFn : True ∧ True := by
  w_top off
  first
  | (walk1; fail)
  | exact ⟨True.intro, True.intro⟩
end

section -- Fn
open PySem PySem.W PyProof.Rows
set_option maxRecDepth 100000
set_option maxHeartbeats 8000000
namespace Mine
theorem ar_deep {α : Type} {M : Model} {e : Env} {t : Sem α} {Q : α → Shared → Prop} {E : Value → Shared → Prop} {s : Shared} (h : wpAny M ((Ar 310 50 []).deeper e) t Q E s) : wpAny M (callerA.deeper e) t Q E s :=
  ar_any (d := ((Ar 310 50 []).deeper e).depth) (u := ((Ar 310 50 []).deeper e).units) (fr := [e]) rfl (Nat.le_of_ble_eq_true rfl) (Nat.le_of_ble_eq_true rfl) rfl h
theorem law_top {fA : Addr} {cD : Value} {w : World} {p : Program} {loose : List Str} {mean : ExcName → Option Value} {mg mb : Str → Option Value} {g : Heap} {s : Shared} {L sc : Addr} {vs : List Value} {ns : List Int} {o1 o2 o3 : Obj} {m : Str → Option Value}
    {Q : Flow → Shared → Prop} {E : Value → Shared → Prop} (X : (hd.heap_1 w.params).In g) (T : Top p loose mean mg mb g) (Cd : CodeHd g 160 156) (F : Fr g L s.heap m) (hm : m = (fun (y : Str) => if y = ("script" : Str) then some (Value.ref sc) else none)) (hL : @LT.lt Nat _ 156 L) (N : News g L s.heap [(L + 3, o3), (L + 2, o2), (L + 1, o1), (156, tabObj #[])])
    (c1 : o1.data = .cell none) (c2 : o2.data = .cell none) (c3 : o3.data = .cell none) (hS : g.IsList sc vs.toArray) (hI : IntsAre vs ns) (hl : ¬ 63 < ns.length)
    (hq : ∀ h' tk' m' tab, Fr g L h' m' → h'.get? 156 = some (tabObj tab) → Q (.ret (.bool true)) { s with heap := h', toks := tk' }) :
    wpAny (model Challenge.rw_re0023_01.row.prog w) (callerA.deeper (lwEnv fA cD L)) (execs lwB (lwEnv fA cD L)) Q E s := by
  subst hm
  exact wpAny_mono (ar_deep (law_whole X T Cd F hL N c1 c2 c3 hS hI hl hq)) (fun _ _ y => y) fun _ _ y => y.elim
end Mine
end

section
open PySem PySem.W PyProof.Rows Mine
set_option maxRecDepth 100000 in
set_option maxHeartbeats 8000000 in
theorem PySem.Challenge.cw_re0023_01_holds : PySem.Challenge.rw_re0023_01.Holds := by
  exact Mine.heard (fun said => by
    refine holds_open (q := hd.view_1) (loose := [Str.ofString "_Accumulator"]) (Xt := headXt) (XP := XL hd.view_1 []) (Yf := (kmHook hd.heap_1 headAs headKeys [156]).obs) (Ya := (kmHook hd.heap_1 headAs headKeys [156]).val) (YP := (kmHook hd.heap_1 headAs headKeys [156]).says) (N := 2172) left (kmHook hd.heap_1 headAs headKeys [156]).of (kmHook hd.heap_1 headAs headKeys [156]).keeps (fun s e => xl_of s (Bool.and_eq_true_iff.mp e).1) XL.keeps (by rfl) (by rfl) (by rfl) (fun s e => recFacts_of (Bool.and_eq_true_iff.mp e).2) (by rfl) said (by decide +kernel) ⟨rfl, rfl, rfl, rfl, rfl, by decide +kernel⟩ ?hw ?hc
    case hw => w_on; w_witness2
    case hc =>
      clear said
      w_on
      k_go0
      all_goals try k_fold
      refine law_top (fA := _) (cD := _) (by assumption) (by assumption) (by assumption) (by assumption) ?hm (by assumption) (by assumption) ?c1 ?c2 ?c3 (by assumption) (by assumption) ?hl ?hq
      case hm => rfl
      case c1 => first | assumption | rfl
      case c2 => first | assumption | rfl
      case c3 => first | assumption | rfl
      case hl => omega
      case hq =>
        intro h' tk' m' tab F' e
        refine ⟨goodW_bool F' (by assumption) (raisesW_false ?_) ?_, ⟨⟨_, e⟩, trivial⟩⟩
        · wrow_none_raised
        · kc_post)
end
