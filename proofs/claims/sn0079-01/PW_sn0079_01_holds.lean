import PyProof.Rows.All
import Wide.All
import OpenK.AllK
import Wide.FinOn
import KE.BitLaws
import PySem.Challenge.RW_sn0079_01
set_option Elab.async false
set_option maxRecDepth 100000
set_option maxHeartbeats 8000000
set_option rowWalk.seconds 0
namespace Mine
open PySem PySem.W PyProof.Rows
def vw : Program := view PySem.Challenge.rw_sn0079_01.row.prog [0, 35]
def lo : List Str := ["_wall", "_DIV_LIMIT", "_div2n1n", "_div3n2n", "_int2digits", "_digits2int", "_divmod_pos", "int_divmod", "bisect_right", "bisect_left", "_MOVE_COST", "_CASE_COST", "_substitution_cost", "tspecials", "_name_disallowed_re", "_value_disallowed_re", "_formatparam", "Headers", "_law_words", "_law_apart", "_law_figures", "_law_value", "_law_total", "_law_quarter", "_law_scale", "_law_weight", "_law_as_many", "_law_diagonal", "_law_has_box"].map Str.ofString
abbrev hXt : Shared → Bool := fun s => xlAt vw [] s && recOk (RowW.records PySem.Challenge.rw_sn0079_01.row.toRowW) s
theorem two {α β γ : Type} {o : Option α} {f : α → β} {g : α → γ} {b : β} {c : γ} (x : o.map f = some b) (y : o.map g = some c) : o.map (fun s => (f s, g s)) = some (b, c) := by
  cases o with
  | none => cases x
  | some s => cases x; cases y; rfl
abbrev run0 (w : World) : Option Shared := openEnds treeTable PySem.Challenge.rw_sn0079_01.row.toRowW.prog w 2000
theorem left1 (w : World) : (run0 w).map (openSeen vw lo (importedModules PySem.Challenge.rw_sn0079_01.row.toRowW.prog.main.body) hXt true) = some (openGood vw lo) := by
  unfold run0 openEnds fencedOpening; unfold topFrom
  simp only [Fast.te14364793385576792824, Fast.te10274390034422433532, Fast.te1435165496053646825, Fast.te14289696077712309145, Fast.te14082659384304107361, Fast.te4187177175401517315]
  kernel_rfl
theorem said0 : OpenLaw.wellSaid PySem.Challenge.rw_sn0079_01 = true := by
  simp only [Fast.te9446332074065402090]
  kernel_rfl
def getAll (h : Heap) : List Addr → List (Option Obj)
  | [] => []
  | a :: r => h.get? a :: getAll h r
def vals : Frag → List (Option Obj)
  | [] => []
  | p :: r => some p.2 :: vals r
def tabs : List Addr → List (Option Obj)
  | [] => []
  | _ :: r => some (tabObj #[]) :: tabs r
theorem getAll_eq (h : Heap) : ∀ l, getAll h l = l.map h.get?
  | [] => rfl
  | a :: r => by rw [getAll, getAll_eq h r]; rfl
theorem vals_eq : ∀ K : Frag, vals K = K.map fun p => some p.2
  | [] => rfl
  | p :: r => by rw [vals, vals_eq r]; rfl
theorem tabs_eq : ∀ l, tabs l = l.map fun _ => some (tabObj #[])
  | [] => rfl
  | a :: r => by rw [tabs, tabs_eq r]; rfl
theorem obs_of {K : Params → Frag} {as : List Addr} {e : ∀ P, as = (K P).map (·.1)} {ts : List Addr} {w : World} {o : Option Shared}
    (x : o.map (fun s => (getAll s.heap as, getAll s.heap ts)) = some (vals (K w.params), tabs ts)) : o.map (kmHook K as e ts).obs = some ((kmHook K as e ts).val w) := by
  cases o with
  | none => cases x
  | some s =>
    have y := Prod.mk.inj (Option.some.inj x)
    rw [getAll_eq, getAll_eq, vals_eq, tabs_eq] at y
    exact congrArg some (Prod.ext y.1 y.2)
local macro_rules | `(tactic| o_law) => `(tactic| refine holds_law said0 fun said => ?_)
local macro_rules | `(tactic| o_head $H) => `(tactic| (
  have left2 : ∀ w : World, (run0 w).map (Hook.obs $H) = some (Hook.val $H w) := by
    intro w
    refine obs_of ?_
    · unfold run0 openEnds fencedOpening; unfold topFrom
      simp only [Fast.te14364793385576792824, Fast.te10274390034422433532, Fast.te1435165496053646825, Fast.te14289696077712309145, Fast.te14082659384304107361]
      kernel_rfl
  refine holds_open (q := vw) (loose := lo)
    (Xt := hXt) (XP := XL vw []) (Yf := Hook.obs $H) (Ya := Hook.val $H) (YP := Hook.says $H) (N := 2000) (fun w => two (left1 w) (left2 w)) (Hook.of $H) (Hook.keeps $H)
    (fun s e => xl_of s (Bool.and_eq_true_iff.mp e).1) XL.keeps (by rfl) (by rfl) (by rfl) (fun s e => recFacts_of (Bool.and_eq_true_iff.mp e).2) (by rfl) (by assumption) (by decide +kernel) ⟨rfl, rfl, rfl, rfl, rfl, by decide +kernel⟩ ?hw ?hc
  clear left2))
open_top hd for PySem.Challenge.rw_sn0079_01
end Mine
namespace Mine
open PySem PySem.W PyProof.Rows PySem.Spec PySem.Calls
abbrev pg : Program := PySem.Challenge.rw_sn0079_01.row.prog

/-- the ground that all calls stand on: what the top left, the two tables laid aside -/
structure Core (w : World) (ls : List Str) (mean : ExcName → Option Value) (mg mb : Str → Option Value) (h : Heap) : Prop where
  X : (Mine.hd.heap_1 w.params).In h
  T : Top topProg ls mean mg mb h
  C1 : CodeHd h 65 61
  C2 : CodeHd h 58 54
  n61 : h.get? 61 = none
  n54 : h.get? 54 = none

abbrev Ar (dp un : Nat) (fr : Option (List Env)) (gd : Option (List Code)) : Around := { handled := none, depth := dp, frames := fr, guards := gd, units := un }

abbrev Keep (h h' : Heap) : Prop := ∀ b o, h.get? b = some o → h'.get? b = some o

theorem lift {α : Type} {M : Model} {A : Around} {t : Sem α} {Q : α → Shared → Prop} {E : Value → Shared → Prop} {s : Shared} {dp un : Nat}
    (hh : A.handled = none) (hd : A.depth ≤ dp) (hu : A.units ≤ un) (h : wpAny M (Ar dp un A.frames A.guards) t Q E s) : wpAny M A t Q E s :=
  fun Γ p hΓ => h Γ p ⟨hΓ.1.trans hh, Nat.le_trans hΓ.2.1 hd, hΓ.2.2.1, hΓ.2.2.2.1, Nat.le_trans hΓ.2.2.2.2 hu⟩

/-- g is h without the objects of tl; H0 stands in it -/
structure Gd (H0 h : Heap) (tl : List (Addr × Obj)) (g : Heap) : Prop where
  st : H0.StaysIn g
  sub : ∀ b o, g.get? b = some o → h.get? b = some o
  sup : ∀ b o, b ∉ tl.map (·.1) → h.get? b = some o → g.get? b = some o
  size : g.objs.size = h.objs.size
theorem Gd.of {H0 h : Heap} {tl : List (Addr × Obj)} (st : H0.StaysIn h) (hn : ∀ p ∈ tl, H0.get? p.1 = none) : Gd H0 h tl (hideAll h (tl.map (·.1))) where
  st := fun b o e => hideAll_get _ (st b o e) fun q => by
    obtain ⟨p, hp, e2⟩ := List.mem_map.mp q
    have := hn p hp
    rw [e2, e] at this; cases this
  sub := fun b o e => of_hideAll _ e
  sup := fun b o n e => hideAll_get _ e n
  size := hideAll_size _ _

theorem Gd.list {H0 h : Heap} {tl : List (Addr × Obj)} {g : Heap} {l : Addr} {its : Array Value} (G : Gd H0 h tl g) (ht : ∀ p ∈ tl, h.get? p.1 = some p.2) (hl : h.IsList l its) (hc : ∀ p ∈ tl, p.2.cls ≠ .type "list") : g.IsList l its := by
  obtain ⟨o, e, c, r⟩ := hl
  refine ⟨o, G.sup _ _ (fun q => ?_) e, c, r⟩
  obtain ⟨p, hp, e2⟩ := List.mem_map.mp q
  have e3 := ht p hp
  rw [e2, e] at e3
  exact hc p hp (by rw [← Option.some.inj e3]; exact c)
theorem codeRec_keep {h h' : Heap} {v : Value} {q : Str} (x : h.CodeRec v q) (k : Keep h h') : h'.CodeRec v q := let ⟨c, oc, vs, t, r0, r1, r2, r3⟩ := x; ⟨c, oc, vs, t, r0, k _ _ r1, r2, r3⟩
theorem Gd.codeRec {H0 h : Heap} {P : Addr} {a b c : Value} {g : Heap} {v : Value} {q : Str} (G : Gd H0 h [(P, tabObj #[a, b, c])] g) (ht : h.get? P = some (tabObj #[a, b, c])) (hb : ∀ s t, b ≠ .str s t) (x : h.CodeRec v q) : g.CodeRec v q := by
  obtain ⟨rc, oc, vs, t, r0, r1, r2, r3⟩ := x
  refine ⟨rc, oc, vs, t, r0, G.sup _ _ (fun e => ?_) r1, r2, r3⟩
  have e2 : rc = P := by simpa using e
  subst e2
  rw [ht] at r1
  cases r1
  cases r2
  exact hb _ _ (Option.some.inj r3)
section
variable {w : World} {ls : List Str} {mean : ExcName → Option Value} {mg mb : Str → Option Value} {dp un : Nat} {fr : Option (List Env)} {gd : Option (List Code)} {s : Shared} {f : Addr} {H0 : Heap} {tl : List (Addr × Obj)}
  {name qual : Str} {params : Arguments} {body : List Stmt} {scope : Scope} {cl : List (Str × Addr)} {dV kV doc pm cdv ct oc : Value} {an od : Option Addr} {osl : Array (Option Value)} {vs : List Value} {kw : List (Str × Value)}
  {binds : List (Str × Value)} {Q E : Value → Shared → Prop} {fo : Obj}

/-- into a def, plain or a closure, without cells of its own -/
theorem enterX (C : Core w ls mean mg mb H0) (st : H0.StaysIn s.heap) (hn : ∀ p ∈ tl, H0.get? p.1 = none) (ht : ∀ p ∈ tl, s.heap.get? p.1 = some p.2)
    (ho : s.heap.get? f = some fo) (hfd : fo.data = .func (fnX name qual params body scope cl dV kV doc pm an cdv ct)) (hcd : s.heap.CodeRec cdv qual) (hroom : dp < recursionLimit)
    (hbind : BindsTo s (fnX name qual params body scope cl dV kV doc pm an cdv ct) ⟨vs, kw⟩ binds) (hloc : ∀ y ∈ binds, scope.names.lookup y.1 = some .local)
    (h : ∀ g L h₁, Gd H0 s.heap tl g → (Mine.hd.heap_1 w.params).In g → Top topProg ls mean mg mb g → CodeHd g 65 61 → CodeHd g 58 54 → Fr g L h₁ (fun y => binds.reverse.lookup y) → News g L h₁ tl → (∀ p ∈ tl, p.1 < L) →
      wpAny (model pg w) ((Ar dp un fr gd).deeper (envX qual scope L f cdv cl)) (execs body (envX qual scope L f cdv cl))
        (fun fl s' => Q (match fl with | .ret v => v | _ => .none) s') (fun _ _ => False) { s with heap := h₁, toks := s.toks + binds.length })
    (hco : scope.isCoroutine = false) (hgen : scope.isGenerator = false) (hk : scope.kind = .function) (hcell : ∀ x ∈ scope.names, x.2 ≠ .cell) :
    wpAny (model pg w) (Ar dp un fr gd) (call (.ref f) vs kw) Q E s := by
  refine wpAny_call ?_
  have G := Gd.of (tl := tl) st hn
  refine codeAny_call_def (fd := fnX name qual params body scope cl dV kV doc pm an cdv ct) (body := body) (binds := binds) hroom ho hfd (C.T.nolimit.keeps st) hcd rfl hbind hcell hloc (fun h₁ hns hk₁ => ?_) hco hgen hk
  refine wpAny_mono (h _ s.heap.objs.size h₁ G (C.X.keeps G.st) (C.T.keeps G.st) (C.C1.keeps G.st) (C.C2.keeps G.st) ⟨hns, fun b o e => hk₁ b o (G.sub b o e), Nat.le_of_eq G.size⟩ (fun p hp => ⟨hk₁ _ _ (ht p hp), Nat.ne_of_lt (Heap.lt_size (ht p hp)), hideAll_none _ (List.mem_map_of_mem hp)⟩)
    (fun p hp => Heap.lt_size (ht p hp))) (fun _ _ x => x) fun _ _ x => x.elim

/-- into a def that changes nothing older: the base is the heap itself -/
theorem enterX0 (C : Core w ls mean mg mb H0) (st : H0.StaysIn s.heap)
    (ho : s.heap.get? f = some fo) (hfd : fo.data = .func (fnX name qual params body scope cl dV kV doc pm an cdv ct)) (hcd : s.heap.CodeRec cdv qual) (hroom : dp < recursionLimit)
    (hbind : BindsTo s (fnX name qual params body scope cl dV kV doc pm an cdv ct) ⟨vs, kw⟩ binds) (hloc : ∀ y ∈ binds, scope.names.lookup y.1 = some .local)
    (h : ∀ L h₁, (Mine.hd.heap_1 w.params).In s.heap → Top topProg ls mean mg mb s.heap → CodeHd s.heap 65 61 → CodeHd s.heap 58 54 → Fr s.heap L h₁ (fun y => binds.reverse.lookup y) → News s.heap L h₁ [] →
      wpAny (model pg w) ((Ar dp un fr gd).deeper (envX qual scope L f cdv cl)) (execs body (envX qual scope L f cdv cl))
        (fun fl s' => Q (match fl with | .ret v => v | _ => .none) s') (fun _ _ => False) { s with heap := h₁, toks := s.toks + binds.length })
    (hco : scope.isCoroutine = false) (hgen : scope.isGenerator = false) (hk : scope.kind = .function) (hcell : ∀ x ∈ scope.names, x.2 ≠ .cell) :
    wpAny (model pg w) (Ar dp un fr gd) (call (.ref f) vs kw) Q E s := by
  refine wpAny_call ?_
  have X := C.X.keeps st
  have T := C.T.keeps st
  refine codeAny_call_def (fd := fnX name qual params body scope cl dV kV doc pm an cdv ct) (body := body) (binds := binds) hroom ho hfd T.nolimit hcd rfl hbind hcell hloc (fun h₁ hns hk₁ => ?_) hco hgen hk
  exact wpAny_mono (h s.heap.objs.size h₁ X T (C.C1.keeps st) (C.C2.keeps st) ⟨hns, hk₁, Nat.le_refl _⟩ News.nil) (fun _ _ x => x) fun _ _ x => x.elim

theorem enterP (C : Core w ls mean mg mb H0) (st : H0.StaysIn s.heap) (ho : (Mine.hd.heap_1 w.params).lookup f = some ⟨oc, od, .func (fnOf name qual params body scope dV kV doc pm an cdv ct), osl⟩)
    (hcd : codeIn (Mine.hd.heap_1 w.params) cdv qual = true) (hroom : dp < recursionLimit)
    (hbind : BindsTo s (fnOf name qual params body scope dV kV doc pm an cdv ct) ⟨vs, kw⟩ binds) (hloc : ∀ y ∈ binds, scope.names.lookup y.1 = some .local)
    (h : ∀ L h₁, (Mine.hd.heap_1 w.params).In s.heap → Top topProg ls mean mg mb s.heap → CodeHd s.heap 65 61 → CodeHd s.heap 58 54 → Fr s.heap L h₁ (fun y => binds.reverse.lookup y) → News s.heap L h₁ [] →
      wpAny (model pg w) ((Ar dp un fr gd).deeper (envOf qual scope L f cdv)) (execs body (envOf qual scope L f cdv))
        (fun fl s' => Q (match fl with | .ret v => v | _ => .none) s') (fun _ _ => False) { s with heap := h₁, toks := s.toks + binds.length })
    (hco : scope.isCoroutine = false) (hgen : scope.isGenerator = false) (hk : scope.kind = .function) (hcell : ∀ x ∈ scope.names, x.2 ≠ .cell) :
    wpAny (model pg w) (Ar dp un fr gd) (call (.ref f) vs kw) Q E s :=
  enterX0 (cl := []) C st ((C.X.keeps st) _ _ ho) rfl (codeRec_of (C.X.keeps st) hcd) hroom hbind hloc h hco hgen hk hcell

/-- a plain def of the text, objects laid aside -/
theorem enterPt (C : Core w ls mean mg mb H0) (st : H0.StaysIn s.heap) (hn : ∀ p ∈ tl, H0.get? p.1 = none) (ht : ∀ p ∈ tl, s.heap.get? p.1 = some p.2)
    (ho : (Mine.hd.heap_1 w.params).lookup f = some ⟨oc, od, .func (fnOf name qual params body scope dV kV doc pm an cdv ct), osl⟩)
    (hcd : codeIn (Mine.hd.heap_1 w.params) cdv qual = true) (hroom : dp < recursionLimit)
    (hbind : BindsTo s (fnOf name qual params body scope dV kV doc pm an cdv ct) ⟨vs, kw⟩ binds) (hloc : ∀ y ∈ binds, scope.names.lookup y.1 = some .local)
    (h : ∀ g L h₁, Gd H0 s.heap tl g → (Mine.hd.heap_1 w.params).In g → Top topProg ls mean mg mb g → CodeHd g 65 61 → CodeHd g 58 54 → Fr g L h₁ (fun y => binds.reverse.lookup y) → News g L h₁ tl → (∀ p ∈ tl, p.1 < L) →
      wpAny (model pg w) ((Ar dp un fr gd).deeper (envOf qual scope L f cdv)) (execs body (envOf qual scope L f cdv))
        (fun fl s' => Q (match fl with | .ret v => v | _ => .none) s') (fun _ _ => False) { s with heap := h₁, toks := s.toks + binds.length })
    (hco : scope.isCoroutine = false) (hgen : scope.isGenerator = false) (hk : scope.kind = .function) (hcell : ∀ x ∈ scope.names, x.2 ≠ .cell) :
    wpAny (model pg w) (Ar dp un fr gd) (call (.ref f) vs kw) Q E s :=
  enterX (cl := []) C st hn ht ((C.X.keeps st) _ _ ho) rfl (codeRec_of (C.X.keeps st) hcd) hroom hbind hloc h hco hgen hk hcell

/-- into a def with cells of its own -/
theorem enterC (C : Core w ls mean mg mb H0) (st : H0.StaysIn s.heap) (hn : ∀ p ∈ tl, H0.get? p.1 = none) (ht : ∀ p ∈ tl, s.heap.get? p.1 = some p.2)
    (ho : (Mine.hd.heap_1 w.params).lookup f = some ⟨oc, od, .func (fnOf name qual params body scope dV kV doc pm an cdv ct), osl⟩)
    (hcd : codeIn (Mine.hd.heap_1 w.params) cdv qual = true) (hroom : dp < recursionLimit)
    (hbind : BindsTo s (fnOf name qual params body scope dV kV doc pm an cdv ct) ⟨vs, kw⟩ binds) (hkind : (binds.all fun y => scope.names.lookup y.1 == some .local || scope.names.lookup y.1 == some .cell) = true)
    (hnd : ((cellsFrom 0 scope.names []).map (·.1)).Nodup)
    (h : ∀ g L h₁ tk cells, Gd H0 s.heap tl g → (Mine.hd.heap_1 w.params).In g → Top topProg ls mean mg mb g → CodeHd g 65 61 → CodeHd g 58 54 →
      Fr g L h₁ (bindL (envOfC qual scope L f cdv).kindOf binds fun _ => none) → News g L h₁ (cells ++ tl) →
      CellsAre (bindC (envOfC qual scope L f cdv).kindOf binds fun _ => none) (cellsFrom (L + 1) scope.names []) cells → (∀ p ∈ tl, p.1 < L) →
      wpAny (model pg w) ((Ar dp un fr gd).deeper (envOfC qual scope L f cdv)) (execs body (envOfC qual scope L f cdv))
        (fun fl s' => Q (match fl with | .ret v => v | _ => .none) s') (fun _ _ => False) { s with heap := h₁, toks := tk })
    (hco : scope.isCoroutine = false) (hgen : scope.isGenerator = false) (hk : scope.kind = .function) :
    wpAny (model pg w) (Ar dp un fr gd) (call (.ref f) vs kw) Q E s := by
  refine wpAny_call ?_
  have G := Gd.of (tl := tl) st hn
  have X := C.X.keeps st
  refine codeAny_call_function hroom (X _ _ ho) rfl hco hgen rfl (codeRec_of X hcd) (hbind _ _ _ _ ?_)
  refine wpAny_newFunctionEnv_cells hk (kindsX hkind _) fun env' he s' x => ?_
  subst he
  refine ⟨(C.T.nolimit.keeps st).keeps x.toInCall.keep, codeAny_func ?_⟩
  obtain ⟨h₁, tk, rfl, _⟩ := x.done
  have hk₁ := x.toInCall.keep
  obtain ⟨cells, NC, Y⟩ := Cl.news (h₀ := s.heap) (Nat.le_refl _) fun n c hm => ⟨x.cell n c (lookup_of_mem_nodup (cellsFrom_names scope.names 0 (s.heap.objs.size + 1) [] [] rfl ▸ hnd) hm), x.above n c hm⟩
  refine wpAny_mono (h _ s.heap.objs.size h₁ tk cells G (C.X.keeps G.st) (C.T.keeps G.st) (C.C1.keeps G.st) (C.C2.keeps G.st) ⟨x.toInCall.ns, fun b o e => hk₁ b o (G.sub b o e), Nat.le_of_eq G.size⟩ (fun p hp => ?_) Y (fun p hp => Heap.lt_size (ht p hp))) (fun _ _ x => x) fun _ _ x => x.elim
  rcases List.mem_append.mp hp with hp | hp
  · refine ⟨(NC p hp).1, (NC p hp).2.1, ?_⟩
    cases q : (hideAll s.heap (tl.map (·.1))).get? p.1 with
    | none => rfl
    | some o => have := of_hideAll _ q; rw [(NC p hp).2.2] at this; cases this
  · exact ⟨hk₁ _ _ (ht p hp), Nat.ne_of_lt (Heap.lt_size (ht p hp)), hideAll_none _ (List.mem_map_of_mem hp)⟩
end

/-- what a call of a def that changes nothing older gives -/
def SpecP (w : World) (H0 : Heap) (f : Addr) (D : Nat) (vs : List Value) (Pre : Heap → Prop) (Post : Heap → Value → Heap → Prop) : Prop :=
  ∀ (A : Around) (s : Shared) (Q E : Value → Shared → Prop), H0.StaysIn s.heap → A.handled = none → A.depth ≤ D + 400 → A.units ≤ 10 * D → Pre s.heap →
    (∀ r h' tk, Keep s.heap h' → Post s.heap r h' → Q r { s with heap := h', toks := tk }) → wpAny (model pg w) A (call (.ref f) vs) Q E s

theorem SpecP.use {w : World} {H0 : Heap} {f : Addr} {D : Nat} {vs : List Value} {Pre : Heap → Prop} {Post : Heap → Value → Heap → Prop} {A : Around} {s : Shared} {Q E : Value → Shared → Prop} {h₀ : Heap} {L : Addr} {m : Str → Option Value} {news : List (Addr × Obj)}
    (S : SpecP w H0 f D vs Pre Post) (F : Fr h₀ L s.heap m) (N : News h₀ L s.heap news) (st : H0.StaysIn h₀) (hh : A.handled = none) (hd : A.depth ≤ D + 400) (hu : A.units ≤ 10 * D) (hp : Pre s.heap)
    (k : ∀ r h' tk, Keep s.heap h' → Fr h₀ L h' m → News h₀ L h' news → Post s.heap r h' → Q r { s with heap := h', toks := tk }) : wpAny (model pg w) A (call (.ref f) vs) Q E s :=
  S A s Q E (fun b o e => F.keep b o (st b o e)) hh hd hu hp fun r h' tk kp po => k r h' tk kp (F.keeps kp) (fun p hp => ⟨kp _ _ (N p hp).1, (N p hp).2⟩) po

/-- a fact that no closer is to look at -/
structure Hid (P : Prop) : Prop where
  out : P
/-- a new object that a call handed back goes onto the ledger -/
theorem news_add {g h h' : Heap} {L D : Addr} {m : Str → Option Value} {o : Obj} {news : List (Addr × Obj)} (F : Fr g L h m) (N : News g L h news) (N' : News g L h' news) (e0 : h.objs.size ≤ D) (e1 : h'.get? D = some o) :
    News g L h' ((D, o) :: news) ∧ ∀ p ∈ news, p.1 < D := by
  refine ⟨fun p hp => ?_, fun p hp => Nat.lt_of_lt_of_le (Heap.lt_size (N p hp).1) e0⟩
  rcases List.mem_cons.mp hp with rfl | hp
  · refine ⟨e1, Nat.ne_of_gt (Nat.lt_of_lt_of_le F.ns.lt e0), ?_⟩
    cases q : g.get? D with
    | none => rfl
    | some x => exact absurd (Nat.lt_of_lt_of_le (Heap.lt_size (F.keep _ _ q)) e0) (Nat.lt_irrefl _)
  · exact N' p hp
def Hold (P : Prop) : Prop := P
theorem Hold.mk {P : Prop} (h : Hold P) : P := h
section
variable {prog : Program} {w : World} {A : Around} {E : Value → Shared → Prop} {Q : Flow → Shared → Prop} {s : Shared} {env : Env} {G : Heap} {L : Addr}
def WPost {σ : Type} (G : Heap) (L : Addr) (s : Shared) (Led : σ → List (Addr × Obj)) (ps : σ → List (Str × Value)) (P : σ → Prop) (μ : σ → Nat) (Q : Flow → Shared → Prop) (c : σ) (f : Flow) (s₂ : Shared) : Prop :=
  match f with
  | .ret v => Q (.ret v) s₂
  | .brk => Q .next s₂
  | _ => ∃ c' h' tk m', s₂ = { s with heap := h', toks := tk } ∧ Fr G L h' m' ∧ News G L h' (Led c') ∧ (∀ p ∈ ps c', m' p.1 = some p.2) ∧ P c' ∧ μ c' < μ c
theorem kstB_same {m : Str → Option Value} {ps : List (Str × Value)} (h : ∀ p ∈ ps, m p.1 = some p.2) : kstB m ps = m := by
  funext z
  exact kstB_eq h fun _ => rfl
/-- a while by what holds between its turns: the ledger, the names that matter, a word, a measure -/
theorem whileS {σ : Type} {test : Expr} {body : List Stmt} {pos : Pos} {m₀ : Str → Option Value} (Led : σ → List (Addr × Obj)) (ps : σ → List (Str × Value)) (P : σ → Prop) (μ : σ → Nat) (c₀ : σ)
    (F : Fr G L s.heap m₀) (N : News G L s.heap (Led c₀)) (hk : ∀ p ∈ ps c₀, m₀ p.1 = some p.2) (hp : P c₀)
    (turn : ∀ (c : σ) (m : Str → Option Value) h tk, P c → Fr G L h (kstB m (ps c)) → News G L h (Led c) →
      wpAny (model prog w) A (isTrue test env (eval test env)) (fun b s₂ =>
        if b = true then wpAny (model prog w) A (execs body env) (WPost G L s Led ps P μ Q c) (fun _ _ => False) s₂ else Q .next s₂) (fun _ _ => False) { s with heap := h, toks := tk }) :
    wpAny (model prog w) A (exec (.While test body [] pos) env) Q (fun _ _ => False) s := by
  refine While_inv2 (fun n m nx => ∃ c : σ, nx = Led c ∧ μ c = n ∧ (∀ p ∈ ps c, m p.1 = some p.2) ∧ P c) F N ⟨c₀, rfl, rfl, hk, hp⟩ ?_ PassesOwn.never
  rintro n m₁ nx h tk F₁ N₁ ⟨c, rfl, rfl, h1, hp'⟩
  rw [← kstB_same h1] at F₁
  refine wpAny_mono (turn c m₁ h tk hp' F₁ N₁) (fun b s₂ p => ?_) fun _ _ x => x
  cases b with
  | false => simpa using p
  | true =>
    simp only [if_true] at p ⊢
    refine wpAny_mono p (fun f s₃ q => ?_) fun _ _ x => x
    cases f with
    | ret v => exact q
    | brk => exact q
    | next =>
      obtain ⟨c', h', tk', m', rfl, F', N', hk9, hp9, hm9⟩ := q
      exact ⟨h', tk', m', Led c', μ c', rfl, F', N', hm9, c', rfl, rfl, hk9, hp9⟩
    | cont =>
      obtain ⟨c', h', tk', m', rfl, F', N', hk9, hp9, hm9⟩ := q
      exact ⟨h', tk', m', Led c', μ c', rfl, F', N', hm9, c', rfl, rfl, hk9, hp9⟩
end
theorem intEq {x y : Int} {t : Nat} (h : x = y) : ∃ t', Value.int x t = Value.int y t' := ⟨t, by rw [h]⟩
end Mine
namespace Mine
/-- the figures' number: the first is the ones -/
def seg (b : Int) : List Int → Int
  | [] => 0
  | d :: r => d + b * seg b r
theorem seg_append (b : Int) (xs ys : List Int) : seg b (xs ++ ys) = seg b xs + b ^ xs.length * seg b ys := by
  induction xs with
  | nil => simp [seg]
  | cons x r ih =>
    simp only [List.cons_append, seg, ih, List.length_cons, Int.pow_succ, Int.mul_add]
    rw [Int.mul_comm (b ^ r.length) b, Int.mul_assoc]; omega
theorem seg_bound (b : Int) (hb : 1 ≤ b) (xs : List Int) (h : ∀ d ∈ xs, 0 ≤ d ∧ d < b) : 0 ≤ seg b xs ∧ seg b xs < b ^ xs.length := by
  induction xs with
  | nil => simp [seg]
  | cons x r ih =>
    obtain ⟨i1, i2⟩ := ih fun d hd => h d (.tail _ hd)
    obtain ⟨x1, x2⟩ := h x (.head _)
    simp only [seg, List.length_cons, Int.pow_succ]
    have e1 : 0 ≤ b * seg b r := Int.mul_nonneg (by omega) i1
    have e2 : b * (seg b r + 1) ≤ b * b ^ r.length := Int.mul_le_mul_of_nonneg_left (by omega) (by omega)
    rw [Int.mul_add, Int.mul_one] at e2
    rw [Int.mul_comm (b ^ r.length) b]
    omega
/-- the figures from L to R -/
def sg (b : Int) (ns : List Int) (L R : Int) : Int := seg b ((ns.drop L.toNat).take (R - L).toNat)
theorem sg_one (b : Int) (ns : List Int) (L : Int) (h0 : 0 ≤ L) (h1 : L < ns.length) : sg b ns L (L + 1) = ns.getD L.toNat 0 := by
  unfold sg
  have e : (L + 1 - L).toNat = 1 := by omega
  have hl : L.toNat < ns.length := by omega
  rw [e, List.drop_eq_getElem_cons hl, List.take_succ_cons, List.take_zero]
  simp [seg, hl]
theorem sg_split (b : Int) (ns : List Int) (L M R : Int) (h0 : 0 ≤ L) (h1 : L ≤ M) (h2 : M ≤ R) (h3 : R ≤ ns.length) : sg b ns L R = sg b ns L M + b ^ (M - L).toNat * sg b ns M R := by
  unfold sg
  have e : (ns.drop L.toNat).take (R - L).toNat = (ns.drop L.toNat).take (M - L).toNat ++ (ns.drop M.toNat).take (R - M).toNat := by
    have e1 : (R - L).toNat = (M - L).toNat + (R - M).toNat := by omega
    have e2 : M.toNat = L.toNat + (M - L).toNat := by omega
    rw [e1, List.take_add, List.drop_drop, ← e2]
  rw [e, seg_append]
  congr 2
  rw [List.length_take, List.length_drop]
  congr 1
  omega
theorem pow_pos1 (b : Int) (hb : 1 ≤ b) (n : Nat) : 1 ≤ b ^ n := by
  induction n with
  | zero => simp
  | succ n ih =>
    rw [Int.pow_succ]
    have := Int.mul_le_mul ih hb (by omega) (by omega)
    omega
theorem pow_mono (b : Int) (hb : 1 ≤ b) {m n : Nat} (h : m ≤ n) : b ^ m ≤ b ^ n := by
  obtain ⟨k, rfl⟩ := Nat.le.dest h
  rw [Int.pow_add]
  have h1 := pow_pos1 b hb m
  have h2 := Int.mul_le_mul_of_nonneg_left (pow_pos1 b hb k) (show 0 ≤ b ^ m by omega)
  omega
theorem sg_bound (b : Int) (hb : 1 ≤ b) (ns : List Int) (L R : Int) (h : ∀ d ∈ ns, 0 ≤ d ∧ d < b) : 0 ≤ sg b ns L R ∧ sg b ns L R < b ^ (R - L).toNat := by
  obtain ⟨h1, h2⟩ := seg_bound b hb ((ns.drop L.toNat).take (R - L).toNat) fun d hd => h d (List.mem_of_mem_drop (List.mem_of_mem_take hd))
  refine ⟨h1, Int.lt_of_lt_of_le h2 ?_⟩
  have l : ((ns.drop L.toNat).take (R - L).toNat).length ≤ (R - L).toNat := List.length_take_le ..
  exact pow_mono b hb l
theorem sg_all (b : Int) (ns : List Int) : sg b ns 0 ns.length = seg b ns := by
  unfold sg; simp
theorem pow_mulI (b : Int) (m n : Nat) : b ^ (m * n) = (b ^ m) ^ n := by
  induction n with
  | zero => simp
  | succ n ih => rw [Nat.mul_succ, Int.pow_add, ih, Int.pow_succ]
theorem shift_pow (n d : Int) (hn : 0 ≤ n) (hd : 0 ≤ d) : (2 : Int) ^ (d * n).toNat = (2 ^ n.toNat) ^ d.toNat := by
  rw [← pow_mulI]
  congr 1
  obtain ⟨a, rfl⟩ := Int.eq_ofNat_of_zero_le hn
  obtain ⟨c, rfl⟩ := Int.eq_ofNat_of_zero_le hd
  rw [← Int.natCast_mul]
  simp only [Int.toNat_natCast]
  exact Nat.mul_comm ..
theorem one_le_two_pow (k : Nat) : (1 : Int) ≤ 2 ^ k := pow_pos1 2 (by decide) k
theorem sg_small (n : Int) (hn : 1 ≤ n) (ns : List Int) (hnl : n * ns.length ≤ 60) (hds : ∀ d ∈ ns, 0 ≤ d ∧ d < 2 ^ n.toNat) (L R : Int) (h0 : 0 ≤ L) (h1 : L ≤ R) (h2 : R ≤ ns.length) :
    0 ≤ sg (2 ^ n.toNat) ns L R ∧ sg (2 ^ n.toNat) ns L R < 2 ^ 60 := by
  obtain ⟨a, b⟩ := sg_bound (2 ^ n.toNat) (one_le_two_pow _) ns L R hds
  refine ⟨a, Int.lt_of_lt_of_le b ?_⟩
  rw [← shift_pow n (R - L) (by omega) (by omega)]
  refine pow_mono 2 (by decide) ?_
  have : (R - L) * n ≤ ns.length * n := Int.mul_le_mul_of_nonneg_right (by omega) (by omega)
  rw [Int.mul_comm (ns.length : Int) n] at this
  omega
theorem sg_join (n : Int) (hn : 1 ≤ n) (ns : List Int) (L M R : Int) (h0 : 0 ≤ L) (h1 : L ≤ M) (h2 : M ≤ R) (h3 : R ≤ ns.length) :
    sg (2 ^ n.toNat) ns M R * 2 ^ ((M - L) * n).toNat + sg (2 ^ n.toNat) ns L M = sg (2 ^ n.toNat) ns L R := by
  rw [sg_split _ ns L M R h0 h1 h2 h3, shift_pow n (M - L) (by omega) (by omega), Int.mul_comm]
  omega
theorem shift_in (n d : Int) (hn : 1 ≤ n) (hn8 : n ≤ 8) (hd : 0 ≤ d) (hd16 : d ≤ 16) : 0 ≤ d * n ∧ d * n ≤ 1000000 := by
  have a : 0 ≤ d * n := Int.mul_nonneg hd (by omega)
  have b : d * n ≤ 16 * n := Int.mul_le_mul_of_nonneg_right hd16 (by omega)
  omega
end Mine
namespace Mine
open PySem PyProof.Rows
theorem and_high (x s : Nat) : x &&& (x / 2 ^ s * 2 ^ s) = x / 2 ^ s * 2 ^ s := by
  apply Nat.eq_of_testBit_eq
  intro i
  rw [Nat.testBit_and, ← Nat.shiftRight_eq_div_pow, ← Nat.shiftLeft_eq, Nat.testBit_shiftLeft, Nat.testBit_shiftRight]
  by_cases h : s ≤ i
  · have e : s + (i - s) = i := by omega
    simp [h, e]
  · simp [h]
theorem fdiv_pow (x : Int) (h : 0 ≤ x) (s : Nat) : x.fdiv (2 ^ s) = x / 2 ^ s := Int.fdiv_eq_ediv_of_nonneg _ (by have := one_le_two_pow s; omega)
theorem low_bits (x : Int) (h : 0 ≤ x) (s : Nat) : Builtin.bitXor x (x / 2 ^ s * 2 ^ s) = x % 2 ^ s := by
  have h2 := one_le_two_pow s
  have h3 : 0 ≤ x / 2 ^ s * 2 ^ s := Int.mul_nonneg (Int.ediv_nonneg h (by omega)) (by omega)
  rw [bitXor_and, bitAnd_pp h h3]
  have e : x.toNat &&& (x / 2 ^ s * 2 ^ s).toNat = (x / 2 ^ s * 2 ^ s).toNat := by
    obtain ⟨n, rfl⟩ := Int.eq_ofNat_of_zero_le h
    have e2 : ((n : Int) / 2 ^ s * 2 ^ s) = ((n / 2 ^ s * 2 ^ s : Nat) : Int) := by simp
    rw [e2, Int.toNat_natCast, Int.toNat_natCast]
    exact and_high n s
  rw [e]
  have e3 : (((x / 2 ^ s * 2 ^ s).toNat : Nat) : Int) = x / 2 ^ s * 2 ^ s := Int.toNat_of_nonneg h3
  rw [e3]
  have := Int.emod_add_mul_ediv x (2 ^ s)
  rw [Int.mul_comm (2 ^ s)] at this
  omega
/-- k figures of x, the ones first -/
def dg (b : Int) : Nat → Int → List Int
  | 0, _ => []
  | k + 1, x => (x % b) :: dg b k (x / b)
theorem dg_length (b : Int) (k : Nat) : ∀ x, (dg b k x).length = k := by
  induction k with
  | zero => intro x; rfl
  | succ k ih => intro x; simp [dg, ih]
theorem mod_div (x b c : Int) (hx : 0 ≤ x) (hb : 1 ≤ b) (hc : 1 ≤ c) : x % (b * c) / b = x / b % c := by
  obtain ⟨n, rfl⟩ := Int.eq_ofNat_of_zero_le hx
  obtain ⟨d, rfl⟩ := Int.eq_ofNat_of_zero_le (show 0 ≤ b by omega)
  obtain ⟨e, rfl⟩ := Int.eq_ofNat_of_zero_le (show 0 ≤ c by omega)
  have h := Nat.mod_mul_right_div_self n d e
  have h2 : ((n % (d * e) / d : Nat) : Int) = ((n / d % e : Nat) : Int) := by rw [h]
  simpa using h2
theorem dg_split (b : Int) (hb : 1 ≤ b) (j : Nat) : ∀ (i : Nat) (x : Int), 0 ≤ x → dg b (i + j) x = dg b i (x % b ^ i) ++ dg b j (x / b ^ i) := by
  intro i
  induction i with
  | zero => intro x hx; simp [dg]
  | succ i ih =>
    intro x hx
    have hp := pow_pos1 b hb i
    rw [show i + 1 + j = (i + j) + 1 by omega, dg, ih (x / b) (Int.ediv_nonneg hx (by omega)), dg]
    have e : b ^ (i + 1) = b * b ^ i := by rw [Int.pow_succ, Int.mul_comm]
    have e1 : x % b ^ (i + 1) % b = x % b := by rw [e]; exact Int.emod_emod_of_dvd x ⟨b ^ i, rfl⟩
    have e2 : x % b ^ (i + 1) / b = x / b % b ^ i := by rw [e]; exact mod_div x b (b ^ i) hx hb hp
    have e3 : x / b ^ (i + 1) = x / b / b ^ i := by rw [e, Int.ediv_ediv_of_nonneg (by omega)]
    rw [e1, e2, e3]; rfl
theorem dg_bound (b : Int) (hb : 1 ≤ b) (k : Nat) : ∀ x, ∀ d ∈ dg b k x, 0 ≤ d ∧ d < b := by
  induction k with
  | zero => intro x d hd; cases hd
  | succ k ih =>
    intro x d hd
    rcases List.mem_cons.mp hd with rfl | hd
    · exact ⟨Int.emod_nonneg _ (by omega), Int.emod_lt_of_pos _ (by omega)⟩
    · exact ih _ d hd
/-- what stands when the figures of x are written from L to R -/
def wr (b : Int) (ns : List Int) (x L R : Int) : List Int := ns.take L.toNat ++ dg b (R - L).toNat x ++ ns.drop R.toNat
theorem wr_length (b : Int) (ns : List Int) (x L R : Int) (h0 : 0 ≤ L) (h1 : L ≤ R) (h2 : R ≤ ns.length) : (wr b ns x L R).length = ns.length := by
  unfold wr
  rw [List.length_append, List.length_append, dg_length, List.length_take, List.length_drop]
  omega
theorem wr_one (b : Int) (ns : List Int) (x L : Int) (h0 : 0 ≤ L) (h1 : L < ns.length) (hx : 0 ≤ x) (hxb : x < b) : ns.set L.toNat x = wr b ns x L (L + 1) := by
  unfold wr
  have e : (L + 1 - L).toNat = 1 := by omega
  have e2 : (L + 1).toNat = L.toNat + 1 := by omega
  rw [e, e2, dg, dg, Int.emod_eq_of_lt hx hxb, List.set_eq_take_append_cons_drop, if_pos (by omega)]
  simp
theorem wr_two (b : Int) (hb : 1 ≤ b) (ns : List Int) (x L M R : Int) (h0 : 0 ≤ L) (h1 : L ≤ M) (h2 : M ≤ R) (h3 : R ≤ ns.length) (hx : 0 ≤ x) :
    wr b (wr b ns (x % b ^ (M - L).toNat) L M) (x / b ^ (M - L).toNat) M R = wr b ns x L R := by
  have hl := wr_length b ns (x % b ^ (M - L).toNat) L M h0 h1 (by omega)
  have e : (R - L).toNat = (M - L).toNat + (R - M).toNat := by omega
  have t1 : (wr b ns (x % b ^ (M - L).toNat) L M).take M.toNat = ns.take L.toNat ++ dg b (M - L).toNat (x % b ^ (M - L).toNat) := by
    unfold wr
    rw [List.take_left']
    rw [List.length_append, dg_length, List.length_take]; omega
  have t2 : (wr b ns (x % b ^ (M - L).toNat) L M).drop R.toNat = ns.drop R.toNat := by
    unfold wr
    have e4 : R.toNat = (ns.take L.toNat ++ dg b (M - L).toNat (x % b ^ (M - L).toNat)).length + (R - M).toNat := by
      rw [List.length_append, dg_length, List.length_take]; omega
    rw [e4, List.drop_append, List.drop_of_length_le (by omega), List.nil_append, Nat.add_sub_cancel_left, List.drop_drop]
    congr 1
    rw [List.length_append, dg_length, List.length_take]; omega
  show (wr b ns (x % b ^ (M - L).toNat) L M).take M.toNat ++ dg b (R - M).toNat (x / b ^ (M - L).toNat) ++ (wr b ns (x % b ^ (M - L).toNat) L M).drop R.toNat = _
  rw [t1, t2]
  show _ = ns.take L.toNat ++ dg b (R - L).toNat x ++ ns.drop R.toNat
  rw [e, dg_split b hb _ _ x hx]
  simp only [List.append_assoc]
theorem wr_all (b : Int) (ns : List Int) (x : Int) : wr b ns x 0 ns.length = dg b ns.length x := by
  unfold wr; simp
/-- how many figures _int2digits makes -/
def nd (n a : Int) : Nat := (((Builtin.Int.intBits a : Int) + n - 1).fdiv n).toNat
end Mine
namespace Mine
open PySem PySem.W PyProof.Rows PySem.Spec PySem.Calls
theorem clrD1 : True := by
  w_top off
  k_with_none
  trivial
local macro_rules | `(tactic| walk_at $s:str) => `(tactic| k_extra $s)
local macro_rules | `(tactic| walk_at "same") => `(tactic| repeat' (first | exact List.forall_mem_nil _ | refine List.forall_mem_cons.mpr ⟨by with_unfolding_all rfl, ?_⟩))
local macro_rules | `(tactic| walk_at "enterP") => `(tactic| k_dflt (refine' enterP ?kC0 ?kS0 ?k6 ?k7 ?k8 ?k9 ?kB ?_ ?c2 ?c3 ?c4 ?c5; (case kC0 => assumption); (case kS0 => assumption); (case k6 => k_is); (case k7 => k_is); (case k8 => decide); (case k9 => first | exact BindsTo.of_eq rfl | (refine' kp_binds ?kx ?ke; (case kx => exact Frag.In.keeps (Core.X (by assumption)) (by assumption)); (case ke => exact fun _ => rfl))); (case c5 => decide); (case kB => exact locs rfl); (case c2 => exact rfl); (case c3 => exact rfl); (case c4 => exact rfl); k_whole; intro L' h' X' T' C1' C2' F' N'; (try dsimp only); (try k_fold)))

def costP (a b : Str) : Int := if (a == b) = true then 0 else if (Txt.lower a == Txt.lower b) = true then 1 else 2
theorem subst_spec {w ls mean mg mb H0} (C : Core w ls mean mg mb H0) (a b : Str) (ta tb : Nat) (ha : a.length ≤ 4) (hb : b.length ≤ 4) :
    SpecP w H0 105 100 [.str a ta, .str b tb] (fun _ => True) (fun _ r _ => ∃ t, r = .int (costP a b) t) := by
  intro A s Q E st hh hd hu _ hret
  refine lift hh hd hu ?_
  walk_at "enterP"
  k_with_none
  k_steps
  all_goals (dsimp only; rename Fr _ _ _ _ => F; refine hret _ _ _ F.keep (intEq ?_); unfold costP; simp_all; done)

/-- the halving search: t i says that the place lies at or below i -/
def bis (t : Int → Bool) : Nat → Int → Int → Int
  | 0, lo, _ => lo
  | f + 1, lo, hi => if lo < hi then (if t ((lo + hi).fdiv 2) then bis t f lo ((lo + hi).fdiv 2) else bis t f ((lo + hi).fdiv 2 + 1) hi) else lo
theorem bis_stop (t : Int → Bool) (f : Nat) {lo hi : Int} (h : ¬ lo < hi) : bis t f lo hi = lo := by
  cases f with
  | zero => rfl
  | succ f => rw [bis, if_neg h]
theorem bis_low {t : Int → Bool} {f : Nat} {lo hi : Int} (h : lo < hi) (hf : hi - lo ≤ (f : Int)) (q : t ((lo + hi).fdiv 2) = true) : ∃ f' : Nat, (lo + hi).fdiv 2 - lo ≤ (f' : Int) ∧ bis t f' lo ((lo + hi).fdiv 2) = bis t f lo hi := by
  have e : (lo + hi).fdiv 2 = (lo + hi) / 2 := Int.fdiv_eq_ediv_of_nonneg _ (by omega)
  cases f with
  | zero => omega
  | succ f => exact ⟨f, by rw [e]; omega, by rw [bis, if_pos h, if_pos q]⟩
theorem bis_high {t : Int → Bool} {f : Nat} {lo hi : Int} (h : lo < hi) (hf : hi - lo ≤ (f : Int)) (q : t ((lo + hi).fdiv 2) = false) : ∃ f' : Nat, hi - ((lo + hi).fdiv 2 + 1) ≤ (f' : Int) ∧ bis t f' ((lo + hi).fdiv 2 + 1) hi = bis t f lo hi := by
  have e : (lo + hi).fdiv 2 = (lo + hi) / 2 := Int.fdiv_eq_ediv_of_nonneg _ (by omega)
  cases f with
  | zero => omega
  | succ f => exact ⟨f, by rw [e]; omega, by rw [bis, if_pos h, if_neg (by simp [q])]⟩
theorem bis_mid {lo hi : Int} (h : lo < hi) : lo ≤ (lo + hi).fdiv 2 ∧ (lo + hi).fdiv 2 < hi := by
  have e : (lo + hi).fdiv 2 = (lo + hi) / 2 := Int.fdiv_eq_ediv_of_nonneg _ (by omega)
  rw [e]; omega
abbrev bisR (ns : List Int) (x : Int) : Int := bis (fun i => decide (x < ns.getD i.toNat 0)) ns.length 0 ns.length
abbrev bisL (ns : List Int) (x : Int) : Int := bis (fun i => !decide (ns.getD i.toNat 0 < x)) ns.length 0 ns.length

theorem bisR_spec {w ls mean mg mb H0} (C : Core w ls mean mg mb H0) (l : Addr) (vs : List Value) (ns : List Int) (x : Int) (tx : Nat) (hi : IntsAre vs ns) (hn : ns.length ≤ 1000) (hx : x.natAbs < 2 ^ 40) :
    SpecP w H0 89 100 [.ref l, .int x tx] (fun h => h.IsList l vs.toArray) (fun _ r _ => ∃ t, r = .int (bisR ns x) t) := by
  intro A s Q E st hh hd hu hl hret
  refine lift hh hd hu ?_
  have hlen : ns.length < 2 ^ 62 := by omega
  walk_at "enterP"
  k_with_none
  k_with "exec While" => refine Hold.mk ?_
  k_steps
  rename Fr _ _ _ _ => F
  rename News _ _ _ _ => N
  refine whileS (σ := Int × Int × Nat × Nat) (fun _ => []) (fun c => [(PySem.Str.ofString "a", .ref l), (PySem.Str.ofString "x", .int x tx), (PySem.Str.ofString "lo", .int c.1 c.2.2.1), (PySem.Str.ofString "hi", .int c.2.1 c.2.2.2)])
    (fun c => 0 ≤ c.1 ∧ c.1 ≤ c.2.1 ∧ c.2.1 ≤ ns.length ∧ ∃ f : Nat, c.2.1 - c.1 ≤ f ∧ bis (fun i => decide (x < ns.getD i.toNat 0)) f c.1 c.2.1 = bisR ns x) (fun c => (c.2.1 - c.1).toNat) (0, (ns.length : Int), _, _) F N
    (by walk_at "same") ⟨by dsimp only; omega, by dsimp only; omega, by dsimp only; omega, ns.length, by dsimp only; omega, rfl⟩ ?_
  clear F N
  rintro ⟨lo, hi', t1, t2⟩ m h tk ⟨h0, h1, h2, f, h3, h4⟩ F N
  dsimp only at h0 h1 h2 h3 h4 F N
  k_steps
  · rename Fr _ _ _ _ => F1
    rename News _ _ _ _ => N1
    rename lo < hi' => hc
    rename x < _ => hq
    obtain ⟨f', a1, a2⟩ := bis_low hc h3 (t := fun i => decide (x < ns.getD i.toNat 0)) (by simpa using hq)
    have hm := bis_mid hc
    exact ⟨(lo, (lo + hi').fdiv 2, _, _), _, _, _, rfl, F1, N1, by walk_at "same", ⟨h0, hm.1, by dsimp only; omega, f', a1, a2.trans h4⟩, by dsimp only; omega⟩
  · rename Fr _ _ _ _ => F1
    rename News _ _ _ _ => N1
    rename lo < hi' => hc
    rename ¬ x < _ => hq
    obtain ⟨f', a1, a2⟩ := bis_high hc h3 (t := fun i => decide (x < ns.getD i.toNat 0)) (by simpa using hq)
    have hm := bis_mid hc
    exact ⟨((lo + hi').fdiv 2 + 1, hi', _, _), _, _, _, rfl, F1, N1, by walk_at "same", ⟨by dsimp only; omega, by dsimp only; omega, h2, f', a1, a2.trans h4⟩, by dsimp only; omega⟩
  · rename ¬ lo < hi' => hc
    dsimp only
    rename Fr _ _ _ _ => F1
    exact hret _ _ _ F1.keep (intEq (by rw [← h4, bis_stop _ _ hc]))
theorem bisL_spec {w ls mean mg mb H0} (C : Core w ls mean mg mb H0) (l : Addr) (vs : List Value) (ns : List Int) (x : Int) (tx : Nat) (hi : IntsAre vs ns) (hn : ns.length ≤ 1000) (hx : x.natAbs < 2 ^ 40) :
    SpecP w H0 98 100 [.ref l, .int x tx] (fun h => h.IsList l vs.toArray) (fun _ r _ => ∃ t, r = .int (bisL ns x) t) := by
  intro A s Q E st hh hd hu hl hret
  refine lift hh hd hu ?_
  have hlen : ns.length < 2 ^ 62 := by omega
  walk_at "enterP"
  k_with_none
  k_with "exec While" => refine Hold.mk ?_
  k_steps
  rename Fr _ _ _ _ => F
  rename News _ _ _ _ => N
  refine whileS (σ := Int × Int × Nat × Nat) (fun _ => []) (fun c => [(PySem.Str.ofString "a", .ref l), (PySem.Str.ofString "x", .int x tx), (PySem.Str.ofString "lo", .int c.1 c.2.2.1), (PySem.Str.ofString "hi", .int c.2.1 c.2.2.2)])
    (fun c => 0 ≤ c.1 ∧ c.1 ≤ c.2.1 ∧ c.2.1 ≤ ns.length ∧ ∃ f : Nat, c.2.1 - c.1 ≤ f ∧ bis (fun i => !decide (ns.getD i.toNat 0 < x)) f c.1 c.2.1 = bisL ns x) (fun c => (c.2.1 - c.1).toNat) (0, (ns.length : Int), _, _) F N
    (by walk_at "same") ⟨by dsimp only; omega, by dsimp only; omega, by dsimp only; omega, ns.length, by dsimp only; omega, rfl⟩ ?_
  clear F N
  rintro ⟨lo, hi', t1, t2⟩ m h tk ⟨h0, h1, h2, f, h3, h4⟩ F N
  dsimp only at h0 h1 h2 h3 h4 F N
  k_steps
  · rename Fr _ _ _ _ => F1
    rename News _ _ _ _ => N1
    rename lo < hi' => hc
    rename _ < x => hq
    obtain ⟨f', a1, a2⟩ := bis_high hc h3 (t := fun i => !decide (ns.getD i.toNat 0 < x)) (by simpa using hq)
    have hm := bis_mid hc
    exact ⟨((lo + hi').fdiv 2 + 1, hi', _, _), _, _, _, rfl, F1, N1, by walk_at "same", ⟨by dsimp only; omega, by dsimp only; omega, h2, f', a1, a2.trans h4⟩, by dsimp only; omega⟩
  · rename Fr _ _ _ _ => F1
    rename News _ _ _ _ => N1
    rename lo < hi' => hc
    rename ¬ _ < x => hq
    obtain ⟨f', a1, a2⟩ := bis_low hc h3 (t := fun i => !decide (ns.getD i.toNat 0 < x)) (by simpa using hq)
    have hm := bis_mid hc
    exact ⟨(lo, (lo + hi').fdiv 2, _, _), _, _, _, rfl, F1, N1, by walk_at "same", ⟨h0, hm.1, by dsimp only; omega, f', a1, a2.trans h4⟩, by dsimp only; omega⟩
  · rename ¬ lo < hi' => hc
    dsimp only
    rename Fr _ _ _ _ => F1
    exact hret _ _ _ F1.keep (intEq (by rw [← h4, bis_stop _ _ hc]))
end Mine
namespace Mine
open PySem PySem.W PyProof.Rows PySem.Spec PySem.Calls
theorem clrD2 : True := by
  w_top off
  k_with_none
  trivial
local macro_rules | `(tactic| walk_at $s:str) => `(tactic| k_extra $s)
local macro_rules | `(tactic| walk_at "same") => `(tactic| repeat' (first | exact List.forall_mem_nil _ | refine List.forall_mem_cons.mpr ⟨by with_unfolding_all rfl, ?_⟩))
local macro_rules | `(tactic| walk_at "enterP") => `(tactic| k_dflt (refine' enterP ?kC0 ?kS0 ?k6 ?k7 ?k8 ?k9 ?kB ?_ ?c2 ?c3 ?c4 ?c5; (case kC0 => assumption); (case kS0 => assumption); (case k6 => k_is); (case k7 => k_is); (case k8 => decide); (case k9 => first | exact BindsTo.of_eq rfl | (refine' kp_binds ?kx ?ke; (case kx => exact Frag.In.keeps (Core.X (by assumption)) (by assumption)); (case ke => exact fun _ => rfl))); (case c5 => decide); (case kB => exact locs rfl); (case c2 => exact rfl); (case c3 => exact rfl); (case c4 => exact rfl); k_whole; intro L' h' X' T' C1' C2' F' N'; (try dsimp only); (try k_fold)))
local macro_rules | `(tactic| walk_at "enterX0") => `(tactic| k_dflt (refine' enterX0 ?kC0 ?kS0 ?ko ?kd ?k7 ?k8 ?k9 ?kB ?_ ?c2 ?c3 ?c4 ?c5; (case kC0 => assumption); (case kS0 => assumption); (case ko => assumption); (case kd => exact rfl); (case k7 => assumption); (case k8 => first | decide | (show _ < 1000; omega)); (case k9 => exact BindsTo.of_eq rfl); (case c5 => decide); (case kB => exact locs rfl); (case c2 => exact rfl); (case c3 => exact rfl); (case c4 => exact rfl); k_whole; intro L' h' X' T' C1' C2' F' N'; (try dsimp only); (try k_fold)))

def innerParts (K : Frag) (f : Addr) : Option (Arguments × List Stmt × Scope) := match K.lookup f with
  | some ⟨_, _, .func fd, _⟩ => (match fd.body with
    | .stmts b => b.findSome? fun x => (match x with
      | .FunctionDef _ a b _ _ _ s _ _ _ => some (a, b, s)
      | _ => none)
    | _ => none)
  | _ => none
section
variable {M : Model} {A : Around} {E : Value → Shared → Prop} {s : Shared} {h₀ : Heap} {L a : Addr} {m : Str → Option Value} {cn : Str} {cs : Scope} {ccd : Value} {cl : List (Str × Addr)}
  {x : Str} {pos : Pos} {v : Value} {Q : Value → Shared → Prop} {c : Addr} {o : Obj}
theorem nameX_FB (F : Fr h₀ L s.heap m) (hc : cl.lookup x = some c) (hm : h₀.get? c = some o) (hd : o.data = .cell (some v)) (h : Q v s)
    (hk : cs.kind = .function := by rfl) (hx : (envX cn cs L a ccd cl).kindOf x = some .free := by rfl) (hb : (x == ("__debug__" : Str)) = false := by decide) (hn : (x == ("__classdict__" : Str)) = false := by decide) :
    wpAny M A (eval (.Name x pos) (envX cn cs L a ccd cl)) Q E s := wpAny_Name (wpAny_loadName_free hk hx hc ⟨o, F.keep _ _ hm, hd⟩ h hn) hb
theorem FnAt.ofB {q : Addr} {h : Heap} {oc : Value} {od : Option Addr} {fd : FuncData} {sl : Array (Option Value)} (F : Fr h₀ L h m) (e : h₀.get? q = some (⟨oc, od, .func fd, sl⟩ : Obj)) : FnAt q h := ⟨oc, od, fd, sl, F.keep _ _ e⟩
end
structure InD (h : Heap) (f cD cN cI ld : Addr) (clos : List (Str × Addr)) (params : Arguments) (body : List Stmt) (scope : Scope) (n : Int) (vs : List Value) : Prop where
  fn : ∃ doc pm c' ctv, h.get? f = some (fnMade (PySem.Str.ofString "inner") (PySem.Str.ofString "_digits2int.<locals>.inner") params body scope clos doc pm c' ctv) ∧ h.CodeRec (.ref c') (PySem.Str.ofString "_digits2int.<locals>.inner")
  cl : clos = [(PySem.Str.ofString "n", cN), (PySem.Str.ofString "inner", cI), (PySem.Str.ofString "digits", cD)]
  d : ∃ o, h.get? cD = some o ∧ o.data = .cell (some (.ref ld))
  i : ∃ o, h.get? cI = some o ∧ o.data = .cell (some (.ref f))
  n : ∃ o t, h.get? cN = some o ∧ o.data = .cell (some (.int n t))
  l : h.IsList ld vs.toArray
theorem InD.keep {h h' : Heap} {f cD cN cI ld : Addr} {clos : List (Str × Addr)} {params : Arguments} {body : List Stmt} {scope : Scope} {n : Int} {vs : List Value} (P : InD h f cD cN cI ld clos params body scope n vs) (k : Keep h h') :
    InD h' f cD cN cI ld clos params body scope n vs := by
  obtain ⟨⟨doc, pm, c', ctv, e1, e2⟩, e3, ⟨oD, e4, e5⟩, ⟨oI, e6, e7⟩, ⟨oN, tN, e8, e9⟩, e10⟩ := P
  obtain ⟨ol, a1, a2⟩ := e10
  obtain ⟨rc, oc, vs', t, r0, r1, r2, r3⟩ := e2
  exact ⟨⟨doc, pm, c', ctv, k _ _ e1, ⟨rc, oc, vs', t, r0, k _ _ r1, r2, r3⟩⟩, e3, ⟨oD, k _ _ e4, e5⟩, ⟨oI, k _ _ e6, e7⟩, ⟨oN, tN, k _ _ e8, e9⟩, ⟨ol, k _ _ a1, a2⟩⟩
theorem mid_in {L R : Int} (h0 : 0 ≤ L) (h1 : L < R) (h : L + 1 ≠ R) : L < (L + R).fdiv (2 ^ Int.toNat 1) ∧ (L + R).fdiv (2 ^ Int.toNat 1) < R := by
  have e : (L + R).fdiv (2 ^ Int.toNat 1) = (L + R) / 2 := Int.fdiv_eq_ediv_of_nonneg _ (by decide)
  rw [e]; omega
theorem inD_spec {w ls mean mg mb H0} (C : Core w ls mean mg mb H0) (f cD cN cI ld : Addr) (clos : List (Str × Addr)) (params : Arguments) (body : List Stmt) (scope : Scope) (hb : innerParts (hd.heap_1 w.params) 66 = some (params, body, scope))
    (n : Int) (hn0 : 1 ≤ n) (hn8 : n ≤ 8) (vs : List Value) (ns : List Int) (hi : IntsAre vs ns) (hlen : ns.length ≤ 16) (hnl : n * ns.length ≤ 60) (hds : ∀ d ∈ ns, 0 ≤ d ∧ d < 2 ^ n.toNat) (k : Nat) : ∀ (L R : Int) (tL tR : Nat), k ≤ 100 → 0 ≤ L → L < R → R ≤ ns.length → R - L ≤ k →
    SpecP w H0 f (300 - k) [.int L tL, .int R tR] (fun h => InD h f cD cN cI ld clos params body scope n vs) (fun _ r _ => ∃ t, r = .int (sg (2 ^ n.toNat) ns L R) t) := by
  induction k with
  | zero => intro L R tL tR hk h0 h1 h2 h3; omega
  | succ k ih =>
  intro L R tL tR hk h0 h1 h2 h3
  intro A s Q E st hh hd hu P hret
  refine lift hh hd hu ?_
  have P0 := P
  obtain ⟨⟨doc, pm, c', ctv, e1, e2⟩, e3, ⟨oD, e4, e5⟩, ⟨oI, e6, e7⟩, ⟨oN, tN, e8, e9⟩, e10⟩ := P
  subst e3
  have hl := e10
  obtain ⟨rfl, rfl, rfl⟩ : _ ∧ _ ∧ _ := by
    have := hb
    exact ⟨by exact (Prod.mk.inj (Option.some.inj this)).1, (Prod.mk.inj (Prod.mk.inj (Option.some.inj this)).2).1, (Prod.mk.inj (Prod.mk.inj (Option.some.inj this)).2).2⟩
  have hM := mid_in h0 h1
  walk_at "enterX0"
  k_with_none
  k_with "eval Name" => (k_dflt (refine' nameX_FB ?F ?c ?m ?d ?_ ?a ?b; (case a => rfl); (case b => rfl); (case F => k_asm); (case c => rfl); (case m => assumption); (case d => assumption); k_whole))
  k_with "callWith ref" => (k_dflt (refine' callWith_F ?k1 ?_; (case k1 => exact FnAt.ofB (by k_asm) (by assumption)); k_whole))
  k_with "FnAt" => exact FnAt.ofB (by k_asm) (by assumption)
  k_with "call ref" => (have hM' := hM (by assumption); rename Fr _ _ _ _ => F0; rename News _ _ _ _ => N0; refine SpecP.use (ih _ _ _ _ ?a0 ?a1 ?a2 ?a3 ?a4) F0 N0 st rfl ?a5 ?a6 ?a7 ?_; (case a0 => omega); (case a1 => omega); (case a2 => omega); (case a3 => omega); (case a4 => omega); (case a5 => show (300 - (k + 1)) + 400 + 1 ≤ _; omega); (case a6 => show 10 * (300 - (k + 1)) + 3 ≤ _; omega); (case a7 => exact P0.keep F0.keep); (rintro r h' tk kp F1 N1 ⟨t, rfl⟩; clear F0 N0; dsimp only))
  k_with "binaryOp LShift int int" => (have hM' := hM (by assumption); have hS := shift_in n ((L + R).fdiv (2 ^ Int.toNat 1) - L) hn0 hn8 (by omega) (by omega); have hV := sg_small n hn0 ns hnl hds ((L + R).fdiv (2 ^ Int.toNat 1)) R (by omega) (by omega) h2; refine lshift_int_small hS.1 hS.2 (by omega) ?_)
  k_steps
  · rename L + 1 = R => hq
    rename Fr _ _ _ _ => F1
    dsimp only
    subst hq
    exact hret _ _ _ F1.keep (intEq (sg_one _ _ _ h0 (by omega)).symm)
  · have hM' := hM (by assumption)
    rename Fr _ _ _ _ => F1
    try dsimp only
    exact hret _ _ _ F1.keep (intEq (sg_join n hn0 ns L _ R h0 (by omega) (by omega) h2))
end Mine
namespace Mine
open PySem PySem.W PyProof.Rows PySem.Spec PySem.Calls
theorem clrD3 : True := by
  w_top off
  k_with_none
  trivial
local macro_rules | `(tactic| walk_at $s:str) => `(tactic| k_extra $s)
local macro_rules | `(tactic| walk_at "same") => `(tactic| repeat' (first | exact List.forall_mem_nil _ | refine List.forall_mem_cons.mpr ⟨by with_unfolding_all rfl, ?_⟩))
local macro_rules | `(tactic| walk_at "enterP") => `(tactic| k_dflt (refine' enterP ?kC0 ?kS0 ?k6 ?k7 ?k8 ?k9 ?kB ?_ ?c2 ?c3 ?c4 ?c5; (case kC0 => assumption); (case kS0 => assumption); (case k6 => k_is); (case k7 => k_is); (case k8 => decide); (case k9 => first | exact BindsTo.of_eq rfl | (refine' kp_binds ?kx ?ke; (case kx => exact Frag.In.keeps (Core.X (by assumption)) (by assumption)); (case ke => exact fun _ => rfl))); (case c5 => decide); (case kB => exact locs rfl); (case c2 => exact rfl); (case c3 => exact rfl); (case c4 => exact rfl); k_whole; intro L' h' X' T' C1' C2' F' N'; (try dsimp only); (try k_fold)))
local macro_rules | `(tactic| walk_at "enterX0") => `(tactic| k_dflt (refine' enterX0 ?kC0 ?kS0 ?ko ?kd ?k7 ?k8 ?k9 ?kB ?_ ?c2 ?c3 ?c4 ?c5; (case kC0 => assumption); (case kS0 => assumption); (case ko => assumption); (case kd => exact rfl); (case k7 => assumption); (case k8 => first | decide | (show _ < 1000; omega)); (case k9 => exact BindsTo.of_eq rfl); (case c5 => decide); (case kB => exact locs rfl); (case c2 => exact rfl); (case c3 => exact rfl); (case c4 => exact rfl); k_whole; intro L' h' X' T' C1' C2' F' N'; (try dsimp only); (try k_fold)))
local macro_rules | `(tactic| walk_at "enterC") => `(tactic| k_dflt (refine' enterC ?kC0 ?kS0 ?kn ?kt ?k6 ?k7 ?k8 ?k9 ?kB ?kD ?_ ?c2 ?c3 ?c4; (case kC0 => assumption); (case kS0 => assumption); (case kn => assumption); (case kt => assumption); (case k6 => k_is); (case k7 => k_is); (case k8 => decide); (case k9 => first | exact BindsTo.of_eq rfl | (refine' kp_binds ?kx ?ke; (case kx => exact Frag.In.keeps (Core.X (by assumption)) (by assumption)); (case ke => exact fun _ => rfl))); (case kB => exact rfl); (case kD => decide +kernel); (case c2 => exact rfl); (case c3 => exact rfl); (case c4 => exact rfl); k_whole; intro g' L' h' tk' cells' G' X' T' C1' C2' F' N' Y' l1; (try k_lt l1); k_cells Y'; (try simp only [List.cons_append, List.nil_append] at N'); (try dsimp only); (try k_fold)))

def SpecT (w : World) (H0 : Heap) (P : Addr) (Full : Heap → Prop) (f : Addr) (D : Nat) (vs : List Value) (Pre : Heap → Prop) (Post : Heap → Value → Heap → Prop) : Prop :=
  ∀ (A : Around) (s : Shared) (Q E : Value → Shared → Prop), H0.StaysIn s.heap → A.handled = none → A.depth ≤ D + 400 → A.units ≤ 10 * D → (s.heap.get? P = some (tabObj #[]) ∨ Full s.heap) → Pre s.heap →
    (∀ r h' tk, (∀ b o, b ≠ P → s.heap.get? b = some o → h'.get? b = some o) → Full h' → (Full s.heap → Keep s.heap h') → Post s.heap r h' → Q r { s with heap := h', toks := tk }) → wpAny (model pg w) A (call (.ref f) vs) Q E s
def Full61 (h : Heap) : Prop := ∃ c, h.get? 61 = some (tabObj #[rawInt 51, rawInt 4, .ref c]) ∧ h.CodeRec (.ref c) (PySem.Str.ofString "_digits2int.<locals>.inner")

/-- 61 is filled, and what fills it is new -/
def Fresh61 (h h' : Heap) : Prop := ∃ c, c ≠ 61 ∧ h.get? c = none ∧ h'.get? 61 = some (tabObj #[rawInt 51, rawInt 4, .ref c]) ∧ h'.CodeRec (.ref c) (PySem.Str.ofString "_digits2int.<locals>.inner")
theorem Fresh61.full {h h' : Heap} (x : Fresh61 h h') : Full61 h' := let ⟨c, _, _, a, b⟩ := x; ⟨c, a, b⟩
theorem Gd.freshU {H0 h g h' : Heap} {o : Obj} (G : Gd H0 h [(61, o)] g) (x : Fresh61 g h') : Fresh61 h h' := by
  obtain ⟨c, a, b, r⟩ := x
  refine ⟨c, a, ?_, r⟩
  cases q : h.get? c with
  | none => rfl
  | some o2 => rw [G.sup _ _ (by simpa using a) q] at b; cases b
theorem fresh_of {H0 h g h' : Heap} {o oc : Obj} {L c : Addr} {news : List (Addr × Obj)} {vs : Array Value} {t : Tok} (G : Gd H0 h [(61, o)] g) (N : News g L h' news) (m2 : (61, tabObj #[rawInt 51, rawInt 4, .ref c]) ∈ news) (m1 : (c, oc) ∈ news) (hd : oc.data = .fields vs)
    (hv : vs[1]? = some (.str (PySem.Str.ofString "_digits2int.<locals>.inner") t)) : Fresh61 h h' := by
  refine G.freshU ⟨c, fun e => ?_, (N _ m1).2.2, (N _ m2).1, codeRec_news N m1 hd hv⟩
  subst e
  have e1 := (N _ m1).1
  rw [(N _ m2).1] at e1
  cases e1
  cases hd
  cases hv
theorem keep61 {H0 h g h' : Heap} {L : Addr} {m : Str → Option Value} {P : Addr} {o : Obj} (e : h.get? P = some o) (G : Gd H0 h [(P, o)] g) (F : Fr g L h' m) (e' : h'.get? P = some o) : Keep h h' := fun b x q => by
  by_cases hb : b = P
  · subst hb
    rw [e] at q
    rw [e', q]
  · exact F.keep _ _ (G.sup _ _ (by simpa using hb) q)
theorem d2i_spec {w ls mean mg mb H0} (C : Core w ls mean mg mb H0) (l : Addr) (n : Int) (tn : Nat) (hn0 : 1 ≤ n) (hn8 : n ≤ 8) (vs : List Value) (ns : List Int) (hi : IntsAre vs ns) (hlen : ns.length ≤ 16) (hnl : n * ns.length ≤ 60) (hds : ∀ d ∈ ns, 0 ≤ d ∧ d < 2 ^ n.toNat) :
    SpecT w H0 61 Full61 66 190 [.ref l, .int n tn] (fun h => h.IsList l vs.toArray) (fun h r h' => (∃ t, r = .int (seg (2 ^ n.toNat) ns) t) ∧ (h.get? 61 = some (tabObj #[]) → Fresh61 h h')) := by
  intro A s Q E st hh hd hu hT hl hret
  refine lift hh hd hu ?_
  have hl2 : ns.length < 2 ^ 62 := by omega
  rcases hT with hT | hT
  · have kn : ∀ p ∈ [((61 : Addr), tabObj #[])], H0.get? p.1 = none := List.forall_mem_cons.mpr ⟨C.n61, List.forall_mem_nil _⟩
    have kt : ∀ p ∈ [((61 : Addr), tabObj #[])], s.heap.get? p.1 = some p.2 := List.forall_mem_cons.mpr ⟨hT, List.forall_mem_nil _⟩
    walk_at "enterC"
    rename Gd _ _ _ _ => G
    have hlg := G.list kt hl (by intro p hp; rw [List.mem_singleton.mp hp]; intro q; cases q)
    k_with_none
    k_with "call ref" => refine Hold.mk ?_
    k_steps
    · show wpAny _ _ _ _ _ _
      rename Fr _ _ _ _ => F0
      rename News _ _ _ _ => N0
      refine' SpecP.use (inD_spec C _ _ _ _ l _ _ _ _ ?hb n hn0 hn8 vs ns hi hlen hnl hds ns.length 0 ns.length _ _ (by omega) (by omega) (by omega) (by omega) (by omega)) F0 N0 G.st rfl ?a5 ?a6 ?a7 ?_
      case a5 => show 190 + 400 + 1 ≤ _; omega
      case a6 => show 10 * 190 + 3 ≤ _; omega
      case a7 =>
        refine' ⟨⟨_, _, _, _, N0.get (by k_mem), codeRec_news N0 (by k_mem) (by assumption) (by assumption)⟩, rfl, ?_, ?_, ?_, hlg.at fun o e => F0.keep _ _ e⟩
        · exact ⟨_, N0.get (by k_mem), by assumption⟩
        · exact ⟨_, N0.get (by k_mem), by assumption⟩
        · exact ⟨_, _, N0.get (by k_mem), by assumption⟩
      case hb => rfl
      rintro r h' tk kp F1 N1 ⟨t, rfl⟩
      dsimp only
      k_steps
      try dsimp only
      exact hret _ _ _ (fun b o hb e => F1.keep _ _ (G.sup _ _ (by simpa using hb) e)) ⟨_, N1.get (by k_mem), codeRec_news N1 (by k_mem) (by assumption) (by assumption)⟩ (fun q => by obtain ⟨c, q, _⟩ := q; rw [hT] at q; cases q) ⟨intEq (sg_all _ _), fun _ => fresh_of G N1 (by k_mem) (by k_mem) (by assumption) (by assumption)⟩
    · rename Fr _ _ _ _ => F1
      rename News _ _ _ _ => N1
      try dsimp only
      have e : ns = [] := List.length_eq_zero_iff.mp (by omega)
      exact hret _ _ _ (fun b o hb e => F1.keep _ _ (G.sup _ _ (by simpa using hb) e)) ⟨_, N1.get (by k_mem), codeRec_news N1 (by k_mem) (by assumption) (by assumption)⟩ (fun q => by obtain ⟨c, q, _⟩ := q; rw [hT] at q; cases q) ⟨intEq (by rw [e]; rfl), fun _ => fresh_of G N1 (by k_mem) (by k_mem) (by assumption) (by assumption)⟩
  · obtain ⟨c0, hT, hT2⟩ := id hT
    have kn : ∀ p ∈ [((61 : Addr), tabObj #[rawInt 51, rawInt 4, .ref c0])], H0.get? p.1 = none := List.forall_mem_cons.mpr ⟨C.n61, List.forall_mem_nil _⟩
    have kt : ∀ p ∈ [((61 : Addr), tabObj #[rawInt 51, rawInt 4, .ref c0])], s.heap.get? p.1 = some p.2 := List.forall_mem_cons.mpr ⟨hT, List.forall_mem_nil _⟩
    walk_at "enterC"
    rename Gd _ _ _ _ => G
    have hlg := G.list kt hl (by intro p hp; rw [List.mem_singleton.mp hp]; intro q; cases q)
    have hT3 := G.codeRec hT (by intro s t q; cases q) hT2
    k_with_none
    k_with "call ref" => refine Hold.mk ?_
    k_steps
    · show wpAny _ _ _ _ _ _
      rename Fr _ _ _ _ => F0
      rename News _ _ _ _ => N0
      refine' SpecP.use (inD_spec C _ _ _ _ l _ _ _ _ ?hb n hn0 hn8 vs ns hi hlen hnl hds ns.length 0 ns.length _ _ (by omega) (by omega) (by omega) (by omega) (by omega)) F0 N0 G.st rfl ?a5 ?a6 ?a7 ?_
      case a5 => show 190 + 400 + 1 ≤ _; omega
      case a6 => show 10 * 190 + 3 ≤ _; omega
      case a7 =>
        refine' ⟨⟨_, _, _, _, N0.get (by k_mem), codeRec_keep hT3 F0.keep⟩, rfl, ?_, ?_, ?_, hlg.at fun o e => F0.keep _ _ e⟩
        · exact ⟨_, N0.get (by k_mem), by assumption⟩
        · exact ⟨_, N0.get (by k_mem), by assumption⟩
        · exact ⟨_, _, N0.get (by k_mem), by assumption⟩
      case hb => rfl
      rintro r h' tk kp F1 N1 ⟨t, rfl⟩
      dsimp only
      k_steps
      try dsimp only
      have hk : Keep s.heap h' := keep61 hT G F1 (N1.get (by k_mem))
      exact hret _ _ _ (fun b o _ e => hk b o e) ⟨c0, hk _ _ hT, codeRec_keep hT2 hk⟩ (fun _ => hk) ⟨intEq (sg_all _ _), fun he => by rw [hT] at he; cases he⟩
    · rename Fr _ _ _ _ => F1
      rename News _ _ _ _ => N1
      try dsimp only
      have e : ns = [] := List.length_eq_zero_iff.mp (by omega)
      have hk : Keep s.heap _ := keep61 hT G F1 (N1.get (by k_mem))
      exact hret _ _ _ (fun b o _ e => hk b o e) ⟨c0, hk _ _ hT, codeRec_keep hT2 hk⟩ (fun _ => hk) ⟨intEq (by rw [e]; rfl), fun he => by rw [hT] at he; cases he⟩
end Mine
namespace Mine
open PySem PySem.W PyProof.Rows PySem.Spec PySem.Calls
theorem clrD4 : True := by
  w_top off
  k_with_none
  trivial
local macro_rules | `(tactic| walk_at $s:str) => `(tactic| k_extra $s)
local macro_rules | `(tactic| walk_at "same") => `(tactic| repeat' (first | exact List.forall_mem_nil _ | refine List.forall_mem_cons.mpr ⟨by with_unfolding_all rfl, ?_⟩))
local macro_rules | `(tactic| walk_at "enterP") => `(tactic| k_dflt (refine' enterP ?kC0 ?kS0 ?k6 ?k7 ?k8 ?k9 ?kB ?_ ?c2 ?c3 ?c4 ?c5; (case kC0 => assumption); (case kS0 => assumption); (case k6 => k_is); (case k7 => k_is); (case k8 => decide); (case k9 => first | exact BindsTo.of_eq rfl | (refine' kp_binds ?kx ?ke; (case kx => exact Frag.In.keeps (Core.X (by assumption)) (by assumption)); (case ke => exact fun _ => rfl))); (case c5 => decide); (case kB => exact locs rfl); (case c2 => exact rfl); (case c3 => exact rfl); (case c4 => exact rfl); k_whole; intro L' h' X' T' C1' C2' F' N'; (try dsimp only); (try k_fold)))
local macro_rules | `(tactic| walk_at "enterX0") => `(tactic| k_dflt (refine' enterX0 ?kC0 ?kS0 ?ko ?kd ?k7 ?k8 ?k9 ?kB ?_ ?c2 ?c3 ?c4 ?c5; (case kC0 => assumption); (case kS0 => assumption); (case ko => assumption); (case kd => exact rfl); (case k7 => assumption); (case k8 => first | decide | (show _ < 1000; omega)); (case k9 => exact BindsTo.of_eq rfl); (case c5 => decide); (case kB => exact locs rfl); (case c2 => exact rfl); (case c3 => exact rfl); (case c4 => exact rfl); k_whole; intro L' h' X' T' C1' C2' F' N'; (try dsimp only); (try k_fold)))
local macro_rules | `(tactic| walk_at "enterC") => `(tactic| k_dflt (refine' enterC ?kC0 ?kS0 ?kn ?kt ?k6 ?k7 ?k8 ?k9 ?kB ?kD ?_ ?c2 ?c3 ?c4; (case kC0 => assumption); (case kS0 => assumption); (case kn => assumption); (case kt => assumption); (case k6 => k_is); (case k7 => k_is); (case k8 => decide); (case k9 => first | exact BindsTo.of_eq rfl | (refine' kp_binds ?kx ?ke; (case kx => exact Frag.In.keeps (Core.X (by assumption)) (by assumption)); (case ke => exact fun _ => rfl))); (case kB => exact rfl); (case kD => decide +kernel); (case c2 => exact rfl); (case c3 => exact rfl); (case c4 => exact rfl); k_whole; intro g' L' h' tk' cells' G' X' T' C1' C2' F' N' Y' l1; (try k_lt l1); k_cells Y'; (try simp only [List.cons_append, List.nil_append] at N'); (try dsimp only); (try k_fold)))

structure InI (h : Heap) (f cA cN cI la : Addr) (clos : List (Str × Addr)) (params : Arguments) (body : List Stmt) (scope : Scope) (n : Int) : Prop where
  fn : ∃ doc pm c' ctv, h.get? f = some (fnMade (PySem.Str.ofString "inner") (PySem.Str.ofString "_int2digits.<locals>.inner") params body scope clos doc pm c' ctv) ∧ h.CodeRec (.ref c') (PySem.Str.ofString "_int2digits.<locals>.inner")
  cl : clos = [(PySem.Str.ofString "n", cN), (PySem.Str.ofString "inner", cI), (PySem.Str.ofString "a_digits", cA)]
  a : ∃ o, h.get? cA = some o ∧ o.data = .cell (some (.ref la))
  i : ∃ o, h.get? cI = some o ∧ o.data = .cell (some (.ref f))
  n : ∃ o t, h.get? cN = some o ∧ o.data = .cell (some (.int n t))
theorem fr_but {g h h' : Heap} {L la : Addr} {o o' : Obj} {m : Str → Option Value} {news : List (Addr × Obj)} (F : Fr g L h m) (N : News g L h ((la, o) :: news)) (k : ∀ b x, b ≠ la → h.get? b = some x → h'.get? b = some x) (e : h'.get? la = some o')
    (hn : ∀ p ∈ news, p.1 ≠ la) : Fr g L h' m ∧ News g L h' ((la, o') :: news) := by
  obtain ⟨n1, n2, n3⟩ := N _ (.head _)
  obtain ⟨oL, es, ep, hL, r⟩ := F.ns
  refine ⟨⟨⟨oL, es, ep, k _ _ (Ne.symm n2) hL, r⟩, fun b x q => k b x (fun z => ?_) (F.keep b x q), F.above⟩, fun p hp => ?_⟩
  · rw [z] at q; rw [n3] at q; cases q
  · rcases List.mem_cons.mp hp with rfl | hp
    · exact ⟨e, n2, n3⟩
    · exact ⟨k _ _ (hn p hp) (N _ (.tail _ hp)).1, (N _ (.tail _ hp)).2⟩
theorem InI.but {h h' : Heap} {f cA cN cI la : Addr} {clos : List (Str × Addr)} {params : Arguments} {body : List Stmt} {scope : Scope} {n : Int} (P : InI h f cA cN cI la clos params body scope n) {its : Array Value} {e : Nat} (hla : h.get? la = some (listOf its e))
    (k : ∀ b x, b ≠ la → h.get? b = some x → h'.get? b = some x) : InI h' f cA cN cI la clos params body scope n := by
  obtain ⟨⟨doc, pm, c', ctv, e1, e2⟩, e3, ⟨oD, e4, e5⟩, ⟨oI, e6, e7⟩, ⟨oN, tN, e8, e9⟩⟩ := P
  obtain ⟨rc, oc, vs', t, r0, r1, r2, r3⟩ := e2
  have ne : ∀ {b : Addr} {x : Obj}, h.get? b = some x → (∀ a c, x.data ≠ .seq a c) → b ≠ la := fun q d z => by
    rw [z, hla] at q
    cases q
    exact d _ _ rfl
  exact ⟨⟨doc, pm, c', ctv, k _ _ (ne e1 (by intro a c q; cases q)) e1, ⟨rc, oc, vs', t, r0, k _ _ (ne r1 (by intro a c q; rw [r2] at q; cases q)) r1, r2, r3⟩⟩, e3, ⟨oD, k _ _ (ne e4 (by intro a c q; rw [e5] at q; cases q)) e4, e5⟩,
    ⟨oI, k _ _ (ne e6 (by intro a c q; rw [e7] at q; cases q)) e6, e7⟩, ⟨oN, tN, k _ _ (ne e8 (by intro a c q; rw [e9] at q; cases q)) e8, e9⟩⟩
/-- a call of inner: it writes into the list at la alone -/
def SpecI (w : World) (H0 : Heap) (f la : Addr) (D e : Nat) (b : Int) (x L R : Int) (Pre : Heap → Prop) : Prop :=
  ∀ (tx tL tR : Nat) (vs : List Value) (ns : List Int) (A : Around) (s : Shared) (Q E : Value → Shared → Prop), R ≤ ns.length → ns.length ≤ 16 → IntsAre vs ns → H0.StaysIn s.heap → H0.get? la = none → A.handled = none → A.depth ≤ D + 400 → A.units ≤ 10 * D → Pre s.heap → s.heap.get? la = some (listOf vs.toArray e) →
    (∀ h' tk vs', (∀ b o, b ≠ la → s.heap.get? b = some o → h'.get? b = some o) → h'.get? la = some (listOf vs'.toArray e) → IntsAre vs' (wr b ns x L R) → Q .none { s with heap := h', toks := tk }) →
    wpAny (model pg w) A (call (.ref f) [.int x tx, .int L tL, .int R tR]) Q E s
theorem up_bound (x : Int) (h : 0 ≤ x) (s : Nat) : 0 ≤ x.fdiv (2 ^ s) ∧ x.fdiv (2 ^ s) ≤ x := by
  rw [fdiv_pow x h]
  have := one_le_two_pow s
  exact ⟨Int.ediv_nonneg h (by omega), Int.ediv_le_self _ h⟩
theorem up_small {x : Int} (h : 0 ≤ x) (h2 : x < 2 ^ 60) (s : Nat) : (x.fdiv (2 ^ s)).natAbs < 2 ^ 64 := by
  have := up_bound x h s
  omega
theorem x_small {n x L R : Int} (hn0 : 1 ≤ n) (h1 : L < R) (hnl : n * (R - L) ≤ 60) (hxb : x < (2 ^ n.toNat) ^ (R - L).toNat) : Hid (x < 2 ^ 60) := by
  constructor
  refine Int.lt_of_lt_of_le hxb ?_
  rw [← shift_pow n (R - L) (by omega) (by omega)]
  refine pow_mono 2 (by decide) ?_
  rw [Int.mul_comm]; omega
theorem s_small {n L R : Int} {l : Nat} (hn0 : 1 ≤ n) (hn8 : n ≤ 8) (h0 : 0 ≤ L) (h1 : L < R) (h2 : R ≤ (l : Int)) (hl : l ≤ 16) : Hid (L + 1 ≠ R → 0 ≤ ((L + R).fdiv (2 ^ Int.toNat 1) - L) * n ∧ ((L + R).fdiv (2 ^ Int.toNat 1) - L) * n ≤ 1000000) :=
  ⟨fun q => shift_in n _ hn0 hn8 (by have := mid_in h0 h1 q; omega) (by have := mid_in h0 h1 q; omega)⟩
theorem two_parts {n x L R : Int} (hn0 : 1 ≤ n) (h0 : 0 ≤ L) (h1 : L < R) (hnl : n * (R - L) ≤ 60) (hx : 0 ≤ x) (hxb : x < (2 ^ n.toNat) ^ (R - L).toNat) (q : L + 1 ≠ R) (M : Int) (hM : M = (L + R).fdiv (2 ^ Int.toNat 1)) :
    (L < M ∧ M < R ∧ n * (M - L) ≤ 60 ∧ n * (R - M) ≤ 60) ∧
    Builtin.bitXor x (x.fdiv (2 ^ ((M - L) * n).toNat) * 2 ^ ((M - L) * n).toNat) = x % (2 ^ n.toNat) ^ (M - L).toNat ∧ x.fdiv (2 ^ ((M - L) * n).toNat) = x / (2 ^ n.toNat) ^ (M - L).toNat ∧
    (0 ≤ x % (2 ^ n.toNat) ^ (M - L).toNat ∧ x % (2 ^ n.toNat) ^ (M - L).toNat < (2 ^ n.toNat) ^ (M - L).toNat) ∧ 0 ≤ x / (2 ^ n.toNat) ^ (M - L).toNat ∧ x / (2 ^ n.toNat) ^ (M - L).toNat < (2 ^ n.toNat) ^ (R - M).toNat := by
  have hm := mid_in h0 h1 q
  rw [← hM] at hm
  have b1 : n * (M - L) ≤ n * (R - L) := Int.mul_le_mul_of_nonneg_left (by omega) (by omega)
  have b2 : n * (R - M) ≤ n * (R - L) := Int.mul_le_mul_of_nonneg_left (by omega) (by omega)
  have hb := one_le_two_pow n.toNat
  have hp := pow_pos1 (2 ^ n.toNat) hb (M - L).toNat
  refine ⟨⟨hm.1, hm.2, by omega, by omega⟩, ?_, ?_, ⟨Int.emod_nonneg _ (by omega), Int.emod_lt_of_pos _ (by omega)⟩, Int.ediv_nonneg hx (by omega), ?_⟩
  · rw [fdiv_pow x hx, low_bits x hx, shift_pow n (M - L) (by omega) (by omega)]
  · rw [fdiv_pow x hx, shift_pow n (M - L) (by omega) (by omega)]
  · refine Int.ediv_lt_of_lt_mul (by omega) ?_
    rw [← Int.pow_add, show (R - M).toNat + (M - L).toNat = (R - L).toNat by omega]
    exact hxb
theorem inI_spec {w ls mean mg mb H0} (C : Core w ls mean mg mb H0) (f cA cN cI la : Addr) (e : Nat) (clos : List (Str × Addr)) (params : Arguments) (body : List Stmt) (scope : Scope) (hb : innerParts (hd.heap_1 w.params) 59 = some (params, body, scope))
    (n : Int) (hn0 : 1 ≤ n) (hn8 : n ≤ 8) (k : Nat) : ∀ (x L R : Int), k ≤ 100 → 0 ≤ L → L < R → R - L ≤ k → n * (R - L) ≤ 60 → 0 ≤ x → x < (2 ^ n.toNat) ^ (R - L).toNat →
    SpecI w H0 f la (300 - k) e (2 ^ n.toNat) x L R (fun h => InI h f cA cN cI la clos params body scope n) := by
  induction k with
  | zero => intro x L R hk h0 h1 h3; omega
  | succ k ih =>
  intro x L R hk h0 h1 h3 hnl hx0 hxb
  intro tx tL tR vs ns A s Q E h2 hlen hi st hla0 hh hd hu P hla hret
  refine lift hh hd hu ?_
  have P0 := P
  obtain ⟨⟨doc, pm, c', ctv, e1, e2⟩, e3, ⟨oD, e4, e5⟩, ⟨oI, e6, e7⟩, ⟨oN, tN, e8, e9⟩⟩ := P
  subst e3
  obtain ⟨rfl, rfl, rfl⟩ : _ ∧ _ ∧ _ := by
    have := hb
    exact ⟨by exact (Prod.mk.inj (Option.some.inj this)).1, (Prod.mk.inj (Prod.mk.inj (Option.some.inj this)).2).1, (Prod.mk.inj (Prod.mk.inj (Option.some.inj this)).2).2⟩
  have hM := mid_in h0 h1
  have kn : ∀ p ∈ [(la, listOf vs.toArray e)], H0.get? p.1 = none := List.forall_mem_cons.mpr ⟨hla0, List.forall_mem_nil _⟩
  have kt : ∀ p ∈ [(la, listOf vs.toArray e)], s.heap.get? p.1 = some p.2 := List.forall_mem_cons.mpr ⟨hla, List.forall_mem_nil _⟩
  k_dflt (refine' enterX C st kn kt e1 rfl e2 ?k8 ?k9 ?kB ?_ ?c2 ?c3 ?c4 ?c5; (case k8 => show _ < 1000; omega); (case k9 => exact BindsTo.of_eq rfl); (case c5 => decide); (case kB => exact locs rfl); (case c2 => exact rfl); (case c3 => exact rfl); (case c4 => exact rfl); k_whole)
  intro g L' h' G X' T' C1' C2' F' N' l1
  k_lt l1
  have gk : ∀ {b : Addr} {x : Obj}, s.heap.get? b = some x → (∀ a c, x.data ≠ .seq a c) → g.get? b = some x := fun q d => G.sup _ _ (fun z => by
    have z2 := by simpa using z
    rw [z2, hla] at q
    cases q
    exact d _ _ rfl) q
  have i1 := gk e1 (by intro a c q; cases q)
  have i4 := gk e4 (by intro a c q; rw [e5] at q; cases q)
  have i6 := gk e6 (by intro a c q; rw [e7] at q; cases q)
  have i8 := gk e8 (by intro a c q; rw [e9] at q; cases q)
  try dsimp only
  try k_fold
  have hxs := x_small hn0 h1 hnl hxb
  have hS := s_small hn0 hn8 h0 h1 h2 hlen
  k_with_none
  k_with "eval Name" => (k_dflt (refine' nameX_FB ?F ?c ?m ?d ?_ ?a ?b; (case a => rfl); (case b => rfl); (case F => k_asm); (case c => rfl); (case m => assumption); (case d => assumption); k_whole))
  k_with "callWith ref" => (k_dflt (refine' callWith_F ?k1 ?_; (case k1 => exact FnAt.ofB (by k_asm) (by assumption)); k_whole))
  k_with "FnAt" => exact FnAt.ofB (by k_asm) (by assumption)
  k_with "call ref" => refine Hold.mk ?_
  k_with "binaryOp RShift int int" => with_reducible refine rshift_int (hS.out (by assumption)).1 ?_
  k_with "binaryOp LShift int int" => with_reducible refine lshift_int_small (hS.out (by assumption)).1 (hS.out (by assumption)).2 (up_small hx0 hxs.out _) ?_
  k_steps
  · rename L + 1 = R => hq
    rename Fr _ _ _ _ => F1
    rename News _ _ _ _ => N1
    rename IntsAre (List.set _ _ _) _ => hi1
    try dsimp only
    subst hq
    refine hret _ _ _ (fun b o hb e => F1.keep _ _ (G.sup _ _ (by simpa using hb) e)) (N1.get (by k_mem)) ?_
    rw [← wr_one _ _ _ _ h0 (by omega) hx0 (by rw [show (L + 1 - L).toNat = 1 by omega, Int.pow_succ, Int.pow_zero, Int.one_mul] at hxb; exact hxb)]
    exact hi1
  · show wpAny _ _ _ _ _ _
    have hq : L + 1 ≠ R := by assumption
    rename Fr _ _ _ _ => F0
    rename News _ _ _ _ => N0
    obtain ⟨⟨m1, m2, m3, m4⟩, p1, p2, ⟨p3, p4⟩, p5, p6⟩ := two_parts hn0 h0 h1 hnl hx0 hxb hq _ rfl
    rw [p1]
    refine' ih _ L _ ?_ h0 m1 ?_ m3 p3 p4 _ _ _ vs ns _ _ _ _ ?_ hlen hi (fun b o e => F0.keep b o (G.st b o e)) hla0 rfl ?_ ?_ (P0.but hla fun b o hb e => F0.keep _ _ (G.sup _ _ (by simpa using hb) e)) (N0.get (by k_mem)) ?_
    · omega
    · omega
    · omega
    · show (300 - (k + 1)) + 400 + 1 ≤ _; omega
    · show 10 * (300 - (k + 1)) + 3 ≤ _; omega
    intro h9 tk9 vs9 kp9 hla9 hi9
    have hl9 := wr_length (2 ^ n.toNat) ns (x % (2 ^ n.toNat) ^ ((L + R).fdiv (2 ^ Int.toNat 1) - L).toNat) L ((L + R).fdiv (2 ^ Int.toNat 1)) h0 (by omega) (by omega)
    obtain ⟨F9, N9⟩ := fr_but F0 N0 kp9 hla9 (List.forall_mem_nil _)
    clear F0 N0
    try dsimp only
    k_steps
    show wpAny _ _ _ _ _ _
    rename Fr _ _ _ _ => F8
    rename News _ _ _ _ => N8
    rw [p2]
    refine' ih _ _ R ?_ ?_ m2 ?_ m4 p5 p6 _ _ _ vs9 _ _ _ _ _ ?_ ?_ hi9 (fun b o e => F8.keep b o (G.st b o e)) hla0 rfl ?_ ?_ (P0.but hla fun b o hb e => F8.keep _ _ (G.sup _ _ (by simpa using hb) e)) (N8.get (by k_mem)) ?_
    · omega
    · omega
    · omega
    · rw [hl9]; exact h2
    · rw [hl9]; exact hlen
    · show (300 - (k + 1)) + 400 + 1 ≤ _; omega
    · show 10 * (300 - (k + 1)) + 3 ≤ _; omega
    intro h7 tk7 vs7 kp7 hla7 hi7
    obtain ⟨F7, N7⟩ := fr_but F8 N8 kp7 hla7 (List.forall_mem_nil _)
    clear F8 N8
    rw [wr_two _ (one_le_two_pow _) ns x L _ R h0 (by omega) (by omega) h2 hx0] at hi7
    try dsimp only
    k_steps
    try dsimp only
    rename Fr _ _ _ _ => F6
    rename News _ _ _ _ => N6
    exact hret _ _ _ (fun b o hb e => F6.keep _ _ (G.sup _ _ (by simpa using hb) e)) (N6.get (by k_mem)) hi7
end Mine
namespace Mine
open PySem PySem.W PyProof.Rows PySem.Spec PySem.Calls
section
variable {prog : Program} {w : World} {A : Around} {E : Value → Shared → Prop} {Q : Flow → Shared → Prop} {s : Shared} {env : Env} {G : Heap} {x : Str} {body : List Stmt}
def FPost {σ : Type} (G : Heap) (L : Addr) (s : Shared) (Led : σ → List (Addr × Obj)) (ps : σ → List (Str × Value)) (P : σ → Prop) (own : List (Addr × Obj)) (Q : Flow → Shared → Prop) (f : Flow) (s₂ : Shared) : Prop :=
  match f with
  | .ret v => Q (.ret v) s₂
  | .brk => Q .next s₂
  | _ => ∃ c' h' tk m' news', s₂ = { s with heap := h', toks := tk } ∧ Fr G L h' m' ∧ News G L h' news' ∧ (∀ p ∈ Led c', p ∈ news') ∧ (∀ p ∈ own, p ∈ news') ∧ (∀ p ∈ ps c', m' p.1 = some p.2) ∧ P c'
/-- a for by what holds between its turns, over anything that walks -/
theorem forW {σ : Type} {I : Addr} {fp wr : List Addr} {n : Nat} {P : Nat → Value → Prop} {St : Nat → Heap → Prop} {m₀ : Str → Option Value} (W : Walks prog w A I fp wr n P St)
    (Led : σ → List (Addr × Obj)) (ps : σ → List (Str × Value)) (Inv : Nat → σ → Prop) (adr : List Addr) (c₀ : σ)
    (hLf : env.locals ∉ fp) (hwr : ∀ b ∈ wr, G.get? b = none) (hadr : ∀ b ∈ adr, b ∉ fp) (hled : ∀ c, ∀ p ∈ Led c, p.1 ∉ wr) (hst : St 0 s.heap) (F : Fr G env.locals s.heap m₀) (N : News G env.locals s.heap (Led c₀))
    (hk : ∀ p ∈ ps c₀, m₀ p.1 = some p.2) (h0 : Inv 0 c₀)
    (turn : ∀ i v c m own h tk, i < n → P i v → Inv i c → OwnOff own adr → Fr G env.locals h (fun y => if y = x then some v else kstB m (ps c) y) → News G env.locals h (Led c ++ own) →
      wpAny (model prog w) A (execs body env) (FPost G env.locals { s with heap := h, toks := tk } Led ps (Inv (i + 1)) own Q) (fun _ _ => False) { s with heap := h, toks := tk })
    (done : ∀ c m h tk, Inv n c → Fr G env.locals h (kstB m (ps c)) → News G env.locals h (Led c) → Q .next { s with heap := h, toks := tk }) :
    LoopAtV prog w A G env x body Q (fun _ _ => False) (.ref I) s := by
  refine ⟨I, fp, wr, n, P, St, m₀, Led c₀, fun i m nx => ∃ c, nx = Led c ∧ (∀ p ∈ ps c, m p.1 = some p.2) ∧ Inv i c, rfl, W, hLf, hwr, hled c₀, hst, F, N, ⟨c₀, rfl, hk, h0⟩, ?_, ?_⟩
  · rintro i v m₁ nx s₁ own ⟨h, tk, rfl⟩ hi hP ⟨c, rfl, h1, hI⟩ _ hown _ _ _ F₁ N₁
    have e : (fun y => if y = x then some v else m₁ y) = fun y => if y = x then some v else kstB m₁ (ps c) y := by rw [kstB_same h1]
    rw [e] at F₁
    have N₂ : News G env.locals h (Led c ++ own) := fun p hp => N₁ p ((List.mem_append.mp hp).elim (fun h => List.mem_append.mpr (.inr h)) fun h => List.mem_append.mpr (.inl h))
    have hoff : OwnOff own adr := fun p hp b hb e => hadr b hb (e ▸ hown p hp)
    refine wpAny_mono (turn i v c m₁ own h tk hi hP hI hoff F₁ N₂) (fun f s₂ q => ?_) fun _ _ x => x
    have fin : (∃ c' h' tk m' news', s₂ = { s with heap := h', toks := tk } ∧ Fr G env.locals h' m' ∧ News G env.locals h' news' ∧ (∀ p ∈ Led c', p ∈ news') ∧ (∀ p ∈ own, p ∈ news') ∧ (∀ p ∈ ps c', m' p.1 = some p.2) ∧ Inv (i + 1) c') →
        LoopStepU G env.locals wr own (fun m nx => ∃ c, nx = Led c ∧ (∀ p ∈ ps c, m p.1 = some p.2) ∧ Inv (i + 1) c) { s with heap := h, toks := tk } .next s₂ := by
      rintro ⟨c', h', tk', m', news', rfl, F', N', a, b, d, e⟩
      exact ⟨rfl, h', tk', m', Led c', rfl, F', fun p hp => N' p ((List.mem_append.mp hp).elim (b p) (a p)), hled c', c', rfl, d, e⟩
    cases f with
    | ret v => exact .ret q
    | brk => exact .brk q
    | next => exact .next (fin q)
    | cont => exact .cont (fin q)
  · rintro h' tk m' nx F' N' _ ⟨c, rfl, h1, hI⟩
    rw [← kstB_same h1] at F'
    exact done c m' h' tk hI F' N'
/-- over a list that stands in the heap -/
theorem forL {σ : Type} {l : Addr} {vs : List Value} {m₀ : Str → Option Value} (hl : s.heap.IsList l vs.toArray)
    (Led : σ → List (Addr × Obj)) (ps : σ → List (Str × Value)) (Inv : Nat → σ → Prop) (adr : List Addr) (c₀ : σ) (hh : A.handled = none)
    (hL : l ≠ env.locals) (hadr : ∀ b ∈ adr, b ≠ l ∧ b < s.heap.objs.size) (hled : ∀ c, ∀ p ∈ Led c, p.1 < s.heap.objs.size) (F : Fr G env.locals s.heap m₀) (N : News G env.locals s.heap (Led c₀))
    (hk : ∀ p ∈ ps c₀, m₀ p.1 = some p.2) (h0 : Inv 0 c₀)
    (turn : ∀ i v c m own h tk, vs[i]? = some v → Inv i c → OwnOff own adr → Fr G env.locals h (fun y => if y = x then some v else kstB m (ps c) y) → News G env.locals h (Led c ++ own) →
      wpAny (model prog w) A (execs body env) (FPost G env.locals { s with heap := h, toks := tk } Led ps (Inv (i + 1)) own Q) (fun _ _ => False) { s with heap := h, toks := tk })
    (done : ∀ c m h tk, Inv vs.length c → Fr G env.locals h (kstB m (ps c)) → News G env.locals h (Led c) → Q .next { s with heap := h, toks := tk }) :
    wpAny (model prog w) A (pyIter (.ref l)) (fun it s₂ => LoopAtV prog w A G env x body Q (fun _ _ => False) it s₂) (fun _ _ => False) s := by
  obtain ⟨ol, hol, _⟩ := id hl
  have hne : l ≠ s.heap.objs.size := Nat.ne_of_lt (Heap.lt_size hol)
  refine wpAny_pyIter_list hl ?_
  have W := Walks.list (prog := prog) (w := w) hh s.heap.objs.size l hne vs.toArray
  have hlen : vs.toArray.size = vs.length := by simp
  rw [hlen] at W
  refine forW (s := { s with heap := s.heap.push _ }) W Led ps Inv adr c₀ ?_ ?_ ?_ ?_ ⟨⟨_, Heap.get?_push_size _ rfl, rfl, rfl⟩, hl.at fun o e => Heap.get?_push_of_some _ e⟩ (F.push _) (fun p hp => ⟨Heap.get?_push_of_some _ (N p hp).1, (N p hp).2⟩) hk h0 ?_ ?_
  · intro hm
    rcases List.mem_cons.mp hm with e | hm
    · exact absurd F.ns.lt (e ▸ Nat.lt_irrefl _)
    · exact hL (List.mem_singleton.mp hm).symm
  · intro b hb
    rw [List.mem_singleton.mp hb]
    exact next_is_new F
  · intro b hb hm
    rcases List.mem_cons.mp hm with e | hm
    · exact absurd (hadr b hb).2 (e ▸ Nat.lt_irrefl _)
    · exact (hadr b hb).1 (List.mem_singleton.mp hm)
  · intro c p hp hI
    exact absurd (hled c p hp) ((List.mem_singleton.mp hI) ▸ Nat.lt_irrefl _)
  · intro i v c m own h tk hi hP hI ho F₁ N₁
    exact turn i v c m own h tk (by simpa using hP) hI ho F₁ N₁
  · intro c m h tk hI F₁ N₁
    exact done c m h tk hI F₁ N₁
/-- over a reversed list: the iterator stands in the ledger -/
theorem forR {σ : Type} {I l : Addr} {vs : List Value} {m₀ : Str → Option Value} (hl : s.heap.IsList l vs.toArray) (hI : s.heap.get? I = some (revObj l ((vs.length : Int) - 1))) (hI0 : G.get? I = none)
    (Led : σ → List (Addr × Obj)) (ps : σ → List (Str × Value)) (Inv : Nat → σ → Prop) (adr : List Addr) (c₀ : σ) (hh : A.handled = none)
    (hL : l ≠ env.locals) (hIL : I ≠ env.locals) (hlI : l ≠ I) (hadr : ∀ b ∈ adr, b ≠ l ∧ b ≠ I) (hled : ∀ c, ∀ p ∈ Led c, p.1 ≠ I) (F : Fr G env.locals s.heap m₀) (N : News G env.locals s.heap (Led c₀))
    (hk : ∀ p ∈ ps c₀, m₀ p.1 = some p.2) (h0 : Inv 0 c₀)
    (turn : ∀ i v c m own h tk, i < vs.length → vs[vs.length - 1 - i]? = some v → Inv i c → OwnOff own adr → Fr G env.locals h (fun y => if y = x then some v else kstB m (ps c) y) → News G env.locals h (Led c ++ own) →
      wpAny (model prog w) A (execs body env) (FPost G env.locals { s with heap := h, toks := tk } Led ps (Inv (i + 1)) own Q) (fun _ _ => False) { s with heap := h, toks := tk })
    (done : ∀ c m h tk, Inv vs.length c → Fr G env.locals h (kstB m (ps c)) → News G env.locals h (Led c) → Q .next { s with heap := h, toks := tk }) :
    wpAny (model prog w) A (pyIter (.ref I)) (fun it s₂ => LoopAtV prog w A G env x body Q (fun _ _ => False) it s₂) (fun _ _ => False) s := by
  have hit : s.heap.IsRevIter I l ((vs.length : Int) - 1) := ⟨_, hI, rfl, rfl⟩
  refine wpAny_pyIter_revIter hit ?_
  have W := Walks.listRev (prog := prog) (w := w) hh I l hlI vs.toArray
  have hlen : vs.toArray.size = vs.length := by simp
  rw [hlen] at W
  refine forW W Led ps Inv adr c₀ ?_ ?_ ?_ ?_ ⟨Nat.zero_le _, by simpa using hit, hl⟩ F N hk h0 ?_ ?_
  · intro hm
    rcases List.mem_cons.mp hm with e | hm
    · exact hIL e.symm
    · exact hL (List.mem_singleton.mp hm).symm
  · intro b hb
    rw [List.mem_singleton.mp hb]
    exact hI0
  · intro b hb hm
    rcases List.mem_cons.mp hm with e | hm
    · exact (hadr b hb).2 e
    · exact (hadr b hb).1 (List.mem_singleton.mp hm)
  · intro c p hp hI
    exact hled c p hp (List.mem_singleton.mp hI)
  · intro i v c m own h tk hi hP hI ho F₁ N₁
    exact turn i v c m own h tk hi (by simpa using hP) hI ho F₁ N₁
  · intro c m h tk hI F₁ N₁
    exact done c m h tk hI F₁ N₁
end
end Mine
namespace Mine
open PySem PySem.W PyProof.Rows PySem.Spec PySem.Calls
theorem clrD5 : True := by
  w_top off
  k_with_none
  trivial
local macro_rules | `(tactic| walk_at $s:str) => `(tactic| k_extra $s)
local macro_rules | `(tactic| walk_at "same") => `(tactic| repeat' (first | exact List.forall_mem_nil _ | refine List.forall_mem_cons.mpr ⟨by with_unfolding_all rfl, ?_⟩))
local macro_rules | `(tactic| walk_at "enterP") => `(tactic| k_dflt (refine' enterP ?kC0 ?kS0 ?k6 ?k7 ?k8 ?k9 ?kB ?_ ?c2 ?c3 ?c4 ?c5; (case kC0 => assumption); (case kS0 => assumption); (case k6 => k_is); (case k7 => k_is); (case k8 => decide); (case k9 => first | exact BindsTo.of_eq rfl | (refine' kp_binds ?kx ?ke; (case kx => exact Frag.In.keeps (Core.X (by assumption)) (by assumption)); (case ke => exact fun _ => rfl))); (case c5 => decide); (case kB => exact locs rfl); (case c2 => exact rfl); (case c3 => exact rfl); (case c4 => exact rfl); k_whole; intro L' h' X' T' C1' C2' F' N'; (try dsimp only); (try k_fold)))
local macro_rules | `(tactic| walk_at "enterX0") => `(tactic| k_dflt (refine' enterX0 ?kC0 ?kS0 ?ko ?kd ?k7 ?k8 ?k9 ?kB ?_ ?c2 ?c3 ?c4 ?c5; (case kC0 => assumption); (case kS0 => assumption); (case ko => assumption); (case kd => exact rfl); (case k7 => assumption); (case k8 => first | decide | (show _ < 1000; omega)); (case k9 => exact BindsTo.of_eq rfl); (case c5 => decide); (case kB => exact locs rfl); (case c2 => exact rfl); (case c3 => exact rfl); (case c4 => exact rfl); k_whole; intro L' h' X' T' C1' C2' F' N'; (try dsimp only); (try k_fold)))
local macro_rules | `(tactic| walk_at "enterC") => `(tactic| k_dflt (refine' enterC ?kC0 ?kS0 ?kn ?kt ?k6 ?k7 ?k8 ?k9 ?kB ?kD ?_ ?c2 ?c3 ?c4; (case kC0 => assumption); (case kS0 => assumption); (case kn => assumption); (case kt => assumption); (case k6 => k_is); (case k7 => k_is); (case k8 => decide); (case k9 => first | exact BindsTo.of_eq rfl | (refine' kp_binds ?kx ?ke; (case kx => exact Frag.In.keeps (Core.X (by assumption)) (by assumption)); (case ke => exact fun _ => rfl))); (case kB => exact rfl); (case kD => decide +kernel); (case c2 => exact rfl); (case c3 => exact rfl); (case c4 => exact rfl); k_whole; intro g' L' h' tk' cells' G' X' T' C1' C2' F' N' Y' l1; (try k_lt l1); k_cells Y'; (try simp only [List.cons_append, List.nil_append] at N'); (try dsimp only); (try k_fold)))

def Full54 (h : Heap) : Prop := ∃ c, h.get? 54 = some (tabObj #[rawInt 36, rawInt 4, .ref c]) ∧ h.CodeRec (.ref c) (PySem.Str.ofString "_int2digits.<locals>.inner")
theorem ints_rep (k : Nat) (t : Nat) : IntsAre (List.replicate k (.int 0 t)) (List.replicate k 0) := by
  induction k with
  | zero => exact .nil
  | succ k ih => exact .cons 0 t ih
theorem flat_rep (k : Nat) (v : Value) : (List.replicate k [v]).flatten = List.replicate k v := by
  induction k with
  | zero => rfl
  | succ k ih => rw [List.replicate_succ, List.flatten_cons, ih]; rfl
theorem nd_big {n a : Int} (hn : 1 ≤ n) (ha : 0 ≤ a) : a < (2 ^ n.toNat) ^ nd n a := by
  have h := (intBits_le_iff (m := n.toNat * nd n a) (x := a)).mp (by
    unfold nd
    have e : ((Builtin.Int.intBits a : Int) + n - 1).fdiv n = ((Builtin.Int.intBits a : Int) + n - 1) / n := Int.fdiv_eq_ediv_of_nonneg _ (by omega)
    rw [e]
    generalize hi : (Builtin.Int.intBits a) = i
    have h1 := Int.emod_add_mul_ediv ((i : Int) + n - 1) n
    have h2 := Int.emod_lt_of_pos ((i : Int) + n - 1) (show 0 < n by omega)
    have h3 : 0 ≤ ((i : Int) + n - 1) / n := Int.ediv_nonneg (by omega) (by omega)
    have h4 : (i : Int) ≤ n * (((i : Int) + n - 1) / n) := by omega
    have h5 : ((n.toNat * (((i : Int) + n - 1) / n).toNat : Nat) : Int) = n * (((i : Int) + n - 1) / n) := by
      rw [Int.natCast_mul, Int.toNat_of_nonneg h3, Int.toNat_of_nonneg (by omega)]
    omega)
  rw [← pow_mulI]
  have h2 : (a.natAbs : Int) = a := by omega
  generalize n.toNat * nd n a = j at h ⊢
  rw [← h2]
  have h3 : ((2 ^ j : Nat) : Int) = (2 : Int) ^ j := by simp
  rw [← h3]
  exact Int.ofNat_lt.mpr h
theorem nd_is {n a : Int} (hn : 1 ≤ n) : Hid (((Builtin.Int.intBits a : Int) + n - 1).fdiv n = (nd n a : Int)) := by
  constructor
  unfold nd
  have e : ((Builtin.Int.intBits a : Int) + n - 1).fdiv n = ((Builtin.Int.intBits a : Int) + n - 1) / n := Int.fdiv_eq_ediv_of_nonneg _ (by omega)
  rw [e]
  have h3 : 0 ≤ ((Builtin.Int.intBits a : Int) + n - 1) / n := Int.ediv_nonneg (by omega) (by omega)
  omega
theorem nd_pos {n a : Int} (hn : 1 ≤ n) (ha : 0 ≤ a) (h : a ≠ 0) : 1 ≤ nd n a := by
  have h1 := nd_big hn ha
  rcases Nat.eq_zero_or_pos (nd n a) with q | q
  · rw [q, Int.pow_zero] at h1; omega
  · exact q
theorem nd_zero {n : Int} (hn : 1 ≤ n) : nd n 0 = 0 := by
  unfold nd
  have e : ((Builtin.Int.intBits 0 : Int) + n - 1).fdiv n = ((Builtin.Int.intBits 0 : Int) + n - 1) / n := Int.fdiv_eq_ediv_of_nonneg _ (by omega)
  rw [e]
  have e2 : (Builtin.Int.intBits 0 : Int) = 0 := rfl
  rw [e2, Int.ediv_eq_zero_of_lt (by omega) (by omega)]; rfl
theorem Gd.none54 {H0 h g h' : Heap} {tl : List (Addr × Obj)} {L a : Addr} {o : Obj} {news : List (Addr × Obj)} (G : Gd H0 h tl g) (N : News g L h' news) (hm : (a, o) ∈ news) : H0.get? a = none := by
  cases q : H0.get? a with
  | none => rfl
  | some x => have := N.fresh hm; rw [G.st _ _ q] at this; cases this
theorem Gd.fresh {H0 h g h' : Heap} {tl : List (Addr × Obj)} {L a : Addr} {m : Str → Option Value} (G : Gd H0 h tl g) (F : Fr g L h' m) (l : L < a) : h.objs.size ≤ a := Nat.le_of_lt (Nat.lt_of_le_of_lt (G.size ▸ F.above) l)
theorem fr_at {g h h' : Heap} {L la : Addr} {o o' : Obj} {m : Str → Option Value} {news news' : List (Addr × Obj)} (F : Fr g L h m) (N : News g L h news) (U : Upd la o o' news news') (k : ∀ b x, b ≠ la → h.get? b = some x → h'.get? b = some x) (e : h'.get? la = some o') :
    Fr g L h' m ∧ News g L h' news' := by
  obtain ⟨pre, post, rfl, rfl, a, b⟩ := U.split
  obtain ⟨n1, n2, n3⟩ := N (la, o) (List.mem_append_right _ (.head _))
  obtain ⟨oL, es, ep, hL, r⟩ := F.ns
  refine ⟨⟨⟨oL, es, ep, k _ _ (Ne.symm n2) hL, r⟩, fun b x q => k b x (fun z => ?_) (F.keep b x q), F.above⟩, fun p hp => ?_⟩
  · rw [z] at q; rw [n3] at q; cases q
  · rcases List.mem_append.mp hp with hp | hp
    · exact ⟨k _ _ (a p hp) (N _ (List.mem_append_left _ hp)).1, (N _ (List.mem_append_left _ hp)).2⟩
    · rcases List.mem_cons.mp hp with rfl | hp
      · exact ⟨e, n2, n3⟩
      · exact ⟨k _ _ (b p hp) (N _ (List.mem_append_right _ (.tail _ hp))).1, (N _ (List.mem_append_right _ (.tail _ hp))).2⟩
theorem i2d_spec {w ls mean mg mb H0} (C : Core w ls mean mg mb H0) (a n : Int) (ta tn : Nat) (ha : 0 ≤ a) (hn0 : 1 ≤ n) (hn8 : n ≤ 8) (hk : nd n a ≤ 16) (hnk : n * nd n a ≤ 60) :
    SpecT w H0 54 Full54 59 190 [.int a ta, .int n tn] (fun _ => True) (fun h r h' => ∃ D vs, r = .ref D ∧ h.objs.size ≤ D ∧ h'.get? D = some (listOf vs.toArray 0) ∧ IntsAre vs (dg (2 ^ n.toNat) (nd n a) a)) := by
  intro A s Q E st hh hd hu hT _ hret
  refine lift hh hd hu ?_
  have hk0 : Hid (((Builtin.Int.intBits a : Int) + n - 1).fdiv n = (nd n a : Int)) := nd_is hn0
  rcases hT with hT | hT
  · have kn : ∀ p ∈ [((54 : Addr), tabObj #[])], H0.get? p.1 = none := List.forall_mem_cons.mpr ⟨C.n54, List.forall_mem_nil _⟩
    have kt : ∀ p ∈ [((54 : Addr), tabObj #[])], s.heap.get? p.1 = some p.2 := List.forall_mem_cons.mpr ⟨hT, List.forall_mem_nil _⟩
    walk_at "enterC"
    rename Gd _ _ _ _ => G
    k_with_none
    k_with "call ref" => refine Hold.mk ?_
    k_with "binaryOp Mult ref int" => refine Hold.mk ?_
    k_with "call builtin:len" => (refine kst_len (k := nd n a) (by k_asm) (by k_dflt k_mem) (by simp) (by omega) ?_)
    k_steps
    show wpAny _ _ _ _ _ _
    rename Fr _ _ _ _ => F0
    rename News _ _ _ _ => N0
    rw [hk0.out]
    refine' KMa.mul (ws := List.replicate (nd n a) (.int 0 _)) F0 N0 (N0.isList (by k_mem)) (by omega) (by omega) ?z ?e ?_
    case z => simp only [List.length_cons, List.length_nil, Int.toNat_natCast]; omega
    case e => rw [Int.toNat_natCast]; exact flat_rep _ _
    intro la h1 F1 N1 l9
    clear F0 N0
    k_lt l9
    have hlg := G.none54 N1 (.head _)
    have hls := G.fresh F1 (Nat.lt_trans (Nat.lt_succ_self _) l9.2.2.2.1)
    k_steps
    · show wpAny _ _ _ _ _ _
      rename a ≠ 0 => hne
      rename Fr _ _ _ _ => F2
      rename News _ _ _ _ => N2
      have hpos := nd_pos hn0 ha hne
      refine' inI_spec C _ _ _ _ la 0 _ _ _ _ ?hb n hn0 hn8 (nd n a) a 0 (nd n a) (by omega) (by omega) (by omega) (by omega) (by rw [Int.sub_zero]; exact hnk) ha (by rw [Int.sub_zero, Int.toNat_natCast]; exact nd_big hn0 ha) _ _ _ _ _ _ _ _ _ ?i1 ?i2 (ints_rep _ _) (fun b o e => F2.keep b o (G.st b o e)) hlg rfl ?i3 ?i4 ?i5 (N2.get (by k_mem)) ?_
      case i1 => simp
      case i2 => simp; exact hk
      case i3 => show 190 + 400 + 1 ≤ _; omega
      case i4 => show 10 * 190 + 3 ≤ _; omega
      case i5 =>
        refine' ⟨⟨_, _, _, _, N2.get (by k_mem), codeRec_news N2 (by k_mem) (by assumption) (by assumption)⟩, rfl, ?_, ?_, ?_⟩
        · exact ⟨_, N2.get (by k_mem), by assumption⟩
        · exact ⟨_, N2.get (by k_mem), by assumption⟩
        · exact ⟨_, _, N2.get (by k_mem), by assumption⟩
      case hb => rfl
      intro h7 tk7 vs7 kp7 hla7 hi7
      obtain ⟨F7, N7⟩ := fr_at (o' := listOf vs7.toArray 0) F2 N2 (by k_upd) kp7 hla7
      have e7 : wr (2 ^ n.toNat) (List.replicate (nd n a) 0) a 0 (nd n a) = dg (2 ^ n.toNat) (nd n a) a := by
        have := wr_all (2 ^ n.toNat) (List.replicate (nd n a) 0) a
        rwa [List.length_replicate] at this
      rw [e7] at hi7
      clear F2 N2
      try dsimp only
      k_steps
      try dsimp only
      rename Fr _ _ _ _ => F6
      rename News _ _ _ _ => N6
      exact hret _ _ _ (fun b o hb e => F6.keep _ _ (G.sup _ _ (by simpa using hb) e)) ⟨_, N6.get (by k_mem), codeRec_news N6 (by k_mem) (by assumption) (by assumption)⟩ (fun q => by obtain ⟨c, q, _⟩ := q; rw [hT] at q; cases q) ⟨la, _, rfl, hls, N6.get (by k_mem), hi7⟩
    · rename Fr _ _ _ _ => F6
      rename News _ _ _ _ => N6
      rename a = 0 => hz
      try dsimp only
      exact hret _ _ _ (fun b o hb e => F6.keep _ _ (G.sup _ _ (by simpa using hb) e)) ⟨_, N6.get (by k_mem), codeRec_news N6 (by k_mem) (by assumption) (by assumption)⟩ (fun q => by obtain ⟨c, q, _⟩ := q; rw [hT] at q; cases q) ⟨la, _, rfl, hls, N6.get (by k_mem), (by rw [hz, nd_zero hn0]; exact .nil)⟩
  · obtain ⟨c0, hT, hT2⟩ := id hT
    have kn : ∀ p ∈ [((54 : Addr), tabObj #[rawInt 36, rawInt 4, .ref c0])], H0.get? p.1 = none := List.forall_mem_cons.mpr ⟨C.n54, List.forall_mem_nil _⟩
    have kt : ∀ p ∈ [((54 : Addr), tabObj #[rawInt 36, rawInt 4, .ref c0])], s.heap.get? p.1 = some p.2 := List.forall_mem_cons.mpr ⟨hT, List.forall_mem_nil _⟩
    walk_at "enterC"
    rename Gd _ _ _ _ => G
    have hT3 := G.codeRec hT (by intro s t q; cases q) hT2
    k_with_none
    k_with "call ref" => refine Hold.mk ?_
    k_with "binaryOp Mult ref int" => refine Hold.mk ?_
    k_with "call builtin:len" => (refine kst_len (k := nd n a) (by k_asm) (by k_dflt k_mem) (by simp) (by omega) ?_)
    k_steps
    show wpAny _ _ _ _ _ _
    rename Fr _ _ _ _ => F0
    rename News _ _ _ _ => N0
    rw [hk0.out]
    refine' KMa.mul (ws := List.replicate (nd n a) (.int 0 _)) F0 N0 (N0.isList (by k_mem)) (by omega) (by omega) ?z ?e ?_
    case z => simp only [List.length_cons, List.length_nil, Int.toNat_natCast]; omega
    case e => rw [Int.toNat_natCast]; exact flat_rep _ _
    intro la h1 F1 N1 l9
    clear F0 N0
    k_lt l9
    have hlg := G.none54 N1 (.head _)
    have hls := G.fresh F1 (Nat.lt_trans (Nat.lt_succ_self _) l9.2.2.2.1)
    k_steps
    · show wpAny _ _ _ _ _ _
      rename a ≠ 0 => hne
      rename Fr _ _ _ _ => F2
      rename News _ _ _ _ => N2
      have hpos := nd_pos hn0 ha hne
      refine' inI_spec C _ _ _ _ la 0 _ _ _ _ ?hb n hn0 hn8 (nd n a) a 0 (nd n a) (by omega) (by omega) (by omega) (by omega) (by rw [Int.sub_zero]; exact hnk) ha (by rw [Int.sub_zero, Int.toNat_natCast]; exact nd_big hn0 ha) _ _ _ _ _ _ _ _ _ ?i1 ?i2 (ints_rep _ _) (fun b o e => F2.keep b o (G.st b o e)) hlg rfl ?i3 ?i4 ?i5 (N2.get (by k_mem)) ?_
      case i1 => simp
      case i2 => simp; exact hk
      case i3 => show 190 + 400 + 1 ≤ _; omega
      case i4 => show 10 * 190 + 3 ≤ _; omega
      case i5 =>
        refine' ⟨⟨_, _, _, _, N2.get (by k_mem), codeRec_keep hT3 F2.keep⟩, rfl, ?_, ?_, ?_⟩
        · exact ⟨_, N2.get (by k_mem), by assumption⟩
        · exact ⟨_, N2.get (by k_mem), by assumption⟩
        · exact ⟨_, _, N2.get (by k_mem), by assumption⟩
      case hb => rfl
      intro h7 tk7 vs7 kp7 hla7 hi7
      obtain ⟨F7, N7⟩ := fr_at (o' := listOf vs7.toArray 0) F2 N2 (by k_upd) kp7 hla7
      have e7 : wr (2 ^ n.toNat) (List.replicate (nd n a) 0) a 0 (nd n a) = dg (2 ^ n.toNat) (nd n a) a := by
        have := wr_all (2 ^ n.toNat) (List.replicate (nd n a) 0) a
        rwa [List.length_replicate] at this
      rw [e7] at hi7
      clear F2 N2
      try dsimp only
      k_steps
      try dsimp only
      rename Fr _ _ _ _ => F6
      rename News _ _ _ _ => N6
      have hk6 := keep61 hT G F6 (N6.get (by k_mem))
      exact hret _ _ _ (fun b o _ e => hk6 b o e) ⟨c0, hk6 _ _ hT, codeRec_keep hT2 hk6⟩ (fun _ => hk6) ⟨la, _, rfl, hls, N6.get (by k_mem), hi7⟩
    · rename Fr _ _ _ _ => F6
      rename News _ _ _ _ => N6
      rename a = 0 => hz
      try dsimp only
      have hk6 := keep61 hT G F6 (N6.get (by k_mem))
      exact hret _ _ _ (fun b o _ e => hk6 b o e) ⟨c0, hk6 _ _ hT, codeRec_keep hT2 hk6⟩ (fun _ => hk6) ⟨la, _, rfl, hls, N6.get (by k_mem), (by rw [hz, nd_zero hn0]; exact .nil)⟩
end Mine
namespace Mine
open PySem PySem.W PyProof.Rows PySem.Spec PySem.Calls
theorem SpecT.toP {w : World} {H0 : Heap} {P : Addr} {Full : Heap → Prop} {f : Addr} {D : Nat} {vs : List Value} {Pre : Heap → Prop} {Post : Heap → Value → Heap → Prop} (S : SpecT w H0 P Full f D vs Pre Post) : SpecP w H0 f D vs (fun h => Full h ∧ Pre h) Post :=
  fun A s Q E st hh hd hu hp k => S A s Q E st hh hd hu (.inr hp.1) hp.2 fun r h' tk _ _ kp po => k r h' tk (kp hp.1) po
/-- a call that fills the table 61 -/
def SpecU (w : World) (H0 : Heap) (f : Addr) (D : Nat) (vs : List Value) (Pre : Heap → Prop) (Post : Heap → Value → Heap → Prop) : Prop :=
  ∀ (A : Around) (s : Shared) (Q E : Value → Shared → Prop), H0.StaysIn s.heap → A.handled = none → A.depth ≤ D + 400 → A.units ≤ 10 * D → s.heap.get? 61 = some (tabObj #[]) → Pre s.heap →
    (∀ r h' tk, (∀ b o, b ≠ 61 → s.heap.get? b = some o → h'.get? b = some o) → Fresh61 s.heap h' → Post s.heap r h' → Q r { s with heap := h', toks := tk }) → wpAny (model pg w) A (call (.ref f) vs) Q E s
theorem d2i_specU {w ls mean mg mb H0} (C : Core w ls mean mg mb H0) (l : Addr) (n : Int) (tn : Nat) (hn0 : 1 ≤ n) (hn8 : n ≤ 8) (vs : List Value) (ns : List Int) (hi : IntsAre vs ns) (hlen : ns.length ≤ 16) (hnl : n * ns.length ≤ 60) (hds : ∀ d ∈ ns, 0 ≤ d ∧ d < 2 ^ n.toNat) :
    SpecU w H0 66 190 [.ref l, .int n tn] (fun h => h.IsList l vs.toArray) (fun _ r _ => ∃ t, r = .int (seg (2 ^ n.toNat) ns) t) :=
  fun A s Q E st hh hd hu he hp k => d2i_spec C l n tn hn0 hn8 vs ns hi hlen hnl hds A s Q E st hh hd hu (.inl he) hp fun r h' tk a _ _ po => k r h' tk a (po.2 he) po.1
theorem d2i_specP {w ls mean mg mb H0} (C : Core w ls mean mg mb H0) (l : Addr) (n : Int) (tn : Nat) (hn0 : 1 ≤ n) (hn8 : n ≤ 8) (vs : List Value) (ns : List Int) (hi : IntsAre vs ns) (hlen : ns.length ≤ 16) (hnl : n * ns.length ≤ 60) (hds : ∀ d ∈ ns, 0 ≤ d ∧ d < 2 ^ n.toNat) :
    SpecP w H0 66 190 [.ref l, .int n tn] (fun h => Full61 h ∧ h.IsList l vs.toArray) (fun _ r _ => ∃ t, r = .int (seg (2 ^ n.toNat) ns) t) :=
  fun A s Q E st hh hd hu hp k => d2i_spec C l n tn hn0 hn8 vs ns hi hlen hnl hds A s Q E st hh hd hu (.inr hp.1) hp.2 fun r h' tk _ _ kp po => k r h' tk (kp hp.1) po.1
/-- what the ledger must say for the table to be full -/
def FullBy (g : Heap) (tl : List (Addr × Obj)) : Prop := ∀ h, Keep g h → (∀ p ∈ tl, h.get? p.1 = some p.2) → Fresh61 g h
theorem full_tail {g h h' : Heap} {L : Addr} {m : Str → Option Value} {rest : List (Addr × Obj)} {o : Obj} (F : Fr g L h m) (N : News g L h rest) (n61 : g.get? 61 = none) (hL : L ≠ 61) (hr : ∀ p ∈ rest, p.1 ≠ 61)
    (_ho : h.get? 61 = some o) (k : ∀ b x, b ≠ 61 → h.get? b = some x → h'.get? b = some x) (hf : Fresh61 h h') :
    Fr g L h' m ∧ ∃ tl, News g L h' (rest ++ tl) ∧ FullBy g tl ∧ ∀ p ∈ rest, ∀ q ∈ tl, p.1 ≠ q.1 := by
  obtain ⟨oL, es, ep, hLo, hLd, r⟩ := F.ns
  have F' : Fr g L h' m := ⟨⟨oL, es, ep, k _ _ hL hLo, hLd, r⟩, fun b x q => k b x (fun z => by rw [z, n61] at q; cases q) (F.keep b x q), F.above⟩
  have N' : News g L h' rest := fun p hp => ⟨k _ _ (hr p hp) (N p hp).1, (N p hp).2⟩
  obtain ⟨c, hc61, hcn, hf1, rc, oc, vs, t, r0, r1, r2, r3⟩ := hf
  cases r0
  refine ⟨F', ?_⟩
  have hc : g.get? c = none := by
    cases q : g.get? c with
    | none => rfl
    | some x => rw [F.keep _ _ q] at hcn; cases hcn
  refine ⟨[(61, tabObj #[rawInt 51, rawInt 4, .ref c]), (c, oc)], fun p hp => ?_, fun h9 kg ht => ⟨c, hc61, hc, ht _ (.head _), c, oc, vs, t, rfl, ht _ (.tail _ (.head _)), r2, r3⟩, fun p hp q hq => ?_⟩
  · rcases List.mem_append.mp hp with hp | hp
    · exact N' p hp
    · rcases List.mem_cons.mp hp with rfl | hp
      · exact ⟨hf1, Ne.symm hL, n61⟩
      · rw [List.mem_singleton.mp hp]
        refine ⟨r1, fun e => ?_, hc⟩
        have e : c = L := e
        rw [e, hLo] at hcn
        cases hcn
  · rcases List.mem_cons.mp hq with rfl | hq
    · exact hr p hp
    · rw [List.mem_singleton.mp hq]
      intro e
      have e : p.1 = c := e
      have := (N p hp).1
      rw [e, hcn] at this
      cases this
theorem SpecU.use2 {w : World} {H0 : Heap} {f : Addr} {D : Nat} {vs : List Value} {Pre : Heap → Prop} {Post : Heap → Value → Heap → Prop} {A : Around} {s : Shared} {Q E : Value → Shared → Prop} {g : Heap} {L : Addr} {m : Str → Option Value} {news : List (Addr × Obj)} (rest : List (Addr × Obj))
    (S : SpecU w H0 f D vs Pre Post) (F : Fr g L s.heap m) (N : News g L s.heap news) (st : H0.StaysIn g) (hh : A.handled = none) (hd : A.depth ≤ D + 400) (hu : A.units ≤ 10 * D) (he : (61, tabObj #[]) ∈ news) (hsub : ∀ p ∈ rest, p ∈ news) (hr : ∀ p ∈ rest, p.1 ≠ 61) (hp : Pre s.heap)
    (k : ∀ r h' tk tl, Fr g L h' m → News g L h' (rest ++ tl) → FullBy g tl → (∀ p ∈ rest, ∀ q ∈ tl, p.1 ≠ q.1) → (∀ b o, b ≠ 61 → s.heap.get? b = some o → h'.get? b = some o) → Post s.heap r h' → Q r { s with heap := h', toks := tk }) : wpAny (model pg w) A (call (.ref f) vs) Q E s := by
  obtain ⟨e1, e2, e3⟩ := N _ he
  refine S A s Q E (fun b o e => F.keep b o (st b o e)) hh hd hu e1 hp fun r h' tk kp hf po => ?_
  obtain ⟨F', tl, N', FB, off⟩ := full_tail F (fun p hp => N p (hsub p hp)) e3 (Ne.symm e2) hr e1 kp hf
  exact k r h' tk tl F' N' FB off kp po
theorem SpecU.use {w : World} {H0 : Heap} {f : Addr} {D : Nat} {vs : List Value} {Pre : Heap → Prop} {Post : Heap → Value → Heap → Prop} {A : Around} {s : Shared} {Q E : Value → Shared → Prop} {g : Heap} {L : Addr} {m : Str → Option Value} {news : List (Addr × Obj)} (rest : List (Addr × Obj))
    (S : SpecU w H0 f D vs Pre Post) (F : Fr g L s.heap m) (N : News g L s.heap news) (st : H0.StaysIn g) (hh : A.handled = none) (hd : A.depth ≤ D + 400) (hu : A.units ≤ 10 * D) (he : (61, tabObj #[]) ∈ news) (hsub : ∀ p ∈ rest, p ∈ news) (hr : ∀ p ∈ rest, p.1 ≠ 61) (hp : Pre s.heap)
    (k : ∀ r h' tk tl, Fr g L h' m → News g L h' (rest ++ tl) → FullBy g tl → (∀ b o, b ≠ 61 → s.heap.get? b = some o → h'.get? b = some o) → Post s.heap r h' → Q r { s with heap := h', toks := tk }) : wpAny (model pg w) A (call (.ref f) vs) Q E s :=
  S.use2 rest F N st hh hd hu he hsub hr hp fun r h' tk tl a b c _ d e => k r h' tk tl a b c d e
theorem full54_keep {h h' : Heap} (x : Full54 h) (k : Keep h h') : Full54 h' := let ⟨c, a, b⟩ := x; ⟨c, k _ _ a, codeRec_keep b k⟩
theorem full61_keep {h h' : Heap} (x : Full61 h) (k : Keep h h') : Full61 h' := let ⟨c, a, b⟩ := x; ⟨c, k _ _ a, codeRec_keep b k⟩
/-- 54 stays full where 61 is laid aside -/
theorem Gd.full54 {H0 h g : Heap} {ps : Array Value} (G : Gd H0 h [(61, tabObj ps)] g) (e : h.get? 61 = some (tabObj ps)) (hps : ∀ q t, ps[1]? ≠ some (.str q t)) (x : Full54 h) : Full54 g := by
  obtain ⟨c, a, rc, oc, vs, t, r0, r1, r2, r3⟩ := x
  refine ⟨c, G.sup _ _ (by simp) a, rc, oc, vs, t, r0, G.sup _ _ (fun z => ?_) r1, r2, r3⟩
  have z2 : rc = 61 := by simpa using z
  rw [z2, e] at r1
  cases r1
  cases r2
  exact hps _ _ r3
abbrev tupOf (vs : Array Value) : Obj := { cls := .type "tuple", data := .seq vs }
end Mine
namespace Mine
open PySem PySem.W PyProof.Rows PySem.Spec PySem.Calls
theorem clrD6 : True := by
  w_top off
  k_with_none
  trivial
local macro_rules | `(tactic| walk_at $s:str) => `(tactic| k_extra $s)
local macro_rules | `(tactic| walk_at "same") => `(tactic| repeat' (first | exact List.forall_mem_nil _ | refine List.forall_mem_cons.mpr ⟨by with_unfolding_all rfl, ?_⟩))
local macro_rules | `(tactic| walk_at "enterP") => `(tactic| k_dflt (refine' enterP ?kC0 ?kS0 ?k6 ?k7 ?k8 ?k9 ?kB ?_ ?c2 ?c3 ?c4 ?c5; (case kC0 => assumption); (case kS0 => assumption); (case k6 => k_is); (case k7 => k_is); (case k8 => decide); (case k9 => first | exact BindsTo.of_eq rfl | (refine' kp_binds ?kx ?ke; (case kx => exact Frag.In.keeps (Core.X (by assumption)) (by assumption)); (case ke => exact fun _ => rfl))); (case c5 => decide); (case kB => exact locs rfl); (case c2 => exact rfl); (case c3 => exact rfl); (case c4 => exact rfl); k_whole; intro L' h' X' T' C1' C2' F' N'; (try dsimp only); (try k_fold)))
local macro_rules | `(tactic| walk_at "enterX0") => `(tactic| k_dflt (refine' enterX0 ?kC0 ?kS0 ?ko ?kd ?k7 ?k8 ?k9 ?kB ?_ ?c2 ?c3 ?c4 ?c5; (case kC0 => assumption); (case kS0 => assumption); (case ko => assumption); (case kd => exact rfl); (case k7 => assumption); (case k8 => first | decide | (show _ < 1000; omega)); (case k9 => exact BindsTo.of_eq rfl); (case c5 => decide); (case kB => exact locs rfl); (case c2 => exact rfl); (case c3 => exact rfl); (case c4 => exact rfl); k_whole; intro L' h' X' T' C1' C2' F' N'; (try dsimp only); (try k_fold)))
local macro_rules | `(tactic| walk_at "enterC") => `(tactic| k_dflt (refine' enterC ?kC0 ?kS0 ?kn ?kt ?k6 ?k7 ?k8 ?k9 ?kB ?kD ?_ ?c2 ?c3 ?c4; (case kC0 => assumption); (case kS0 => assumption); (case kn => assumption); (case kt => assumption); (case k6 => k_is); (case k7 => k_is); (case k8 => decide); (case k9 => first | exact BindsTo.of_eq rfl | (refine' kp_binds ?kx ?ke; (case kx => exact Frag.In.keeps (Core.X (by assumption)) (by assumption)); (case ke => exact fun _ => rfl))); (case kB => exact rfl); (case kD => decide +kernel); (case c2 => exact rfl); (case c3 => exact rfl); (case c4 => exact rfl); k_whole; intro g' L' h' tk' cells' G' X' T' C1' C2' F' N' Y' l1; (try k_lt l1); k_cells Y'; (try simp only [List.cons_append, List.nil_append] at N'); (try dsimp only); (try k_fold)))

theorem div_spec {w ls mean mg mb H0} (C : Core w ls mean mg mb H0) (a b n : Int) (ta tb tn : Nat) (ha : 0 ≤ a) (ha2 : a < 1000000) (hb : 0 < b) (hb2 : b < 1000000) (hn : 0 ≤ n) :
    SpecP w H0 45 200 [.int a ta, .int b tb, .int n tn] (fun _ => True) (fun h r h' => ∃ D t1 t2, r = .ref D ∧ h.objs.size ≤ D ∧ h'.get? D = some (tupOf #[.int (a.fdiv b) t1, .int (a.fmod b) t2])) := by
  intro A s Q E st hh hd hu _ hret
  refine lift hh hd hu ?_
  have hbits : Builtin.Int.intBits a ≤ 64 := intBits_le_64 (by omega) (by omega)
  walk_at "enterP"
  k_with_none
  rename Fr _ _ _ _ => F0
  have hsz := Nat.le_of_lt (Nat.lt_of_le_of_lt F0.above F0.ns.lt)
  k_steps
  rename Fr _ _ _ _ => F1
  rename News _ _ _ _ => N1
  exact hret _ _ _ F1.keep ⟨_, _, _, rfl, hsz, (N1 _ (.head _)).1⟩

def dstep (c : Int × List Int) (d : Int) : Int × List Int := ((c.1 * 2 ^ (3 : Int).toNat + d).fmod 4, c.2 ++ [(c.1 * 2 ^ (3 : Int).toNat + d).fdiv 4])
def dmp (a : Int) : Int × List Int := ((dg (2 ^ (3 : Int).toNat) (nd 3 a) a).reverse).foldl dstep (0, [])
def DInv (a : Int) (i : Nat) (r : Int) (qvs : List Value) (qns : List Int) : Prop :=
  (0 ≤ r ∧ r < 4) ∧ IntsAre qvs qns ∧ qns.length = i ∧ (∀ q ∈ qns, 0 ≤ q ∧ q < 2 ^ (3 : Int).toNat) ∧ (r, qns) = ((dg (2 ^ (3 : Int).toNat) (nd 3 a) a).reverse.take i).foldl dstep (0, [])
theorem DInv.start (a : Int) : DInv a 0 0 [] [] := ⟨by decide, .nil, rfl, fun _ h => (nomatch h), by simp⟩
theorem ints_snoc {v : Int} {t : Nat} : ∀ {vs : List Value} {ns : List Int}, IntsAre vs ns → IntsAre (vs ++ [.int v t]) (ns ++ [v])
  | _, _, .nil => .cons v t .nil
  | _, _, .cons i u h => .cons i u (ints_snoc h)
theorem DInv.step {a : Int} {i : Nat} {r d : Int} {qvs : List Value} {qns : List Int} {t : Nat} (D : DInv a i r qvs qns) (hd : (dg (2 ^ (3 : Int).toNat) (nd 3 a) a).reverse[i]? = some d) :
    DInv a (i + 1) ((r * 2 ^ (3 : Int).toNat + d).fmod 4) (qvs ++ [.int ((r * 2 ^ (3 : Int).toNat + d).fdiv 4) t]) (qns ++ [(r * 2 ^ (3 : Int).toNat + d).fdiv 4]) := by
  obtain ⟨⟨h0, h1⟩, hi, hl, hq, he⟩ := D
  have hdb := dg_bound (2 ^ (3 : Int).toNat) (by decide) _ a d (List.mem_reverse.mp (List.mem_of_getElem? hd))
  have e8 : (2 : Int) ^ (3 : Int).toNat = 8 := by decide
  have ef : (r * 2 ^ (3 : Int).toNat + d).fdiv 4 = (r * 8 + d) / 4 := by rw [e8]; exact Int.fdiv_eq_ediv_of_nonneg _ (by decide)
  have em : (r * 2 ^ (3 : Int).toNat + d).fmod 4 = (r * 8 + d) % 4 := by rw [e8]; exact Int.fmod_eq_emod_of_nonneg _ (by decide)
  refine ⟨?_, ints_snoc hi, by simp [hl], fun q h => ?_, ?_⟩
  · rw [em]; omega
  · rcases List.mem_append.mp h with h | h
    · exact hq q h
    · rw [List.mem_singleton.mp h, ef, e8]; rw [e8] at hdb; omega
  · rw [List.take_add_one, hd, List.foldl_append, ← he]; rfl
theorem DInv.digit {a : Int} {avs : List Value} (e3 : IntsAre avs (dg (2 ^ (3 : Int).toNat) (nd 3 a) a)) {i : Nat} {v : Value} (hi : i < avs.length) (hv : avs[avs.length - 1 - i]? = some v) : ∃ d t, v = .int d t ∧ (dg (2 ^ (3 : Int).toNat) (nd 3 a) a).reverse[i]? = some d ∧ 0 ≤ d ∧ d < 8 := by
  have hl := e3.length
  have hj : avs.length - 1 - i < (dg (2 ^ (3 : Int).toNat) (nd 3 a) a).length := by omega
  obtain ⟨t, ht⟩ := e3.get (avs.length - 1 - i) _ (List.getElem?_eq_getElem hj)
  rw [hv] at ht
  refine ⟨_, t, Option.some.inj ht, ?_, ?_⟩
  · rw [List.getElem?_reverse (by omega), ← hl]
    exact List.getElem?_eq_getElem hj
  · have := dg_bound (2 ^ (3 : Int).toNat) (by decide) _ a _ (List.getElem_mem hj)
    have e8 : (2 : Int) ^ (3 : Int).toNat = 8 := by decide
    exact ⟨this.1, e8 ▸ this.2⟩
theorem DInv.range {r d : Int} (h : 0 ≤ r ∧ r < 4) (h0 : 0 ≤ d) (h1 : d < 8) : 0 ≤ r * 2 ^ (3 : Int).toNat + d ∧ r * 2 ^ (3 : Int).toNat + d < 1000000 := by
  have e8 : (2 : Int) ^ (3 : Int).toNat = 8 := by decide
  rw [e8]; omega
theorem DInv.done {a : Int} {r : Int} {qvs : List Value} {qns : List Int} {k : Nat} (hk : k = nd 3 a) (D : DInv a k r qvs qns) : (r, qns) = dmp a := by
  obtain ⟨_, _, _, _, he⟩ := D
  rw [he]
  unfold dmp
  rw [List.take_of_length_le]
  rw [List.length_reverse, dg_length, hk]; exact Nat.le_refl _
theorem listOf_snoc (qvs : List Value) (v : Value) : W.listOf (qvs ++ [v]).toArray (qvs ++ [v]).length = W.listOf (qvs.toArray.push v) (qvs.length + 1) := by simp
theorem ints_rev : ∀ {vs : List Value} {ns : List Int}, IntsAre vs ns → IntsAre vs.reverse ns.reverse
  | _, _, .nil => .nil
  | _, _, .cons i t h => by rw [List.reverse_cons, List.reverse_cons]; exact ints_snoc (ints_rev h)
theorem dmp_specP {w ls mean mg mb H0} (C : Core w ls mean mg mb H0) (a : Int) (ta tb : Nat) (ha : 0 ≤ a) (hk : nd 3 a ≤ 16) :
    SpecP w H0 73 160 [.int a ta, .int 4 tb] (fun h => Full54 h ∧ Full61 h) (fun h r h' => ∃ D t1 t2, r = .ref D ∧ h.objs.size ≤ D ∧ h'.get? D = some (tupOf #[.int (seg (2 ^ (3 : Int).toNat) (dmp a).2.reverse) t1, .int (dmp a).1 t2])) := by
  intro A s Q E st hh hd hu hf hret
  refine lift hh hd hu ?_
  walk_at "enterP"
  k_with_none
  k_with "call ref" => refine Hold.mk ?_
  k_with "pyIter ref" => refine Hold.mk ?_
  k_steps
  show wpAny _ _ _ _ _ _
  rename Fr _ _ _ _ => F0
  rename News _ _ _ _ => N0
  refine SpecP.use (i2d_spec C a 3 _ _ ha (by decide) (by decide) hk (by omega)).toP F0 N0 st rfl ?_ ?_ ⟨full54_keep hf.1 F0.keep, trivial⟩ ?_
  · show 160 + 400 + 1 ≤ _; omega
  · show 10 * 160 + 3 ≤ _; omega
  rintro r h1 tk1 kp1 F1 N1 ⟨ad, avs, rfl, e1, e2, e3⟩
  obtain ⟨N2, l2⟩ := news_add F0 N0 N1 e1 e2
  have hsz : s.heap.objs.size ≤ ad := Nat.le_trans (Nat.le_of_lt (Nat.lt_of_le_of_lt F0.above F0.ns.lt)) e1
  clear F0 N0 N1
  k_lt l2
  dsimp only
  k_steps
  show wpAny _ _ _ _ _ _
  rename Fr _ _ _ _ => F0
  rename News _ _ _ _ => N0
  rename _ < _ ∧ _ < _ => lz
  rename_i qd hA lA hB D hC
  have hlen : avs.length = nd 3 a := e3.length.trans (dg_length _ _ _)
  refine forR (σ := Int × Nat × Nat × List Value × List Int) (N0.isList (by k_mem)) (N0.get (.head _)) (N0.fresh (.head _)) (fun c => [(qd, W.listOf c.2.2.2.1.toArray c.2.2.2.1.length)]) (fun c => [(PySem.Str.ofString "b", .int 4 tb), (PySem.Str.ofString "n", .int 3 c.2.2.1), (PySem.Str.ofString "q_digits", .ref qd), (PySem.Str.ofString "r", .int c.1 c.2.1)])
    (fun i c => DInv a i c.1 c.2.2.2.1 c.2.2.2.2) [qd] (0, _, _, [], []) rfl
    (N0 _ (.tail _ (.tail _ (.head _)))).2.1 (N0 _ (.head _)).2.1 (by k_ne) (by intro b hb; rw [List.mem_singleton.mp hb]; exact ⟨by k_ne, by k_ne⟩) (by intro c p hp; rw [List.mem_singleton.mp hp]; k_ne) F0 (fun p hp => N0 p (by rw [List.mem_singleton.mp hp]; exact .tail _ (.head _))) (by walk_at "same") (DInv.start a) ?_ ?_
  · rintro i v ⟨r, tr, tn, qvs, qns⟩ m own h tk hi hv DI hoff F N
    obtain ⟨d, t, rfl, hd1, hd2, hd3⟩ := DInv.digit e3 hi hv
    have hr := DI.1
    dsimp only at hr DI F N
    clear F0 N0
    k_steps
    show wpAny _ _ _ _ _ _
    rename Fr _ _ _ _ => F0
    rename News _ _ _ _ => N0
    refine SpecP.use (div_spec C _ 4 3 _ _ _ (DInv.range hr hd2 hd3).1 (DInv.range hr hd2 hd3).2 (by decide) (by decide) (by decide)) F0 N0 st rfl ?_ ?_ trivial ?_
    · show 160 + 400 + 1 ≤ _; omega
    · show 10 * 160 + 3 ≤ _; omega
    rintro r1 h1 tk1 kp1 F1 N1 ⟨td, t1, t2, rfl, e4, e5⟩
    obtain ⟨N2, l2⟩ := news_add F0 N0 N1 e4 e5
    have l3 := l2 _ (.head _)
    clear F0 N0 N1 l2
    dsimp only at l3
    replace l3 := ltN l3
    simp only [List.cons_append, List.nil_append] at N2
    have hqs : qvs.length ≤ 16 := by rw [DI.2.1.length, DI.2.2.1]; omega
    dsimp only
    k_steps
    rename Fr _ _ _ _ => F0
    rename News _ _ _ _ => N0
    exact ⟨((r * 2 ^ (3 : Int).toNat + d).fmod 4, t2, tn, qvs ++ [.int ((r * 2 ^ (3 : Int).toNat + d).fdiv 4) t1], qns ++ [(r * 2 ^ (3 : Int).toNat + d).fdiv 4]), _, _, _, _, rfl, F0, N0, by intro p hp; rw [List.mem_singleton.mp hp]; dsimp only; rw [listOf_snoc]; exact .tail _ (.head _), fun p hp => .tail _ (.tail _ hp), by walk_at "same", DI.step hd1⟩
  · rintro ⟨r, tr, tn, qvs, qns⟩ m h tk DI F N
    have hdone := DI.done hlen
    dsimp only at DI F N
    have hqs : qvs.length ≤ 16 := by rw [DI.2.1.length, DI.2.2.1]; omega
    clear F0 N0
    try dsimp only
    k_steps
    show wpAny _ _ _ _ _ _
    rename Fr _ _ _ _ => F0
    rename News _ _ _ _ => N0
    have hr1 := ints_rev DI.2.1
    have hr2 : qns.reverse.length ≤ 16 := by rw [List.length_reverse, ← DI.2.1.length]; exact hqs
    refine SpecP.use (d2i_specP C qd 3 _ (by decide) (by decide) qvs.reverse qns.reverse hr1 hr2 (by omega) fun q hq => DI.2.2.2.1 q (List.mem_reverse.mp hq)) F0 N0 st rfl ?_ ?_ ⟨full61_keep hf.2 F0.keep, N0.isList (by k_mem)⟩ ?_
    · show 160 + 400 + 1 ≤ _; omega
    · show 10 * 160 + 3 ≤ _; omega
    rintro r1 h1 tk1 kp1 F1 N1 ⟨t1, rfl⟩
    clear F0 N0
    dsimp only
    k_steps
    try dsimp only
    rename Fr _ _ _ _ => F6
    rename News _ _ _ _ => N6
    rename qd < _ => l7
    exact hret _ _ _ F6.keep ⟨_, _, _, rfl, Nat.le_trans hsz (Nat.le_of_lt (Nat.lt_trans lA l7)), by rw [← hdone]; exact (N6 _ (.head _)).1⟩
end Mine
namespace Mine
open PySem PySem.W PyProof.Rows PySem.Spec PySem.Calls
theorem clrD7 : True := by
  w_top off
  k_with_none
  trivial
local macro_rules | `(tactic| walk_at $s:str) => `(tactic| k_extra $s)
local macro_rules | `(tactic| walk_at "same") => `(tactic| repeat' (first | exact List.forall_mem_nil _ | refine List.forall_mem_cons.mpr ⟨by with_unfolding_all rfl, ?_⟩))
local macro_rules | `(tactic| walk_at "enterP") => `(tactic| k_dflt (refine' enterP ?kC0 ?kS0 ?k6 ?k7 ?k8 ?k9 ?kB ?_ ?c2 ?c3 ?c4 ?c5; (case kC0 => assumption); (case kS0 => assumption); (case k6 => k_is); (case k7 => k_is); (case k8 => decide); (case k9 => first | exact BindsTo.of_eq rfl | (refine' kp_binds ?kx ?ke; (case kx => exact Frag.In.keeps (Core.X (by assumption)) (by assumption)); (case ke => exact fun _ => rfl))); (case c5 => decide); (case kB => exact locs rfl); (case c2 => exact rfl); (case c3 => exact rfl); (case c4 => exact rfl); k_whole; intro L' h' X' T' C1' C2' F' N'; (try dsimp only); (try k_fold)))
local macro_rules | `(tactic| walk_at "enterX0") => `(tactic| k_dflt (refine' enterX0 ?kC0 ?kS0 ?ko ?kd ?k7 ?k8 ?k9 ?kB ?_ ?c2 ?c3 ?c4 ?c5; (case kC0 => assumption); (case kS0 => assumption); (case ko => assumption); (case kd => exact rfl); (case k7 => assumption); (case k8 => first | decide | (show _ < 1000; omega)); (case k9 => exact BindsTo.of_eq rfl); (case c5 => decide); (case kB => exact locs rfl); (case c2 => exact rfl); (case c3 => exact rfl); (case c4 => exact rfl); k_whole; intro L' h' X' T' C1' C2' F' N'; (try dsimp only); (try k_fold)))
local macro_rules | `(tactic| walk_at "enterC") => `(tactic| k_dflt (refine' enterC ?kC0 ?kS0 ?kn ?kt ?k6 ?k7 ?k8 ?k9 ?kB ?kD ?_ ?c2 ?c3 ?c4; (case kC0 => assumption); (case kS0 => assumption); (case kn => assumption); (case kt => assumption); (case k6 => k_is); (case k7 => k_is); (case k8 => decide); (case k9 => first | exact BindsTo.of_eq rfl | (refine' kp_binds ?kx ?ke; (case kx => exact Frag.In.keeps (Core.X (by assumption)) (by assumption)); (case ke => exact fun _ => rfl))); (case kB => exact rfl); (case kD => decide +kernel); (case c2 => exact rfl); (case c3 => exact rfl); (case c4 => exact rfl); k_whole; intro g' L' h' tk' cells' G' X' T' C1' C2' F' N' Y' l1; (try k_lt l1); k_cells Y'; (try simp only [List.cons_append, List.nil_append] at N'); (try dsimp only); (try k_fold)))
local macro_rules | `(tactic| walk_at "enterPt") => `(tactic| k_dflt (refine' enterPt ?kC0 ?kS0 ?kn ?kt ?k6 ?k7 ?k8 ?k9 ?kB ?_ ?c2 ?c3 ?c4 ?c5; (case kC0 => assumption); (case kS0 => assumption); (case kn => assumption); (case kt => assumption); (case k6 => k_is); (case k7 => k_is); (case k8 => decide); (case k9 => first | exact BindsTo.of_eq rfl | (refine' kp_binds ?kx ?ke; (case kx => exact Frag.In.keeps (Core.X (by assumption)) (by assumption)); (case ke => exact fun _ => rfl))); (case c5 => decide); (case kB => exact locs rfl); (case c2 => exact rfl); (case c3 => exact rfl); (case c4 => exact rfl); k_whole; intro g' L' h' G' X' T' C1' C2' F' N' l1; (try k_lt l1); (try dsimp only); (try k_fold)))
theorem short_fits2 {vs : List Value} (h : vs.length ≤ 16) : vs.toArray.toList.length ≤ sizeLine := by
  rw [sizeLine_eq]; simp; omega
theorem dmp_specU {w ls mean mg mb H0} (C : Core w ls mean mg mb H0) (a : Int) (ta tb : Nat) (ha : 0 ≤ a) (hk : nd 3 a ≤ 16) :
    SpecU w H0 73 160 [.int a ta, .int 4 tb] Full54 (fun h r h' => ∃ D t1 t2, r = .ref D ∧ h.objs.size ≤ D ∧ h'.get? D = some (tupOf #[.int (seg (2 ^ (3 : Int).toNat) (dmp a).2.reverse) t1, .int (dmp a).1 t2])) := by
  intro A s Q E st hh hd hu he hf hret
  refine lift hh hd hu ?_
  have kn : ∀ p ∈ [((61 : Addr), tabObj #[])], H0.get? p.1 = none := List.forall_mem_cons.mpr ⟨C.n61, List.forall_mem_nil _⟩
  have kt : ∀ p ∈ [((61 : Addr), tabObj #[])], s.heap.get? p.1 = some p.2 := List.forall_mem_cons.mpr ⟨he, List.forall_mem_nil _⟩
  walk_at "enterPt"
  rename Gd _ _ _ _ => G
  have h54 := G.full54 he (by intro q t z; cases z) hf
  k_with_none
  k_with "call ref" => refine Hold.mk ?_
  k_with "pyIter ref" => refine Hold.mk ?_
  k_steps
  show wpAny _ _ _ _ _ _
  rename Fr _ _ _ _ => F0
  rename News _ _ _ _ => N0
  refine SpecP.use (i2d_spec C a 3 _ _ ha (by decide) (by decide) hk (by omega)).toP F0 N0 G.st rfl ?_ ?_ ⟨full54_keep h54 F0.keep, trivial⟩ ?_
  · show 160 + 400 + 1 ≤ _; omega
  · show 10 * 160 + 3 ≤ _; omega
  rintro r h1 tk1 kp1 F1 N1 ⟨ad, avs, rfl, e1, e2, e3⟩
  obtain ⟨N2, l2⟩ := news_add F0 N0 N1 e1 e2
  have hsz : s.heap.objs.size ≤ ad := Nat.le_trans (G.size ▸ Nat.le_of_lt (Nat.lt_of_le_of_lt F0.above F0.ns.lt)) e1
  clear F0 N0 N1
  k_lt l2
  dsimp only
  k_steps
  show wpAny _ _ _ _ _ _
  rename Fr _ _ _ _ => F0
  rename News _ _ _ _ => N0
  rename _ < _ ∧ _ < _ ∧ _ < _ => lz
  rename_i qd hA lA hB D hC
  have hlen : avs.length = nd 3 a := e3.length.trans (dg_length _ _ _)
  refine forR (σ := Int × Nat × Nat × List Value × List Int) (N0.isList (by k_mem)) (N0.get (.head _)) (N0.fresh (.head _)) (fun c => [(qd, W.listOf c.2.2.2.1.toArray c.2.2.2.1.length), (61, tabObj #[])]) (fun c => [(PySem.Str.ofString "b", .int 4 tb), (PySem.Str.ofString "n", .int 3 c.2.2.1), (PySem.Str.ofString "q_digits", .ref qd), (PySem.Str.ofString "r", .int c.1 c.2.1)])
    (fun i c => DInv a i c.1 c.2.2.2.1 c.2.2.2.2) [qd] (0, _, _, [], []) rfl
    (N0 _ (.tail _ (.tail _ (.head _)))).2.1 (N0 _ (.head _)).2.1 (by k_ne) (by intro b hb; rw [List.mem_singleton.mp hb]; exact ⟨by k_ne, by k_ne⟩) (by intro c; exact List.forall_mem_cons.mpr ⟨by k_ne, List.forall_mem_cons.mpr ⟨by k_ne, List.forall_mem_nil _⟩⟩) F0 (List.forall_mem_cons.mpr ⟨N0 _ (.tail _ (.head _)), List.forall_mem_cons.mpr ⟨N0 _ (.tail _ (.tail _ (.tail _ (.head _)))), List.forall_mem_nil _⟩⟩) (by walk_at "same") (DInv.start a) ?_ ?_
  · rintro i v ⟨r, tr, tn, qvs, qns⟩ m own h tk hi hv DI hoff F N
    obtain ⟨d, t, rfl, hd1, hd2, hd3⟩ := DInv.digit e3 hi hv
    have hr := DI.1
    dsimp only at hr DI F N
    clear F0 N0
    k_steps
    show wpAny _ _ _ _ _ _
    rename Fr _ _ _ _ => F0
    rename News _ _ _ _ => N0
    refine SpecP.use (div_spec C _ 4 3 _ _ _ (DInv.range hr hd2 hd3).1 (DInv.range hr hd2 hd3).2 (by decide) (by decide) (by decide)) F0 N0 G.st rfl ?_ ?_ trivial ?_
    · show 160 + 400 + 1 ≤ _; omega
    · show 10 * 160 + 3 ≤ _; omega
    rintro r1 h1 tk1 kp1 F1 N1 ⟨td, t1, t2, rfl, e4, e5⟩
    obtain ⟨N2, l2⟩ := news_add F0 N0 N1 e4 e5
    have l3 := l2 _ (.head _)
    clear F0 N0 N1 l2
    dsimp only at l3
    replace l3 := ltN l3
    simp only [List.cons_append, List.nil_append] at N2
    have hqs : qvs.length ≤ 16 := by rw [DI.2.1.length, DI.2.2.1]; omega
    dsimp only
    k_steps
    rename Fr _ _ _ _ => F0
    rename News _ _ _ _ => N0
    exact ⟨((r * 2 ^ (3 : Int).toNat + d).fmod 4, t2, tn, qvs ++ [.int ((r * 2 ^ (3 : Int).toNat + d).fdiv 4) t1], qns ++ [(r * 2 ^ (3 : Int).toNat + d).fdiv 4]), _, _, _, _, rfl, F0, N0, List.forall_mem_cons.mpr ⟨by dsimp only; rw [listOf_snoc]; exact .tail _ (.head _), List.forall_mem_cons.mpr ⟨.tail _ (.tail _ (.head _)), List.forall_mem_nil _⟩⟩, fun p hp => .tail _ (.tail _ (.tail _ hp)), by walk_at "same", DI.step hd1⟩
  · rintro ⟨r, tr, tn, qvs, qns⟩ m h tk DI F N
    have hdone := DI.done hlen
    dsimp only at DI F N
    have hqs : qvs.length ≤ 16 := by rw [DI.2.1.length, DI.2.2.1]; omega
    k_with "call builtin:list.reverse" => (k_dflt (refine' kl_reverse (its := qvs.toArray) (l := qvs.reverse) ?F ?N ?e ?U ?z ?_; (case F => k_asm); (case N => k_asm); (case e => exact rfl); (case U => k_upd); (case z => exact short_fits2 hqs)); intro h' F' N'; (try k_sweep))
    clear F0 N0
    try dsimp only
    k_steps
    show wpAny _ _ _ _ _ _
    rename Fr _ _ _ _ => F0
    rename News _ _ _ _ => N0
    have hr1 := ints_rev DI.2.1
    have hr2 : qns.reverse.length ≤ 16 := by rw [List.length_reverse, ← DI.2.1.length]; exact hqs
    have l61 : (qd : Addr) ≠ 61 := Nat.ne_of_gt lA.2
    refine SpecU.use [(qd, _)] (d2i_specU C qd 3 _ (by decide) (by decide) qvs.reverse qns.reverse hr1 hr2 (by omega) fun q hq => DI.2.2.2.1 q (List.mem_reverse.mp hq)) F0 N0 G.st rfl ?_ ?_ (.tail _ (.head _)) (fun p hp => by rw [List.mem_singleton.mp hp]; exact .head _) (fun p hp => by rw [List.mem_singleton.mp hp]; exact l61) (N0.isList (by k_mem)) ?_
    · show 160 + 400 + 1 ≤ _; omega
    · show 10 * 160 + 3 ≤ _; omega
    rintro r1 h1 tk1 tl F1 N1 FB kp1 ⟨t1, rfl⟩
    clear F0 N0
    simp only [List.cons_append, List.nil_append] at N1
    dsimp only
    k_steps
    try dsimp only
    rename Fr _ _ _ _ => F6
    rename News _ _ _ _ => N6
    rename qd < _ ∧ _ => l7
    exact hret _ _ _ (fun b o hb e => F6.keep _ _ (G.sup _ _ (by simpa using hb) e)) (G.freshU <| FB _ F6.keep fun p hp => (N6 p (.tail _ (.tail _ hp))).1) ⟨_, _, _, rfl, Nat.le_trans hsz (Nat.le_of_lt (Nat.lt_trans lA.1 l7.1)), by rw [← hdone]; exact (N6 _ (.head _)).1⟩
end Mine
namespace Mine
open PySem PySem.W PyProof.Rows PySem.Spec PySem.Calls
theorem clrD8 : True := by
  w_top off
  k_with_none
  trivial
local macro_rules | `(tactic| walk_at $s:str) => `(tactic| k_extra $s)
local macro_rules | `(tactic| walk_at "same") => `(tactic| repeat' (first | exact List.forall_mem_nil _ | refine List.forall_mem_cons.mpr ⟨by with_unfolding_all rfl, ?_⟩))
local macro_rules | `(tactic| walk_at "enterP") => `(tactic| k_dflt (refine' enterP ?kC0 ?kS0 ?k6 ?k7 ?k8 ?k9 ?kB ?_ ?c2 ?c3 ?c4 ?c5; (case kC0 => assumption); (case kS0 => assumption); (case k6 => k_is); (case k7 => k_is); (case k8 => decide); (case k9 => first | exact BindsTo.of_eq rfl | (refine' kp_binds ?kx ?ke; (case kx => exact Frag.In.keeps (Core.X (by assumption)) (by assumption)); (case ke => exact fun _ => rfl))); (case c5 => decide); (case kB => exact locs rfl); (case c2 => exact rfl); (case c3 => exact rfl); (case c4 => exact rfl); k_whole; intro L' h' X' T' C1' C2' F' N'; (try dsimp only); (try k_fold)))
local macro_rules | `(tactic| walk_at "enterX0") => `(tactic| k_dflt (refine' enterX0 ?kC0 ?kS0 ?ko ?kd ?k7 ?k8 ?k9 ?kB ?_ ?c2 ?c3 ?c4 ?c5; (case kC0 => assumption); (case kS0 => assumption); (case ko => assumption); (case kd => exact rfl); (case k7 => assumption); (case k8 => first | decide | (show _ < 1000; omega)); (case k9 => exact BindsTo.of_eq rfl); (case c5 => decide); (case kB => exact locs rfl); (case c2 => exact rfl); (case c3 => exact rfl); (case c4 => exact rfl); k_whole; intro L' h' X' T' C1' C2' F' N'; (try dsimp only); (try k_fold)))
local macro_rules | `(tactic| walk_at "enterC") => `(tactic| k_dflt (refine' enterC ?kC0 ?kS0 ?kn ?kt ?k6 ?k7 ?k8 ?k9 ?kB ?kD ?_ ?c2 ?c3 ?c4; (case kC0 => assumption); (case kS0 => assumption); (case kn => assumption); (case kt => assumption); (case k6 => k_is); (case k7 => k_is); (case k8 => decide); (case k9 => first | exact BindsTo.of_eq rfl | (refine' kp_binds ?kx ?ke; (case kx => exact Frag.In.keeps (Core.X (by assumption)) (by assumption)); (case ke => exact fun _ => rfl))); (case kB => exact rfl); (case kD => decide +kernel); (case c2 => exact rfl); (case c3 => exact rfl); (case c4 => exact rfl); k_whole; intro g' L' h' tk' cells' G' X' T' C1' C2' F' N' Y' l1; (try k_lt l1); k_cells Y'; (try simp only [List.cons_append, List.nil_append] at N'); (try dsimp only); (try k_fold)))
local macro_rules | `(tactic| walk_at "enterPt") => `(tactic| k_dflt (refine' enterPt ?kC0 ?kS0 ?kn ?kt ?k6 ?k7 ?k8 ?k9 ?kB ?_ ?c2 ?c3 ?c4 ?c5; (case kC0 => assumption); (case kS0 => assumption); (case kn => assumption); (case kt => assumption); (case k6 => k_is); (case k7 => k_is); (case k8 => decide); (case k9 => first | exact BindsTo.of_eq rfl | (refine' kp_binds ?kx ?ke; (case kx => exact Frag.In.keeps (Core.X (by assumption)) (by assumption)); (case ke => exact fun _ => rfl))); (case c5 => decide); (case kB => exact locs rfl); (case c2 => exact rfl); (case c3 => exact rfl); (case c4 => exact rfl); k_whole; intro g' L' h' G' X' T' C1' C2' F' N' l1; (try k_lt l1); (try dsimp only); (try k_fold)))

def qo (a : Int) : Int := seg (2 ^ (3 : Int).toNat) (dmp a).2.reverse
theorem nd3_small {a : Int} (h0 : 0 ≤ a) (h : a ≤ 1000) : nd 3 a ≤ 16 := by
  unfold nd
  have h1 : Builtin.Int.intBits a ≤ 10 := intBits_le_iff.mpr (by omega)
  have e : ((Builtin.Int.intBits a : Int) + 3 - 1).fdiv 3 = ((Builtin.Int.intBits a : Int) + 3 - 1) / 3 := Int.fdiv_eq_ediv_of_nonneg _ (by omega)
  rw [e]; omega
theorem news_addU {g h h' : Heap} {L D : Addr} {m : Str → Option Value} {o : Obj} {news : List (Addr × Obj)} (F : Fr g L h m) (N' : News g L h' news) (e0 : h.objs.size ≤ D) (e1 : h'.get? D = some o) :
    News g L h' ((D, o) :: news) := by
  intro p hp
  rcases List.mem_cons.mp hp with rfl | hp
  · refine ⟨e1, Nat.ne_of_gt (Nat.lt_of_lt_of_le F.ns.lt e0), ?_⟩
    cases q : g.get? D with
    | none => rfl
    | some x => exact absurd (Nat.lt_of_lt_of_le (Heap.lt_size (F.keep _ _ q)) e0) (Nat.lt_irrefl _)
  · exact N' p hp
theorem idm_specP {w ls mean mg mb H0} (C : Core w ls mean mg mb H0) (a : Int) (ta tb : Nat) (ha : 0 ≤ a) (ha2 : a ≤ 1000) :
    SpecP w H0 80 140 [.int a ta, .int 4 tb] (fun h => Full54 h ∧ Full61 h) (fun h r h' => ∃ D t1 t2, r = .ref D ∧ h.objs.size ≤ D ∧ h'.get? D = some (tupOf #[.int (qo a) t1, .int ((dmp a).1) t2])) := by
  intro A s Q E st hh hd hu hf hret
  refine lift hh hd hu ?_
  walk_at "enterP"
  k_with_none
  k_with "call ref" => refine Hold.mk ?_
  k_steps
  show wpAny _ _ _ _ _ _
  rename Fr _ _ _ _ => F0
  rename News _ _ _ _ => N0
  refine SpecP.use (dmp_specP C a _ _ ha (nd3_small ha ha2)) F0 N0 st rfl ?_ ?_ ⟨full54_keep hf.1 F0.keep, full61_keep hf.2 F0.keep⟩ ?_
  · show 140 + 400 + 1 ≤ _; omega
  · show 10 * 140 + 3 ≤ _; omega
  rintro r1 h1 tk1 kp1 F1 N1 ⟨td, t1, t2, rfl, e4, e5⟩
  obtain ⟨N2, l2⟩ := news_add F0 N0 N1 e4 e5
  have hsz : s.heap.objs.size ≤ td := Nat.le_trans (Nat.le_of_lt (Nat.lt_of_le_of_lt F0.above F0.ns.lt)) e4
  clear F0 N0 N1
  dsimp only
  k_steps
  rename Fr _ _ _ _ => F6
  rename News _ _ _ _ => N6
  try dsimp only
  exact hret _ _ _ F6.keep ⟨_, _, _, rfl, hsz, (N6 _ (.head _)).1⟩
theorem idm_specU {w ls mean mg mb H0} (C : Core w ls mean mg mb H0) (a : Int) (ta tb : Nat) (ha : 0 ≤ a) (ha2 : a ≤ 1000) :
    SpecU w H0 80 140 [.int a ta, .int 4 tb] Full54 (fun h r h' => ∃ D t1 t2, r = .ref D ∧ h.objs.size ≤ D ∧ h'.get? D = some (tupOf #[.int (qo a) t1, .int ((dmp a).1) t2])) := by
  intro A s Q E st hh hd hu he hf hret
  refine lift hh hd hu ?_
  have kn : ∀ p ∈ [((61 : Addr), tabObj #[])], H0.get? p.1 = none := List.forall_mem_cons.mpr ⟨C.n61, List.forall_mem_nil _⟩
  have kt : ∀ p ∈ [((61 : Addr), tabObj #[])], s.heap.get? p.1 = some p.2 := List.forall_mem_cons.mpr ⟨he, List.forall_mem_nil _⟩
  walk_at "enterPt"
  rename Gd _ _ _ _ => G
  have h54 := G.full54 he (by intro q t z; cases z) hf
  k_with_none
  k_with "call ref" => refine Hold.mk ?_
  k_steps
  show wpAny _ _ _ _ _ _
  rename Fr _ _ _ _ => F0
  rename News _ _ _ _ => N0
  refine SpecU.use [] (dmp_specU C a _ _ ha (nd3_small ha ha2)) F0 N0 G.st rfl ?_ ?_ (.head _) (List.forall_mem_nil _) (List.forall_mem_nil _) (full54_keep h54 F0.keep) ?_
  · show 140 + 400 + 1 ≤ _; omega
  · show 10 * 140 + 3 ≤ _; omega
  rintro r1 h1 tk1 tl F1 N1 FB kp1 ⟨td, t1, t2, rfl, e4, e5⟩
  simp only [List.nil_append] at N1
  have N2 := news_addU F0 N1 e4 e5
  have hsz : s.heap.objs.size ≤ td := Nat.le_trans (G.size ▸ Nat.le_of_lt (Nat.lt_of_le_of_lt F0.above F0.ns.lt)) e4
  clear F0 N0 N1
  dsimp only
  k_steps
  rename Fr _ _ _ _ => F6
  rename News _ _ _ _ => N6
  try dsimp only
  exact hret _ _ _ (fun b o hb e => F6.keep _ _ (G.sup _ _ (by simpa using hb) e)) (G.freshU <| FB _ F6.keep fun p hp => (N6 p (.tail _ hp)).1) ⟨_, _, _, rfl, hsz, (N6 _ (.head _)).1⟩
end Mine
namespace Mine
open PySem PySem.W PyProof.Rows PySem.Spec PySem.Calls
theorem clrD9 : True := by
  w_top off
  k_with_none
  trivial
local macro_rules | `(tactic| walk_at $s:str) => `(tactic| k_extra $s)
local macro_rules | `(tactic| walk_at "same") => `(tactic| repeat' (first | exact List.forall_mem_nil _ | refine List.forall_mem_cons.mpr ⟨by with_unfolding_all rfl, ?_⟩))
local macro_rules | `(tactic| walk_at "enterP") => `(tactic| k_dflt (refine' enterP ?kC0 ?kS0 ?k6 ?k7 ?k8 ?k9 ?kB ?_ ?c2 ?c3 ?c4 ?c5; (case kC0 => assumption); (case kS0 => assumption); (case k6 => k_is); (case k7 => k_is); (case k8 => decide); (case k9 => first | exact BindsTo.of_eq rfl | (refine' kp_binds ?kx ?ke; (case kx => exact Frag.In.keeps (Core.X (by assumption)) (by assumption)); (case ke => exact fun _ => rfl))); (case c5 => decide); (case kB => exact locs rfl); (case c2 => exact rfl); (case c3 => exact rfl); (case c4 => exact rfl); k_whole; intro L' h' X' T' C1' C2' F' N'; (try dsimp only); (try k_fold)))
local macro_rules | `(tactic| walk_at "enterX0") => `(tactic| k_dflt (refine' enterX0 ?kC0 ?kS0 ?ko ?kd ?k7 ?k8 ?k9 ?kB ?_ ?c2 ?c3 ?c4 ?c5; (case kC0 => assumption); (case kS0 => assumption); (case ko => assumption); (case kd => exact rfl); (case k7 => assumption); (case k8 => first | decide | (show _ < 1000; omega)); (case k9 => exact BindsTo.of_eq rfl); (case c5 => decide); (case kB => exact locs rfl); (case c2 => exact rfl); (case c3 => exact rfl); (case c4 => exact rfl); k_whole; intro L' h' X' T' C1' C2' F' N'; (try dsimp only); (try k_fold)))
local macro_rules | `(tactic| walk_at "enterC") => `(tactic| k_dflt (refine' enterC ?kC0 ?kS0 ?kn ?kt ?k6 ?k7 ?k8 ?k9 ?kB ?kD ?_ ?c2 ?c3 ?c4; (case kC0 => assumption); (case kS0 => assumption); (case kn => assumption); (case kt => assumption); (case k6 => k_is); (case k7 => k_is); (case k8 => decide); (case k9 => first | exact BindsTo.of_eq rfl | (refine' kp_binds ?kx ?ke; (case kx => exact Frag.In.keeps (Core.X (by assumption)) (by assumption)); (case ke => exact fun _ => rfl))); (case kB => exact rfl); (case kD => decide +kernel); (case c2 => exact rfl); (case c3 => exact rfl); (case c4 => exact rfl); k_whole; intro g' L' h' tk' cells' G' X' T' C1' C2' F' N' Y' l1; (try k_lt l1); k_cells Y'; (try simp only [List.cons_append, List.nil_append] at N'); (try dsimp only); (try k_fold)))
local macro_rules | `(tactic| walk_at "enterPt") => `(tactic| k_dflt (refine' enterPt ?kC0 ?kS0 ?kn ?kt ?k6 ?k7 ?k8 ?k9 ?kB ?_ ?c2 ?c3 ?c4 ?c5; (case kC0 => assumption); (case kS0 => assumption); (case kn => assumption); (case kt => assumption); (case k6 => k_is); (case k7 => k_is); (case k8 => decide); (case k9 => first | exact BindsTo.of_eq rfl | (refine' kp_binds ?kx ?ke; (case kx => exact Frag.In.keeps (Core.X (by assumption)) (by assumption)); (case ke => exact fun _ => rfl))); (case c5 => decide); (case kB => exact locs rfl); (case c2 => exact rfl); (case c3 => exact rfl); (case c4 => exact rfl); k_whole; intro g' L' h' G' X' T' C1' C2' F' N' l1; (try k_lt l1); (try dsimp only); (try k_fold)))
theorem idn_specP {w ls mean mg mb H0} (C : Core w ls mean mg mb H0) (a : Int) (ta tb : Nat) (ha : a ≤ 0) (ha2 : -1000 ≤ a) :
    SpecP w H0 80 138 [.int a ta, .int (-4) tb] (fun h => Full54 h ∧ Full61 h) (fun h r h' => ∃ D t1 t2, r = .ref D ∧ h.objs.size ≤ D ∧ h'.get? D = some (tupOf #[.int (qo (-a)) t1, .int (-(dmp (-a)).1) t2])) := by
  intro A s Q E st hh hd hu hf hret
  refine lift hh hd hu ?_
  walk_at "enterP"
  k_with_none
  k_with "call ref" => refine Hold.mk ?_
  k_steps
  show wpAny _ _ _ _ _ _
  rename Fr _ _ _ _ => F0
  rename News _ _ _ _ => N0
  refine SpecP.use (idm_specP C (-a) _ _ (by omega) (by omega)) F0 N0 st rfl ?_ ?_ ⟨full54_keep hf.1 F0.keep, full61_keep hf.2 F0.keep⟩ ?_
  · show 138 + 400 + 1 ≤ _; omega
  · show 10 * 138 + 3 ≤ _; omega
  rintro r1 h1 tk1 kp1 F1 N1 ⟨td, t1, t2, rfl, e4, e5⟩
  obtain ⟨N2, l2⟩ := news_add F0 N0 N1 e4 e5
  have hsz : s.heap.objs.size ≤ td := Nat.le_trans (Nat.le_of_lt (Nat.lt_of_le_of_lt F0.above F0.ns.lt)) e4
  clear F0 N0 N1
  dsimp only
  k_steps
  rename td < _ => lz
  rename Fr _ _ _ _ => F6
  rename News _ _ _ _ => N6
  try dsimp only
  exact hret _ _ _ F6.keep ⟨_, _, _, rfl, Nat.le_trans hsz (Nat.le_of_lt lz), (N6 _ (.head _)).1⟩
theorem idn_specU {w ls mean mg mb H0} (C : Core w ls mean mg mb H0) (a : Int) (ta tb : Nat) (ha : a ≤ 0) (ha2 : -1000 ≤ a) :
    SpecU w H0 80 138 [.int a ta, .int (-4) tb] Full54 (fun h r h' => ∃ D t1 t2, r = .ref D ∧ h.objs.size ≤ D ∧ h'.get? D = some (tupOf #[.int (qo (-a)) t1, .int (-(dmp (-a)).1) t2])) := by
  intro A s Q E st hh hd hu he hf hret
  refine lift hh hd hu ?_
  have kn : ∀ p ∈ [((61 : Addr), tabObj #[])], H0.get? p.1 = none := List.forall_mem_cons.mpr ⟨C.n61, List.forall_mem_nil _⟩
  have kt : ∀ p ∈ [((61 : Addr), tabObj #[])], s.heap.get? p.1 = some p.2 := List.forall_mem_cons.mpr ⟨he, List.forall_mem_nil _⟩
  walk_at "enterPt"
  rename Gd _ _ _ _ => G
  have h54 := G.full54 he (by intro q t z; cases z) hf
  k_with_none
  k_with "call ref" => refine Hold.mk ?_
  k_steps
  show wpAny _ _ _ _ _ _
  rename Fr _ _ _ _ => F0
  rename News _ _ _ _ => N0
  refine SpecU.use [] (idm_specU C (-a) _ _ (by omega) (by omega)) F0 N0 G.st rfl ?_ ?_ (.head _) (List.forall_mem_nil _) (List.forall_mem_nil _) (full54_keep h54 F0.keep) ?_
  · show 138 + 400 + 1 ≤ _; omega
  · show 10 * 138 + 3 ≤ _; omega
  rintro r1 h1 tk1 tl F1 N1 FB kp1 ⟨td, t1, t2, rfl, e4, e5⟩
  simp only [List.nil_append] at N1
  have N2 := news_addU F0 N1 e4 e5
  have hsz : s.heap.objs.size ≤ td := Nat.le_trans (G.size ▸ Nat.le_of_lt (Nat.lt_of_le_of_lt F0.above F0.ns.lt)) e4
  clear F0 N0 N1
  dsimp only
  k_steps
  rename td < _ ∧ _ => lz0
  have lz := lz0.1
  rename Fr _ _ _ _ => F6
  rename News _ _ _ _ => N6
  try dsimp only
  exact hret _ _ _ (fun b o hb e => F6.keep _ _ (G.sup _ _ (by simpa using hb) e)) (G.freshU <| FB _ F6.keep fun p hp => (N6 p (.tail _ (.tail _ hp))).1) ⟨_, _, _, rfl, Nat.le_trans hsz (Nat.le_of_lt lz), (N6 _ (.head _)).1⟩
def qu (share : Int) : Int := if share > 0 then qo (share + 2) else -qo (-(share - 2))
theorem qu_specP {w ls mean mg mb H0} (C : Core w ls mean mg mb H0) (x : Int) (tx : Nat) (h0 : -900 ≤ x) (h1 : x ≤ 900) :
    SpecP w H0 289 136 [.int x tx] (fun h => Full54 h ∧ Full61 h) (fun _ r _ => ∃ t, r = .int (qu x) t) := by
  intro A s Q E st hh hd hu hf hret
  refine lift hh hd hu ?_
  walk_at "enterP"
  k_with_none
  k_with "call ref" => refine Hold.mk ?_
  k_steps
  · have hq : x > 0 := by omega
    show wpAny _ _ _ _ _ _
    rename Fr _ _ _ _ => F0
    rename News _ _ _ _ => N0
    refine SpecP.use (idm_specP C (x + 2) _ _ (by omega) (by omega)) F0 N0 st rfl ?_ ?_ ⟨full54_keep hf.1 F0.keep, full61_keep hf.2 F0.keep⟩ ?_
    · show 136 + 400 + 1 ≤ _; omega
    · show 10 * 136 + 3 ≤ _; omega
    rintro r1 h1 tk1 kp1 F1 N1 ⟨td, t1, t2, rfl, e4, e5⟩
    obtain ⟨N2, l2⟩ := news_add F0 N0 N1 e4 e5
    have hsz : s.heap.objs.size ≤ td := Nat.le_trans (Nat.le_of_lt (Nat.lt_of_le_of_lt F0.above F0.ns.lt)) e4
    clear F0 N0 N1
    dsimp only
    k_steps
    rename Fr _ _ _ _ => F6
    rename News _ _ _ _ => N6
    try dsimp only
    exact hret _ _ _ F6.keep (intEq (if_pos hq).symm)
  · have hq : ¬ x > 0 := by omega
    show wpAny _ _ _ _ _ _
    rename Fr _ _ _ _ => F0
    rename News _ _ _ _ => N0
    refine SpecP.use (idn_specP C (x - 2) _ _ (by omega) (by omega)) F0 N0 st rfl ?_ ?_ ⟨full54_keep hf.1 F0.keep, full61_keep hf.2 F0.keep⟩ ?_
    · show 136 + 400 + 1 ≤ _; omega
    · show 10 * 136 + 3 ≤ _; omega
    rintro r1 h1 tk1 kp1 F1 N1 ⟨td, t1, t2, rfl, e4, e5⟩
    obtain ⟨N2, l2⟩ := news_add F0 N0 N1 e4 e5
    have hsz : s.heap.objs.size ≤ td := Nat.le_trans (Nat.le_of_lt (Nat.lt_of_le_of_lt F0.above F0.ns.lt)) e4
    clear F0 N0 N1
    dsimp only
    k_steps
    rename Fr _ _ _ _ => F6
    rename News _ _ _ _ => N6
    try dsimp only
    exact hret _ _ _ F6.keep (intEq (if_neg hq).symm)
theorem qu_specU {w ls mean mg mb H0} (C : Core w ls mean mg mb H0) (x : Int) (tx : Nat) (h0 : -900 ≤ x) (h1 : x ≤ 900) :
    SpecU w H0 289 136 [.int x tx] Full54 (fun _ r _ => ∃ t, r = .int (qu x) t) := by
  intro A s Q E st hh hd hu he hf hret
  refine lift hh hd hu ?_
  have kn : ∀ p ∈ [((61 : Addr), tabObj #[])], H0.get? p.1 = none := List.forall_mem_cons.mpr ⟨C.n61, List.forall_mem_nil _⟩
  have kt : ∀ p ∈ [((61 : Addr), tabObj #[])], s.heap.get? p.1 = some p.2 := List.forall_mem_cons.mpr ⟨he, List.forall_mem_nil _⟩
  walk_at "enterPt"
  rename Gd _ _ _ _ => G
  have h54 := G.full54 he (by intro q t z; cases z) hf
  k_with_none
  k_with "call ref" => refine Hold.mk ?_
  k_steps
  · have hq : x > 0 := by omega
    show wpAny _ _ _ _ _ _
    rename Fr _ _ _ _ => F0
    rename News _ _ _ _ => N0
    refine SpecU.use [] (idm_specU C (x + 2) _ _ (by omega) (by omega)) F0 N0 G.st rfl ?_ ?_ (.head _) (List.forall_mem_nil _) (List.forall_mem_nil _) (full54_keep h54 F0.keep) ?_
    · show 136 + 400 + 1 ≤ _; omega
    · show 10 * 136 + 3 ≤ _; omega
    rintro r1 h1 tk1 tl F1 N1 FB kp1 ⟨td, t1, t2, rfl, e4, e5⟩
    simp only [List.nil_append] at N1
    have N2 := news_addU F0 N1 e4 e5
    have hsz : s.heap.objs.size ≤ td := Nat.le_trans (G.size ▸ Nat.le_of_lt (Nat.lt_of_le_of_lt F0.above F0.ns.lt)) e4
    clear F0 N0 N1
    dsimp only
    k_steps
    rename Fr _ _ _ _ => F6
    rename News _ _ _ _ => N6
    try dsimp only
    exact hret _ _ _ (fun b o hb e => F6.keep _ _ (G.sup _ _ (by simpa using hb) e)) (G.freshU <| FB _ F6.keep fun p hp => (N6 p (.tail _ hp)).1) (intEq (if_pos hq).symm)
  · have hq : ¬ x > 0 := by omega
    show wpAny _ _ _ _ _ _
    rename Fr _ _ _ _ => F0
    rename News _ _ _ _ => N0
    refine SpecU.use [] (idn_specU C (x - 2) _ _ (by omega) (by omega)) F0 N0 G.st rfl ?_ ?_ (.head _) (List.forall_mem_nil _) (List.forall_mem_nil _) (full54_keep h54 F0.keep) ?_
    · show 136 + 400 + 1 ≤ _; omega
    · show 10 * 136 + 3 ≤ _; omega
    rintro r1 h1 tk1 tl F1 N1 FB kp1 ⟨td, t1, t2, rfl, e4, e5⟩
    simp only [List.nil_append] at N1
    have N2 := news_addU F0 N1 e4 e5
    have hsz : s.heap.objs.size ≤ td := Nat.le_trans (G.size ▸ Nat.le_of_lt (Nat.lt_of_le_of_lt F0.above F0.ns.lt)) e4
    clear F0 N0 N1
    dsimp only
    k_steps
    rename Fr _ _ _ _ => F6
    rename News _ _ _ _ => N6
    try dsimp only
    exact hret _ _ _ (fun b o hb e => F6.keep _ _ (G.sup _ _ (by simpa using hb) e)) (G.freshU <| FB _ F6.keep fun p hp => (N6 p (.tail _ hp)).1) (intEq (if_neg hq).symm)
end Mine
namespace Mine
open PySem PySem.W PyProof.Rows PySem.Spec PySem.Calls
theorem clrD10 : True := by
  w_top off
  k_with_none
  trivial
local macro_rules | `(tactic| walk_at $s:str) => `(tactic| k_extra $s)
local macro_rules | `(tactic| walk_at "same") => `(tactic| repeat' (first | exact List.forall_mem_nil _ | refine List.forall_mem_cons.mpr ⟨by with_unfolding_all rfl, ?_⟩))
local macro_rules | `(tactic| walk_at "enterP") => `(tactic| k_dflt (refine' enterP ?kC0 ?kS0 ?k6 ?k7 ?k8 ?k9 ?kB ?_ ?c2 ?c3 ?c4 ?c5; (case kC0 => assumption); (case kS0 => assumption); (case k6 => k_is); (case k7 => k_is); (case k8 => decide); (case k9 => first | exact BindsTo.of_eq rfl | (refine' kp_binds ?kx ?ke; (case kx => exact Frag.In.keeps (Core.X (by assumption)) (by assumption)); (case ke => exact fun _ => rfl))); (case c5 => decide); (case kB => exact locs rfl); (case c2 => exact rfl); (case c3 => exact rfl); (case c4 => exact rfl); k_whole; intro L' h' X' T' C1' C2' F' N'; (try dsimp only); (try k_fold)))
local macro_rules | `(tactic| walk_at "enterX0") => `(tactic| k_dflt (refine' enterX0 ?kC0 ?kS0 ?ko ?kd ?k7 ?k8 ?k9 ?kB ?_ ?c2 ?c3 ?c4 ?c5; (case kC0 => assumption); (case kS0 => assumption); (case ko => assumption); (case kd => exact rfl); (case k7 => assumption); (case k8 => first | decide | (show _ < 1000; omega)); (case k9 => exact BindsTo.of_eq rfl); (case c5 => decide); (case kB => exact locs rfl); (case c2 => exact rfl); (case c3 => exact rfl); (case c4 => exact rfl); k_whole; intro L' h' X' T' C1' C2' F' N'; (try dsimp only); (try k_fold)))
local macro_rules | `(tactic| walk_at "enterC") => `(tactic| k_dflt (refine' enterC ?kC0 ?kS0 ?kn ?kt ?k6 ?k7 ?k8 ?k9 ?kB ?kD ?_ ?c2 ?c3 ?c4; (case kC0 => assumption); (case kS0 => assumption); (case kn => assumption); (case kt => assumption); (case k6 => k_is); (case k7 => k_is); (case k8 => decide); (case k9 => first | exact BindsTo.of_eq rfl | (refine' kp_binds ?kx ?ke; (case kx => exact Frag.In.keeps (Core.X (by assumption)) (by assumption)); (case ke => exact fun _ => rfl))); (case kB => exact rfl); (case kD => decide +kernel); (case c2 => exact rfl); (case c3 => exact rfl); (case c4 => exact rfl); k_whole; intro g' L' h' tk' cells' G' X' T' C1' C2' F' N' Y' l1; (try k_lt l1); k_cells Y'; (try simp only [List.cons_append, List.nil_append] at N'); (try dsimp only); (try k_fold)))
local macro_rules | `(tactic| walk_at "enterPt") => `(tactic| k_dflt (refine' enterPt ?kC0 ?kS0 ?kn ?kt ?k6 ?k7 ?k8 ?k9 ?kB ?_ ?c2 ?c3 ?c4 ?c5; (case kC0 => assumption); (case kS0 => assumption); (case kn => assumption); (case kt => assumption); (case k6 => k_is); (case k7 => k_is); (case k8 => decide); (case k9 => first | exact BindsTo.of_eq rfl | (refine' kp_binds ?kx ?ke; (case kx => exact Frag.In.keeps (Core.X (by assumption)) (by assumption)); (case ke => exact fun _ => rfl))); (case c5 => decide); (case kB => exact locs rfl); (case c2 => exact rfl); (case c3 => exact rfl); (case c4 => exact rfl); k_whole; intro g' L' h' G' X' T' C1' C2' F' N' l1; (try k_lt l1); (try dsimp only); (try k_fold)))
/-- a call that fills the table 54 -/
def SpecV (w : World) (H0 : Heap) (f : Addr) (D : Nat) (vs : List Value) (Pre : Heap → Prop) (Post : Heap → Value → Heap → Prop) : Prop :=
  ∀ (A : Around) (s : Shared) (Q E : Value → Shared → Prop), H0.StaysIn s.heap → A.handled = none → A.depth ≤ D + 400 → A.units ≤ 10 * D → s.heap.get? 54 = some (tabObj #[]) → Pre s.heap →
    (∀ r h' tk, (∀ b o, b ≠ 54 → s.heap.get? b = some o → h'.get? b = some o) → Full54 h' → Post s.heap r h' → Q r { s with heap := h', toks := tk }) → wpAny (model pg w) A (call (.ref f) vs) Q E s
theorem SpecT.toV {w : World} {H0 : Heap} {f : Addr} {D : Nat} {vs : List Value} {Pre : Heap → Prop} {Post : Heap → Value → Heap → Prop} (S : SpecT w H0 54 Full54 f D vs Pre Post) : SpecV w H0 f D vs Pre Post :=
  fun A s Q E st hh hd hu he hp k => S A s Q E st hh hd hu (.inl he) hp fun r h' tk a b _ po => k r h' tk a b po
/-- what the ledger must say for the table to be full -/
def FullBy4 (g : Heap) (tl : List (Addr × Obj)) : Prop := ∀ h, Keep g h → (∀ p ∈ tl, h.get? p.1 = some p.2) → Full54 h
theorem full_tail4 {g h h' : Heap} {L : Addr} {m : Str → Option Value} {rest : List (Addr × Obj)} {o : Obj} (F : Fr g L h m) (N : News g L h rest) (n54 : g.get? 54 = none) (hL : L ≠ 54) (hr : ∀ p ∈ rest, p.1 ≠ 54)
    (_ho : h.get? 54 = some o) (k : ∀ b x, b ≠ 54 → h.get? b = some x → h'.get? b = some x) (hf : Full54 h') :
    Fr g L h' m ∧ ∃ tl, News g L h' (rest ++ tl) ∧ FullBy4 g tl := by
  obtain ⟨oL, es, ep, hLo, hLd, r⟩ := F.ns
  have F' : Fr g L h' m := ⟨⟨oL, es, ep, k _ _ hL hLo, hLd, r⟩, fun b x q => k b x (fun z => by rw [z, n54] at q; cases q) (F.keep b x q), F.above⟩
  have N' : News g L h' rest := fun p hp => ⟨k _ _ (hr p hp) (N p hp).1, (N p hp).2⟩
  obtain ⟨c, hf1, rc, oc, vs, t, r0, r1, r2, r3⟩ := hf
  cases r0
  refine ⟨F', ?_⟩
  cases hc : g.get? c with
  | some x =>
    have e := F'.keep _ _ hc
    rw [r1] at e
    cases e
    refine ⟨[(54, tabObj #[rawInt 36, rawInt 4, .ref c])], fun p hp => ?_, fun h9 kg ht => ⟨c, ht _ (.head _), c, oc, vs, t, rfl, kg _ _ hc, r2, r3⟩⟩
    rcases List.mem_append.mp hp with hp | hp
    · exact N' p hp
    · rw [List.mem_singleton.mp hp]; exact ⟨hf1, Ne.symm hL, n54⟩
  | none =>
    refine ⟨[(54, tabObj #[rawInt 36, rawInt 4, .ref c]), (c, oc)], fun p hp => ?_, fun h9 kg ht => ⟨c, ht _ (.head _), c, oc, vs, t, rfl, ht _ (.tail _ (.head _)), r2, r3⟩⟩
    rcases List.mem_append.mp hp with hp | hp
    · exact N' p hp
    · rcases List.mem_cons.mp hp with rfl | hp
      · exact ⟨hf1, Ne.symm hL, n54⟩
      · rw [List.mem_singleton.mp hp]
        refine ⟨r1, fun e => ?_, hc⟩
        have e : c = L := e
        have e2 := F'.ns
        obtain ⟨oL2, es2, ep2, hLo2, hLd2, _⟩ := e2
        rw [← e, r1] at hLo2
        cases hLo2
        rw [r2] at hLd2
        cases hLd2
theorem SpecV.use {w : World} {H0 : Heap} {f : Addr} {D : Nat} {vs : List Value} {Pre : Heap → Prop} {Post : Heap → Value → Heap → Prop} {A : Around} {s : Shared} {Q E : Value → Shared → Prop} {g : Heap} {L : Addr} {m : Str → Option Value} {news : List (Addr × Obj)} (rest : List (Addr × Obj))
    (S : SpecV w H0 f D vs Pre Post) (F : Fr g L s.heap m) (N : News g L s.heap news) (st : H0.StaysIn g) (hh : A.handled = none) (hd : A.depth ≤ D + 400) (hu : A.units ≤ 10 * D) (he : (54, tabObj #[]) ∈ news) (hsub : ∀ p ∈ rest, p ∈ news) (hr : ∀ p ∈ rest, p.1 ≠ 54) (hp : Pre s.heap)
    (k : ∀ r h' tk tl, Fr g L h' m → News g L h' (rest ++ tl) → FullBy4 g tl → (∀ b o, b ≠ 54 → s.heap.get? b = some o → h'.get? b = some o) → Post s.heap r h' → Q r { s with heap := h', toks := tk }) : wpAny (model pg w) A (call (.ref f) vs) Q E s := by
  obtain ⟨e1, e2, e3⟩ := N _ he
  refine S A s Q E (fun b o e => F.keep b o (st b o e)) hh hd hu e1 hp fun r h' tk kp hf po => ?_
  obtain ⟨F', tl, N', FB⟩ := full_tail4 F (fun p hp => N p (hsub p hp)) e3 (Ne.symm e2) hr e1 kp hf
  exact k r h' tk tl F' N' FB kp po

def fig (n : Int) (size : Nat) (a : Int) : List Int := dg (2 ^ n.toNat) (nd n a) a ++ List.replicate (size - nd n a) 0
theorem fig_specP {w ls mean mg mb H0} (C : Core w ls mean mg mb H0) (a n : Int) (size : Nat) (ta tn ts : Nat) (ha : 0 ≤ a) (hn0 : 1 ≤ n) (hn8 : n ≤ 8) (hk : nd n a ≤ size) (hs : size ≤ 16) (hnk : n * nd n a ≤ 60) :
    SpecP w H0 272 150 [.int a ta, .int n tn, .int size ts] Full54 (fun h r h' => ∃ D vs, r = .ref D ∧ h.objs.size ≤ D ∧ h'.get? D = some (listOf vs.toArray 0) ∧ IntsAre vs (fig n size a)) := by
  intro A s Q E st hh hd hu hf hret
  refine lift hh hd hu ?_
  walk_at "enterP"
  k_with_none
  k_with "call ref" => refine Hold.mk ?_
  k_with "binaryOp Mult ref int" => refine Hold.mk ?_
  k_with "binaryOp Add ref ref" => refine Hold.mk ?_
  k_with "call builtin:len" => (refine kst_len (k := nd n a) (by k_asm) (by k_dflt k_mem) (by rw [IntsAre.length (by assumption), dg_length]) (by omega) ?_)
  k_steps
  show wpAny _ _ _ _ _ _
  rename Fr _ _ _ _ => F0
  rename News _ _ _ _ => N0
  refine SpecP.use (i2d_spec C a n _ _ ha hn0 hn8 (by omega) hnk).toP F0 N0 st rfl ?_ ?_ ⟨full54_keep hf F0.keep, trivial⟩ ?_
  · show 150 + 400 + 1 ≤ _; omega
  · show 10 * 150 + 3 ≤ _; omega
  rintro r h1 tk1 kp1 F1 N1 ⟨ad, avs, rfl, e1, e2, e3⟩
  obtain ⟨N2, l2⟩ := news_add F0 N0 N1 e1 e2
  have hsz : s.heap.objs.size ≤ ad := Nat.le_trans (Nat.le_of_lt (Nat.lt_of_le_of_lt F0.above F0.ns.lt)) e1
  clear F0 N0 N1
  dsimp only
  k_steps
  show wpAny _ _ _ _ _ _
  rename Fr _ _ _ _ => F0
  rename News _ _ _ _ => N0
  refine' KMa.mul (ws := List.replicate (size - nd n a) (.int 0 _)) F0 N0 (N0.isList (by k_mem)) (by omega) (by omega) ?z ?e ?_
  case z => simp only [List.length_cons, List.length_nil]; omega
  case e => rw [show ((size : Int) - (nd n a : Int)).toNat = size - nd n a by omega]; exact flat_rep _ _
  intro la h1 F1 N1 l9
  have l8 := l9 _ (.tail _ (.head _))
  clear F0 N0
  k_steps
  show wpAny _ _ _ _ _ _
  rename Fr _ _ _ _ => F0
  rename News _ _ _ _ => N0
  refine add_arrays_ints F0 N0 (N0.isList (.tail _ (.tail _ (.head _)))) (N0.isList (.head _)) e3 (ints_rep _ _) ?_ ?_
  · intro h7 F7 N7 hi7
    have hz7 : s.heap.objs.size ≤ _ := Nat.le_trans hsz (Nat.le_of_lt (Heap.lt_size (N0 _ (.tail _ (.tail _ (.head _)))).1))
    clear F0 N0
    k_steps
    rename Fr _ _ _ _ => F6
    rename News _ _ _ _ => N6
    try dsimp only
    exact hret _ _ _ F6.keep ⟨_, _, rfl, hz7, (N6 _ (.head _)).1, hi7⟩
  · rw [dg_length, List.length_replicate, sizeLine_eq]; omega
theorem fig_specV {w ls mean mg mb H0} (C : Core w ls mean mg mb H0) (a n : Int) (size : Nat) (ta tn ts : Nat) (ha : 0 ≤ a) (hn0 : 1 ≤ n) (hn8 : n ≤ 8) (hk : nd n a ≤ size) (hs : size ≤ 16) (hnk : n * nd n a ≤ 60) :
    SpecV w H0 272 150 [.int a ta, .int n tn, .int size ts] (fun _ => True) (fun h r h' => ∃ D vs, r = .ref D ∧ h.objs.size ≤ D ∧ h'.get? D = some (listOf vs.toArray 0) ∧ IntsAre vs (fig n size a)) := by
  intro A s Q E st hh hd hu he hf hret
  refine lift hh hd hu ?_
  have kn : ∀ p ∈ [((54 : Addr), tabObj #[])], H0.get? p.1 = none := List.forall_mem_cons.mpr ⟨C.n54, List.forall_mem_nil _⟩
  have kt : ∀ p ∈ [((54 : Addr), tabObj #[])], s.heap.get? p.1 = some p.2 := List.forall_mem_cons.mpr ⟨he, List.forall_mem_nil _⟩
  walk_at "enterPt"
  rename Gd _ _ _ _ => G
  k_with_none
  k_with "call ref" => refine Hold.mk ?_
  k_with "binaryOp Mult ref int" => refine Hold.mk ?_
  k_with "binaryOp Add ref ref" => refine Hold.mk ?_
  k_with "call builtin:len" => (refine kst_len (k := nd n a) (by k_asm) (by k_dflt k_mem) (by rw [IntsAre.length (by assumption), dg_length]) (by omega) ?_)
  k_steps
  show wpAny _ _ _ _ _ _
  rename Fr _ _ _ _ => F0
  rename News _ _ _ _ => N0
  refine SpecV.use [] (i2d_spec C a n _ _ ha hn0 hn8 (by omega) hnk).toV F0 N0 G.st rfl ?_ ?_ (.head _) (List.forall_mem_nil _) (List.forall_mem_nil _) trivial ?_
  · show 150 + 400 + 1 ≤ _; omega
  · show 10 * 150 + 3 ≤ _; omega
  rintro r h1 tk1 tl F1 N1 FB kp1 ⟨ad, avs, rfl, e1, e2, e3⟩
  simp only [List.nil_append] at N1
  have N2 := news_addU F0 N1 e1 e2
  have hsz : s.heap.objs.size ≤ ad := Nat.le_trans (G.size ▸ Nat.le_of_lt (Nat.lt_of_le_of_lt F0.above F0.ns.lt)) e1
  clear F0 N0 N1
  dsimp only
  k_steps
  show wpAny _ _ _ _ _ _
  rename Fr _ _ _ _ => F0
  rename News _ _ _ _ => N0
  refine' KMa.mul (ws := List.replicate (size - nd n a) (.int 0 _)) F0 N0 (N0.isList (by k_mem)) (by omega) (by omega) ?z ?e ?_
  case z => simp only [List.length_cons, List.length_nil]; omega
  case e => rw [show ((size : Int) - (nd n a : Int)).toNat = size - nd n a by omega]; exact flat_rep _ _
  intro la h1 F1 N1 l9
  have l8 := l9 _ (.tail _ (.head _))
  clear F0 N0
  k_steps
  show wpAny _ _ _ _ _ _
  rename Fr _ _ _ _ => F0
  rename News _ _ _ _ => N0
  refine add_arrays_ints F0 N0 (N0.isList (.tail _ (.tail _ (.head _)))) (N0.isList (.head _)) e3 (ints_rep _ _) ?_ ?_
  · intro h7 F7 N7 hi7
    have hz7 : s.heap.objs.size ≤ _ := Nat.le_trans hsz (Nat.le_of_lt (Heap.lt_size (N0 _ (.tail _ (.tail _ (.head _)))).1))
    clear F0 N0
    k_steps
    rename Fr _ _ _ _ => F6
    rename News _ _ _ _ => N6
    try dsimp only
    exact hret _ _ _ (fun b o hb e => F6.keep _ _ (G.sup _ _ (by simpa using hb) e)) (FB _ F6.keep fun p hp => (N6 p (.tail _ (.tail _ (.tail _ (.tail _ hp))))).1) ⟨_, _, rfl, hz7, (N6 _ (.head _)).1, hi7⟩
  · rw [dg_length, List.length_replicate, sizeLine_eq]; omega
end Mine
namespace Mine
open PySem PySem.W PyProof.Rows PySem.Spec PySem.Calls
theorem clrD11 : True := by
  w_top off
  k_with_none
  trivial
local macro_rules | `(tactic| walk_at $s:str) => `(tactic| k_extra $s)
local macro_rules | `(tactic| walk_at "same") => `(tactic| repeat' (first | exact List.forall_mem_nil _ | refine List.forall_mem_cons.mpr ⟨by with_unfolding_all rfl, ?_⟩))
local macro_rules | `(tactic| walk_at "enterP") => `(tactic| k_dflt (refine' enterP ?kC0 ?kS0 ?k6 ?k7 ?k8 ?k9 ?kB ?_ ?c2 ?c3 ?c4 ?c5; (case kC0 => assumption); (case kS0 => assumption); (case k6 => k_is); (case k7 => k_is); (case k8 => decide); (case k9 => first | exact BindsTo.of_eq rfl | (refine' kp_binds ?kx ?ke; (case kx => exact Frag.In.keeps (Core.X (by assumption)) (by assumption)); (case ke => exact fun _ => rfl))); (case c5 => decide); (case kB => exact locs rfl); (case c2 => exact rfl); (case c3 => exact rfl); (case c4 => exact rfl); k_whole; intro L' h' X' T' C1' C2' F' N'; (try dsimp only); (try k_fold)))
local macro_rules | `(tactic| walk_at "enterX0") => `(tactic| k_dflt (refine' enterX0 ?kC0 ?kS0 ?ko ?kd ?k7 ?k8 ?k9 ?kB ?_ ?c2 ?c3 ?c4 ?c5; (case kC0 => assumption); (case kS0 => assumption); (case ko => assumption); (case kd => exact rfl); (case k7 => assumption); (case k8 => first | decide | (show _ < 1000; omega)); (case k9 => exact BindsTo.of_eq rfl); (case c5 => decide); (case kB => exact locs rfl); (case c2 => exact rfl); (case c3 => exact rfl); (case c4 => exact rfl); k_whole; intro L' h' X' T' C1' C2' F' N'; (try dsimp only); (try k_fold)))
local macro_rules | `(tactic| walk_at "enterC") => `(tactic| k_dflt (refine' enterC ?kC0 ?kS0 ?kn ?kt ?k6 ?k7 ?k8 ?k9 ?kB ?kD ?_ ?c2 ?c3 ?c4; (case kC0 => assumption); (case kS0 => assumption); (case kn => assumption); (case kt => assumption); (case k6 => k_is); (case k7 => k_is); (case k8 => decide); (case k9 => first | exact BindsTo.of_eq rfl | (refine' kp_binds ?kx ?ke; (case kx => exact Frag.In.keeps (Core.X (by assumption)) (by assumption)); (case ke => exact fun _ => rfl))); (case kB => exact rfl); (case kD => decide +kernel); (case c2 => exact rfl); (case c3 => exact rfl); (case c4 => exact rfl); k_whole; intro g' L' h' tk' cells' G' X' T' C1' C2' F' N' Y' l1; (try k_lt l1); k_cells Y'; (try simp only [List.cons_append, List.nil_append] at N'); (try dsimp only); (try k_fold)))
local macro_rules | `(tactic| walk_at "enterPt") => `(tactic| k_dflt (refine' enterPt ?kC0 ?kS0 ?kn ?kt ?k6 ?k7 ?k8 ?k9 ?kB ?_ ?c2 ?c3 ?c4 ?c5; (case kC0 => assumption); (case kS0 => assumption); (case kn => assumption); (case kt => assumption); (case k6 => k_is); (case k7 => k_is); (case k8 => decide); (case k9 => first | exact BindsTo.of_eq rfl | (refine' kp_binds ?kx ?ke; (case kx => exact Frag.In.keeps (Core.X (by assumption)) (by assumption)); (case ke => exact fun _ => rfl))); (case c5 => decide); (case kB => exact locs rfl); (case c2 => exact rfl); (case c3 => exact rfl); (case c4 => exact rfl); k_whole; intro g' L' h' G' X' T' C1' C2' F' N' l1; (try k_lt l1); (try dsimp only); (try k_fold)))

theorem item_len (a : Str) (k : Int) : (Txt.item a k).length ≤ 4 := by
  show (#[_] : Array Nat).size ≤ 4
  exact (by decide : 1 ≤ 4)
def cost3 (a b : Str) : Int := (List.map (fun k => costP (Txt.item a k) (Txt.item b k)) (rangeKs 0 3)).sum
theorem ap_specP {w ls mean mg mb H0} (C : Core w ls mean mg mb H0) (a b : Str) (ta tb : Nat) (ha : a.length = 3) (hb : b.length = 3) :
    SpecP w H0 265 99 [.str a ta, .str b tb] (fun _ => True) (fun _ r _ => ∃ t, r = .int (cost3 a b) t) := by
  intro A s Q E st hh hd hu hf hret
  refine lift hh hd hu ?_
  have kn : ∀ p ∈ ([] : List (Addr × Obj)), H0.get? p.1 = none := List.forall_mem_nil _
  have kt : ∀ p ∈ ([] : List (Addr × Obj)), s.heap.get? p.1 = some p.2 := List.forall_mem_nil _
  walk_at "enterC"
  rename Gd _ _ _ _ => G
  k_with_none
  k_with "call ref" => (rename Fr _ _ _ _ => F0; rename News _ _ _ _ => N0; refine SpecP.use (subst_spec C _ _ _ _ (item_len _ _) (item_len _ _)) F0 N0 G.st rfl ?a1 ?a2 trivial ?_; (case a1 => show 99 + 400 + 1 ≤ _; omega); (case a2 => show 10 * 99 + 3 ≤ _; omega); rintro r1 h1 tk1 kp1 F1 N1 ⟨t1, rfl⟩; clear F0 N0)
  k_steps
  rename Fr _ _ _ _ => F6
  try dsimp only
  exact hret _ _ _ (fun b o e => F6.keep _ _ (G.sup _ _ (by simp) e)) (intEq rfl)
def costs (a b : Str) : List Int := List.map (fun k => costP (Txt.item a k) (Txt.item b k)) (rangeKs 0 (3 - 0 : Int).toNat)
theorem costs_len (a b : Str) : ([1] ++ costs a b).length ≤ 16 := (by decide : (1 + 3 : Nat) ≤ 16)
theorem costs_len4 (a b : Str) : (4 : Int) * (([1] ++ costs a b).length : Nat) ≤ 60 := (by decide : (4 : Int) * ((1 + 3 : Nat) : Int) ≤ 60)
theorem costP_in (a b : Str) : 0 ≤ costP a b ∧ costP a b ≤ 2 := by
  unfold costP
  split
  · decide
  · split <;> decide
theorem costs_small (a b : Str) : ∀ d ∈ [1] ++ costs a b, 0 ≤ d ∧ d < 2 ^ (4 : Int).toNat := by
  intro d hd
  rcases List.mem_append.mp hd with h | h
  · rw [List.mem_singleton.mp h]; decide
  · obtain ⟨k, _, rfl⟩ := List.mem_map.mp h
    have := costP_in (Txt.item a k) (Txt.item b k)
    show 0 ≤ costP _ _ ∧ costP _ _ < 16
    omega
def valw (a : Str) : Int := seg 16 ([1] ++ costs ("abc" : Str) a)
theorem val_specP {w ls mean mg mb H0} (C : Core w ls mean mg mb H0) (a : Str) (ta : Nat) (ha : a.length = 3) :
    SpecP w H0 277 98 [.str a ta] Full61 (fun _ r _ => ∃ t, r = .int (valw a) t) := by
  intro A s Q E st hh hd hu hf hret
  refine lift hh hd hu ?_
  have kn : ∀ p ∈ ([] : List (Addr × Obj)), H0.get? p.1 = none := List.forall_mem_nil _
  have kt : ∀ p ∈ ([] : List (Addr × Obj)), s.heap.get? p.1 = some p.2 := List.forall_mem_nil _
  walk_at "enterC"
  rename Gd _ _ _ _ => G
  k_with_none
  k_with "eval ListComp" => (k_dflt (refine LCg.ListComp_U (F₀ := by k_asm) (by with_unfolding_all rfl) (by decide) (by rfl) (by decide) (by rfl) ?_))
  k_with "binaryOp Add ref ref" => refine Hold.mk ?_
  k_with "call ref" => (rename Fr _ _ _ _ => F0; rename News _ _ _ _ => N0; refine SpecP.use (subst_spec C _ _ _ _ (item_len _ _) (item_len _ _)) F0 N0 G.st rfl ?a1 ?a2 trivial ?_; (case a1 => show 98 + 400 + 1 ≤ _; omega); (case a2 => show 10 * 98 + 3 ≤ _; omega); rintro r1 h1 tk1 kp1 F1 N1 ⟨t1, rfl⟩; clear F0 N0)
  k_steps
  show wpAny _ _ _ _ _ _
  rename Fr _ _ _ _ => F0
  rename News _ _ _ _ => N0
  rename IntsAre _ _ => hI
  have hI2 := (congrArg (IntsAre _) (List.map_congr_left fun k _ => if_pos ⟨rfl, Nat.le_refl 1, Nat.le_refl 1⟩)).mp hI
  refine add_arrays_ints F0 N0 (N0.isList (.tail _ (.head _))) (N0.isList (.head _)) (.cons 1 _ .nil) hI2 ?_ ?_
  · intro h7 F7 N7 hi7
    have ol := N7.isList (.head _)
    clear F0 N0
    k_with_none
    k_with "call ref" => refine Hold.mk ?_
    k_steps
    show wpAny _ _ _ _ _ _
    rename Fr _ _ _ _ => F0
    rename News _ _ _ _ => N0
    refine SpecP.use (d2i_specP C _ 4 _ (by omega) (by omega) _ _ hi7 (costs_len _ _) (costs_len4 _ _) (costs_small _ _)) F0 N0 G.st rfl ?_ ?_ ⟨full61_keep hf fun b o e => F0.keep _ _ (G.sup _ _ (by simp) e), ol⟩ ?_
    · show 98 + 400 + 1 ≤ _; omega
    · show 10 * 98 + 3 ≤ _; omega
    rintro r1 h1 tk1 kp1 F1 N1 ⟨t1, rfl⟩
    clear F0 N0
    dsimp only
    k_steps
    rename Fr _ _ _ _ => F6
    rename News _ _ _ _ => N6
    try dsimp only
    exact hret _ _ _ (fun b o e => F6.keep _ _ (G.sup _ _ (by simp) e)) (intEq rfl)
  · show 1 + (List.map _ _).length ≤ _; rw [List.length_map]; decide
theorem val_specU {w ls mean mg mb H0} (C : Core w ls mean mg mb H0) (a : Str) (ta : Nat) (ha : a.length = 3) :
    SpecU w H0 277 98 [.str a ta] (fun _ => True) (fun _ r _ => ∃ t, r = .int (valw a) t) := by
  intro A s Q E st hh hd hu he hf hret
  refine lift hh hd hu ?_
  have kn : ∀ p ∈ [((61 : Addr), tabObj #[])], H0.get? p.1 = none := List.forall_mem_cons.mpr ⟨C.n61, List.forall_mem_nil _⟩
  have kt : ∀ p ∈ [((61 : Addr), tabObj #[])], s.heap.get? p.1 = some p.2 := List.forall_mem_cons.mpr ⟨he, List.forall_mem_nil _⟩
  walk_at "enterC"
  rename Gd _ _ _ _ => G
  k_with_none
  k_with "eval ListComp" => (k_dflt (refine LCg.ListComp_U (F₀ := by k_asm) (by with_unfolding_all rfl) (by decide) (by rfl) (by decide) (by rfl) ?_))
  k_with "binaryOp Add ref ref" => refine Hold.mk ?_
  k_with "call ref" => (rename Fr _ _ _ _ => F0; rename News _ _ _ _ => N0; refine SpecP.use (subst_spec C _ _ _ _ (item_len _ _) (item_len _ _)) F0 N0 G.st rfl ?a1 ?a2 trivial ?_; (case a1 => show 98 + 400 + 1 ≤ _; omega); (case a2 => show 10 * 98 + 3 ≤ _; omega); rintro r1 h1 tk1 kp1 F1 N1 ⟨t1, rfl⟩; clear F0 N0)
  k_steps
  show wpAny _ _ _ _ _ _
  rename Fr _ _ _ _ => F0
  rename News _ _ _ _ => N0
  rename IntsAre _ _ => hI
  have hI2 := (congrArg (IntsAre _) (List.map_congr_left fun k _ => if_pos ⟨rfl, Nat.le_refl 1, Nat.le_refl 1⟩)).mp hI
  refine add_arrays_ints F0 N0 (N0.isList (.tail _ (.head _))) (N0.isList (.head _)) (.cons 1 _ .nil) hI2 ?_ ?_
  · intro h7 F7 N7 hi7
    have ol := N7.isList (.head _)
    clear F0 N0
    k_with_none
    k_with "call ref" => refine Hold.mk ?_
    k_steps
    show wpAny _ _ _ _ _ _
    rename Fr _ _ _ _ => F0
    rename News _ _ _ _ => N0
    refine SpecU.use [] (d2i_specU C _ 4 _ (by omega) (by omega) _ _ hi7 (costs_len _ _) (costs_len4 _ _) (costs_small _ _)) F0 N0 G.st rfl ?_ ?_ (.tail _ (.tail _ (.tail _ (.tail _ (.head _))))) (List.forall_mem_nil _) (List.forall_mem_nil _) ol ?_
    · show 98 + 400 + 1 ≤ _; omega
    · show 10 * 98 + 3 ≤ _; omega
    rintro r1 h1 tk1 tl F1 N1 FB kp1 ⟨t1, rfl⟩
    simp only [List.nil_append] at N1
    clear F0 N0
    dsimp only
    k_steps
    rename Fr _ _ _ _ => F6
    rename News _ _ _ _ => N6
    try dsimp only
    exact hret _ _ _ (fun b o hb e => F6.keep _ _ (G.sup _ _ (by simpa using hb) e)) (G.freshU <| FB _ F6.keep fun p hp => (N6 p hp).1) (intEq rfl)
  · show 1 + (List.map _ _).length ≤ _; rw [List.length_map]; decide
end Mine
namespace Mine
open PySem PySem.W PyProof.Rows PySem.Spec PySem.Calls
theorem clrD12 : True := by
  w_top off
  k_with_none
  trivial
local macro_rules | `(tactic| walk_at $s:str) => `(tactic| k_extra $s)
local macro_rules | `(tactic| walk_at "same") => `(tactic| repeat' (first | exact List.forall_mem_nil _ | refine List.forall_mem_cons.mpr ⟨by with_unfolding_all rfl, ?_⟩))
local macro_rules | `(tactic| walk_at "enterP") => `(tactic| k_dflt (refine' enterP ?kC0 ?kS0 ?k6 ?k7 ?k8 ?k9 ?kB ?_ ?c2 ?c3 ?c4 ?c5; (case kC0 => assumption); (case kS0 => assumption); (case k6 => k_is); (case k7 => k_is); (case k8 => decide); (case k9 => first | exact BindsTo.of_eq rfl | (refine' kp_binds ?kx ?ke; (case kx => exact Frag.In.keeps (Core.X (by assumption)) (by assumption)); (case ke => exact fun _ => rfl))); (case c5 => decide); (case kB => exact locs rfl); (case c2 => exact rfl); (case c3 => exact rfl); (case c4 => exact rfl); k_whole; intro L' h' X' T' C1' C2' F' N'; (try dsimp only); (try k_fold)))
local macro_rules | `(tactic| walk_at "enterX0") => `(tactic| k_dflt (refine' enterX0 ?kC0 ?kS0 ?ko ?kd ?k7 ?k8 ?k9 ?kB ?_ ?c2 ?c3 ?c4 ?c5; (case kC0 => assumption); (case kS0 => assumption); (case ko => assumption); (case kd => exact rfl); (case k7 => assumption); (case k8 => first | decide | (show _ < 1000; omega)); (case k9 => exact BindsTo.of_eq rfl); (case c5 => decide); (case kB => exact locs rfl); (case c2 => exact rfl); (case c3 => exact rfl); (case c4 => exact rfl); k_whole; intro L' h' X' T' C1' C2' F' N'; (try dsimp only); (try k_fold)))
local macro_rules | `(tactic| walk_at "enterC") => `(tactic| k_dflt (refine' enterC ?kC0 ?kS0 ?kn ?kt ?k6 ?k7 ?k8 ?k9 ?kB ?kD ?_ ?c2 ?c3 ?c4; (case kC0 => assumption); (case kS0 => assumption); (case kn => assumption); (case kt => assumption); (case k6 => k_is); (case k7 => k_is); (case k8 => decide); (case k9 => first | exact BindsTo.of_eq rfl | (refine' kp_binds ?kx ?ke; (case kx => exact Frag.In.keeps (Core.X (by assumption)) (by assumption)); (case ke => exact fun _ => rfl))); (case kB => exact rfl); (case kD => decide +kernel); (case c2 => exact rfl); (case c3 => exact rfl); (case c4 => exact rfl); k_whole; intro g' L' h' tk' cells' G' X' T' C1' C2' F' N' Y' l1; (try k_lt l1); k_cells Y'; (try simp only [List.cons_append, List.nil_append] at N'); (try dsimp only); (try k_fold)))
local macro_rules | `(tactic| walk_at "enterPt") => `(tactic| k_dflt (refine' enterPt ?kC0 ?kS0 ?kn ?kt ?k6 ?k7 ?k8 ?k9 ?kB ?_ ?c2 ?c3 ?c4 ?c5; (case kC0 => assumption); (case kS0 => assumption); (case kn => assumption); (case kt => assumption); (case k6 => k_is); (case k7 => k_is); (case k8 => decide); (case k9 => first | exact BindsTo.of_eq rfl | (refine' kp_binds ?kx ?ke; (case kx => exact Frag.In.keeps (Core.X (by assumption)) (by assumption)); (case ke => exact fun _ => rfl))); (case c5 => decide); (case kB => exact locs rfl); (case c2 => exact rfl); (case c3 => exact rfl); (case c4 => exact rfl); k_whole; intro g' L' h' G' X' T' C1' C2' F' N' l1; (try k_lt l1); (try dsimp only); (try k_fold)))

theorem nd4 {a : Int} (h0 : 0 ≤ a) (h : a < 65536) : nd 4 a ≤ 4 ∧ (4 : Int) * nd 4 a ≤ 60 := by
  unfold nd
  have h1 : Builtin.Int.intBits a ≤ 16 := intBits_le_iff.mpr (by omega)
  have e : ((Builtin.Int.intBits a : Int) + 4 - 1).fdiv 4 = ((Builtin.Int.intBits a : Int) + 4 - 1) / 4 := Int.fdiv_eq_ediv_of_nonneg _ (by omega)
  rw [e]; omega
theorem fig_small {a : Int} {n : Int} (size : Nat) : ∀ d ∈ fig n size a, 0 ≤ d ∧ d < 2 ^ n.toNat := by
  intro d hd
  have hp := one_le_two_pow n.toNat
  rcases List.mem_append.mp hd with h | h
  · exact dg_bound _ hp _ _ d h
  · rw [(List.mem_replicate.mp h).2]; omega
theorem fig4 {a : Int} (h0 : 0 ≤ a) (h : a < 65536) : ∃ d0 d1 d2 d3, fig 4 4 a = [d0, d1, d2, d3] ∧ (0 ≤ d0 ∧ d0 < 16) ∧ (0 ≤ d1 ∧ d1 < 16) ∧ (0 ≤ d2 ∧ d2 < 16) ∧ (0 ≤ d3 ∧ d3 < 16) := by
  have hl : (fig 4 4 a).length = 4 := by
    have := (nd4 h0 h).1
    rw [fig, List.length_append, dg_length, List.length_replicate]; omega
  have hs := @fig_small a 4 4
  match q : fig 4 4 a, hl, hs with
  | [d0, d1, d2, d3], _, hs => exact ⟨d0, d1, d2, d3, rfl, hs d0 (by simp), hs d1 (by simp), hs d2 (by simp), hs d3 (by simp)⟩
def scl (a : Int) : List Int := match fig 4 4 a with
  | [d0, d1, d2, d3] => [qu (2 * d0 - 8), qu (4 * d1 - 2 * d0), qu (4 * d2 - 2 * d0), qu (4 * d3 - 2 * d0)]
  | _ => []
theorem forV {prog : Program} {w : World} {A : Around} {s : Shared} {env : Env} {G : Heap} {m : Str → Option Value} {Q : Flow → Shared → Prop} {x : Str} {px pos : Pos} {iter : Expr} {body : List Stmt} (_F : Fr G env.locals s.heap m) (hx : env.kindOf x = some .local)
    (hp : (env.scope.kind == .class || (env.scope.kind == .module && env.locals != env.globals)) = false)
    (h : wpAny (model prog w) A (eval iter env) (fun xv s₁ => wpAny (model prog w) A (pyIter xv) (fun it s₂ => LoopAtV prog w A G env x body Q (fun _ _ => False) it s₂) (fun _ _ => False) s₁) (fun _ _ => False) s)
    (hs : ∀ x, foldedSetIterable iter env x = pure x := by intro _; rfl) :
    wpAny (model prog w) A (exec (.For (.Name x px) iter body [] pos) env) Q (fun _ _ => False) s := For_invV G hx hp h hs PassesOwn.never
/-- the shares after i turns -/
def SInv (d0 : Int) (ds : List Int) (i : Nat) (vs : List Value) (ns : List Int) : Prop := IntsAre vs ns ∧ ns = (2 * d0 - 8) :: ((ds.take i).map fun g => 4 * g - 2 * d0)
theorem SInv.step {d0 : Int} {ds : List Int} {i : Nat} {vs : List Value} {ns : List Int} {g : Int} {t : Nat} (h : SInv d0 ds i vs ns) (e : ds[i]? = some g) : SInv d0 ds (i + 1) (vs ++ [.int (4 * g - 2 * d0) t]) (ns ++ [4 * g - 2 * d0]) := by
  refine ⟨ints_snoc h.1, ?_⟩
  rw [h.2, List.take_add_one, e]
  simp
theorem SInv.len {d0 : Int} {ds : List Int} {i : Nat} {vs : List Value} {ns : List Int} (h : SInv d0 ds i vs ns) (hd : ds.length ≤ 8) : vs.length ≤ 9 := by
  rw [h.1.length, h.2, List.length_cons, List.length_map, List.length_take]; omega
theorem three {d1 d2 d3 : Int} {t1 t2 t3 i : Nat} {v : Value} (h : [Value.int d1 t1, .int d2 t2, .int d3 t3][i]? = some v) : ∃ g t, v = .int g t ∧ [d1, d2, d3][i]? = some g := by
  match i, h with
  | 0, h => exact ⟨d1, t1, (Option.some.inj h).symm, rfl⟩
  | 1, h => exact ⟨d2, t2, (Option.some.inj h).symm, rfl⟩
  | 2, h => exact ⟨d3, t3, (Option.some.inj h).symm, rfl⟩
open PyProof.Rows.LCg in
/-- a comprehension whose elements change nothing older: one turn for all -/
theorem rest_fixed {prog : Program} {w : World} {A : Around} {h₀ : Heap} {L : Addr} {m : Str → Option Value} {env : Env} {elt : Expr} {x : Str} {scope : Scope} {cl : List (Str × Addr)} {s : Shared} {S : List (Addr × Obj) → Prop} {P : Nat → Value → Prop}
    {Fin : List Value → List (Addr × Obj) → Prop} {news : List (Addr × Obj)} (J : Nat → List Value → Prop) (n : Nat) (hS : S news)
    (turn : ∀ i ys v I oI C oC D m₂ h tk (E' : Value → Shared → Prop), i < n → J i ys → P i v → NsObj oC m₂ → m₂ x = some v → Fr h₀ L h m → News h₀ L h ((I, oI) :: (C, oC) :: (D, lst ys) :: news) → Off3 I C D news → ((@Ne Nat I C) ∧ (@Ne Nat I D) ∧ (@Ne Nat C D)) →
      wpAny (model prog w) A (eval elt (compEnvC scope cl C env)) (fun y s₂ => ∃ h' tk', s₂ = { s with heap := h', toks := tk' } ∧ Keep h h' ∧ J (i + 1) (ys ++ [y])) E' { s with heap := h, toks := tk })
    (fin : ∀ ys, J n ys → Fin ys news) : ∀ k i ys, i + k = n → J i ys → CompRest prog w A h₀ L m env elt x scope cl s S P Fin k i ys news
  | 0, i, ys, e, j => CompRest.zero (fin ys (by rw [← e]; exact j))
  | k + 1, i, ys, e, j => CompRest.succ fun v I oI C oC D m₂ h tk E' hv hC hx F N off ne =>
    wpAny_mono (turn i ys v I oI C oC D m₂ h tk E' (by omega) j hv hC hx F N off ne) (fun y s₂ ⟨h', tk', e', kp, j'⟩ => by
      subst e'
      exact CompEnd.intro (s₁ := { s with heap := h, toks := tk }) (F.keeps kp) (fun p hp => ⟨kp _ _ (N p hp).1, (N p hp).2⟩) news (fun p hp => hp) off hS (rest_fixed J n hS turn fin k (i + 1) (ys ++ [y]) (by omega) j')) fun _ _ x => x
theorem ints_one {i : Nat} {xs : List Int} {x : Int} {ys : List Value} {t : Nat} {f : Int → Int} (h : IntsAre ys ((xs.take i).map f)) (e : xs[i]? = some x) : IntsAre (ys ++ [.int (f x) t]) ((xs.take (i + 1)).map f) := by
  rw [List.take_add_one, e, List.map_append]
  exact ints_snoc h
theorem ints_at {vs : List Value} {ns : List Int} (h : IntsAre vs ns) : ∀ {i : Nat} {v : Value}, vs.toArray[i]? = some v → ∃ n t, v = .int n t ∧ ns[i]? = some n := by
  induction h with
  | nil => intro i v e; simp at e
  | cons n t h ih =>
    intro i v e
    cases i with
    | zero => exact ⟨n, t, by simpa using e.symm, rfl⟩
    | succ i => exact ih (i := i) (by simpa using e)
theorem Gd.none61 {H0 h g h' : Heap} {o o2 : Obj} {L D : Addr} {news : List (Addr × Obj)} (G : Gd H0 h [(61, o)] g) (N : News g L h' news) (f : Fresh61 g h') (hm : (D, o2) ∈ news) (ho : o2.cls = .type "list") : h.get? D = none := by
  obtain ⟨c, _, _, a, _⟩ := f
  obtain ⟨n1, _, n3⟩ := N _ hm
  have hD : D ≠ 61 := fun e => by
    subst e
    rw [a] at n1
    cases n1
    cases ho
  cases q : h.get? D with
  | none => rfl
  | some x => have := G.sup _ _ (by simpa using hD) q; rw [n3] at this; cases this
theorem four_small {d0 d1 d2 d3 : Int} (b0 : 0 ≤ d0 ∧ d0 < 16) (b1 : 0 ≤ d1 ∧ d1 < 16) (b2 : 0 ≤ d2 ∧ d2 < 16) (b3 : 0 ≤ d3 ∧ d3 < 16) : ∀ x ∈ [2 * d0 - 8, 4 * d1 - 2 * d0, 4 * d2 - 2 * d0, 4 * d3 - 2 * d0], -900 ≤ x ∧ x ≤ 900 := by
  intro x hx
  simp only [List.mem_cons, List.not_mem_nil, or_false] at hx
  omega
theorem sc_specP {w ls mean mg mb H0} (C : Core w ls mean mg mb H0) (a : Int) (ta : Nat) (h0 : 0 ≤ a) (ha : a < 65536) :
    SpecP w H0 294 130 [.int a ta] (fun h => Full54 h ∧ Full61 h) (fun h r h' => ∃ D k vs, r = .ref D ∧ h.get? D = none ∧ h'.get? D = some (W.listOf vs.toArray k) ∧ IntsAre vs (scl a)) := by
  intro A s Q E st hh hd hu hf hret
  refine lift hh hd hu ?_
  walk_at "enterP"
  k_with_none
  k_with "call ref" => refine Hold.mk ?_
  k_steps
  show wpAny _ _ _ _ _ _
  rename Fr _ _ _ _ => F0
  rename News _ _ _ _ => N0
  refine SpecP.use (fig_specP C a 4 4 _ _ _ h0 (by omega) (by omega) (nd4 h0 ha).1 (by omega) (nd4 h0 ha).2) F0 N0 st rfl ?_ ?_ (full54_keep hf.1 F0.keep) ?_
  · show 130 + 400 + 1 ≤ _; omega
  · show 10 * 130 + 3 ≤ _; omega
  rintro r1 h1 tk1 kp1 F1 N1 ⟨td, vs, rfl, e4, e5, hi⟩
  obtain ⟨N2, l2⟩ := news_add F0 N0 N1 e4 e5
  clear F0 N0 N1
  obtain ⟨d0, d1, d2, d3, e6, b0, b1, b2, b3⟩ := fig4 h0 ha
  have e7 : scl a = [qu (2 * d0 - 8), qu (4 * d1 - 2 * d0), qu (4 * d2 - 2 * d0), qu (4 * d3 - 2 * d0)] := by rw [scl, e6]
  rw [e6] at hi
  rcases hi with _ | ⟨_, t0, hi⟩
  rcases hi with _ | ⟨_, t1, hi⟩
  rcases hi with _ | ⟨_, t2, hi⟩
  rcases hi with _ | ⟨_, t3, hi⟩
  cases hi
  dsimp only
  k_with "exec For" => (k_dflt (refine forV (by k_asm) (by rfl) (by rfl) ?_))
  k_with "pyIter ref" => refine Hold.mk ?_
  k_steps
  show wpAny _ _ _ _ _ _
  rename Fr _ _ _ _ => F0
  rename News _ _ _ _ => N0
  rename_i sd hA lA hB D hC lB
  refine forL (σ := List Value × List Int × Nat) (vs := [.int d1 t1, .int d2 t2, .int d3 t3]) (N0.isList (.head _)) (fun c => [(sd, W.listOf c.1.toArray c.2.2), (td, W.listOf #[.int d0 t0, .int d1 t1, .int d2 t2, .int d3 t3] 0)]) (fun c => [(PySem.Str.ofString "told", .ref td), (PySem.Str.ofString "shares", .ref sd)])
    (fun i c => SInv d0 [d1, d2, d3] i c.1 c.2.1) [sd] ([.int (2 * d0 - 8) _], [2 * d0 - 8], 0) rfl
    (N0 _ (.head _)).2.1 (List.forall_mem_cons.mpr ⟨⟨by k_ne, Heap.lt_size (N0 _ (.tail _ (.head _))).1⟩, List.forall_mem_nil _⟩) (fun c => List.forall_mem_cons.mpr ⟨Heap.lt_size (N0 _ (.tail _ (.head _))).1, List.forall_mem_cons.mpr ⟨Heap.lt_size (N0 _ (.tail _ (.tail _ (.head _)))).1, List.forall_mem_nil _⟩⟩) F0 (fun p hp => N0 p (.tail _ hp)) (by walk_at "same") ⟨.cons _ _ .nil, rfl⟩ ?_ ?_
  · rintro i v ⟨vs, ns, k⟩ m own h tk hv SI hoff F N
    obtain ⟨g, t, rfl, hg⟩ := three hv
    have hqs := SI.len (Nat.le_of_ble_eq_true rfl)
    dsimp only at SI F N hqs
    clear F0 N0
    k_steps
    rename Fr _ _ _ _ => F0
    rename News _ _ _ _ => N0
    exact ⟨(vs ++ [.int (4 * g - 2 * d0) _], ns ++ [4 * g - 2 * d0], k + 1), _, _, _, _, rfl, F0, N0, List.forall_mem_cons.mpr ⟨by dsimp only; rw [← List.push_toArray]; exact .head _, List.forall_mem_cons.mpr ⟨.tail _ (.head _), List.forall_mem_nil _⟩⟩, fun p hp => .tail _ (.tail _ hp), by walk_at "same", SI.step hg⟩
  · rintro ⟨vs, ns, k⟩ m h tk SI F N
    obtain ⟨hi, hns⟩ := SI
    have hns : ns = [2 * d0 - 8, 4 * d1 - 2 * d0, 4 * d2 - 2 * d0, 4 * d3 - 2 * d0] := hns
    subst hns
    rcases hi with _ | ⟨_, t4, hi⟩
    rcases hi with _ | ⟨_, t5, hi⟩
    rcases hi with _ | ⟨_, t6, hi⟩
    rcases hi with _ | ⟨_, t7, hi⟩
    cases hi
    dsimp only at F N
    clear F0 N0
    k_with_none
    k_with "eval ListComp" => (k_dflt (refine LCg.ListComp_U (F₀ := by k_asm) (by with_unfolding_all rfl) (by decide) (by rfl) (by decide) (by rfl) ?_))
    k_with "call ref" => (rename Fr _ _ _ _ => F0; rename News _ _ _ _ => N0; refine SpecP.use (qu_specP C _ _ (by omega) (by omega)) F0 N0 st rfl ?a1 ?a2 ⟨full54_keep hf.1 F0.keep, full61_keep hf.2 F0.keep⟩ ?_; (case a1 => show 130 + 400 + 1 ≤ _; omega); (case a2 => show 10 * 130 + 3 ≤ _; omega); rintro r1 h1 tk1 kp1 F1 N1 ⟨t1, rfl⟩; clear F0 N0)
    k_steps
    rename Fr _ _ _ _ => F6
    rename News _ _ _ _ => N6
    try dsimp only
    exact hret _ _ _ F6.keep ⟨_, 4, [_, _, _, _], rfl, N6.fresh (.head _), (N6 _ (.head _)).1, by rw [e7]; exact .cons _ _ (.cons _ _ (.cons _ _ (.cons _ _ .nil)))⟩
theorem sc_specU {w ls mean mg mb H0} (C : Core w ls mean mg mb H0) (a : Int) (ta : Nat) (h0 : 0 ≤ a) (ha : a < 65536) :
    SpecU w H0 294 130 [.int a ta] Full54 (fun h r h' => ∃ D k vs, r = .ref D ∧ h.get? D = none ∧ h'.get? D = some (W.listOf vs.toArray k) ∧ IntsAre vs (scl a)) := by
  intro A s Q E st hh hd hu he hf hret
  refine lift hh hd hu ?_
  have kn : ∀ p ∈ [((61 : Addr), tabObj #[])], H0.get? p.1 = none := List.forall_mem_cons.mpr ⟨C.n61, List.forall_mem_nil _⟩
  have kt : ∀ p ∈ [((61 : Addr), tabObj #[])], s.heap.get? p.1 = some p.2 := List.forall_mem_cons.mpr ⟨he, List.forall_mem_nil _⟩
  walk_at "enterPt"
  rename Gd _ _ _ _ => G
  have h54 := G.full54 he (by intro q t z; cases z) hf
  k_with_none
  k_with "call ref" => refine Hold.mk ?_
  k_steps
  show wpAny _ _ _ _ _ _
  rename Fr _ _ _ _ => F0
  rename News _ _ _ _ => N0
  refine SpecP.use (fig_specP C a 4 4 _ _ _ h0 (by omega) (by omega) (nd4 h0 ha).1 (by omega) (nd4 h0 ha).2) F0 N0 G.st rfl ?_ ?_ (full54_keep h54 F0.keep) ?_
  · show 130 + 400 + 1 ≤ _; omega
  · show 10 * 130 + 3 ≤ _; omega
  rintro r1 h1 tk1 kp1 F1 N1 ⟨td, vs, rfl, e4, e5, hi⟩
  obtain ⟨N2, l2⟩ := news_add F0 N0 N1 e4 e5
  clear F0 N0 N1
  have l3 := l2 _ (.head _)
  dsimp only at l3
  replace l3 := ltN l3
  obtain ⟨d0, d1, d2, d3, e6, b0, b1, b2, b3⟩ := fig4 h0 ha
  have e7 : scl a = [qu (2 * d0 - 8), qu (4 * d1 - 2 * d0), qu (4 * d2 - 2 * d0), qu (4 * d3 - 2 * d0)] := by rw [scl, e6]
  rw [e6] at hi
  rcases hi with _ | ⟨_, t0, hi⟩
  rcases hi with _ | ⟨_, t1, hi⟩
  rcases hi with _ | ⟨_, t2, hi⟩
  rcases hi with _ | ⟨_, t3, hi⟩
  cases hi
  dsimp only
  k_with "exec For" => (k_dflt (refine forV (by k_asm) (by rfl) (by rfl) ?_))
  k_with "pyIter ref" => refine Hold.mk ?_
  k_steps
  show wpAny _ _ _ _ _ _
  rename Fr _ _ _ _ => F0
  rename News _ _ _ _ => N0
  rename_i sd hA lA hB D hC lB
  refine forL (σ := List Value × List Int × Nat) (vs := [.int d1 t1, .int d2 t2, .int d3 t3]) (N0.isList (.head _)) (fun c => [(sd, W.listOf c.1.toArray c.2.2), (td, W.listOf #[.int d0 t0, .int d1 t1, .int d2 t2, .int d3 t3] 0), (61, tabObj #[])]) (fun c => [(PySem.Str.ofString "told", .ref td), (PySem.Str.ofString "shares", .ref sd)])
    (fun i c => SInv d0 [d1, d2, d3] i c.1 c.2.1) [sd, 61] ([.int (2 * d0 - 8) _], [2 * d0 - 8], 0) rfl
    (N0 _ (.head _)).2.1 (List.forall_mem_cons.mpr ⟨⟨by k_ne, Heap.lt_size (N0 _ (.tail _ (.head _))).1⟩, List.forall_mem_cons.mpr ⟨⟨by k_ne, Heap.lt_size (N0 _ (.tail _ (.tail _ (.tail _ (.head _))))).1⟩, List.forall_mem_nil _⟩⟩) (fun c => List.forall_mem_cons.mpr ⟨Heap.lt_size (N0 _ (.tail _ (.head _))).1, List.forall_mem_cons.mpr ⟨Heap.lt_size (N0 _ (.tail _ (.tail _ (.head _)))).1, List.forall_mem_cons.mpr ⟨Heap.lt_size (N0 _ (.tail _ (.tail _ (.tail _ (.head _))))).1, List.forall_mem_nil _⟩⟩⟩) F0 (fun p hp => N0 p (.tail _ hp)) (by walk_at "same") ⟨.cons _ _ .nil, rfl⟩ ?_ ?_
  · rintro i v ⟨vs, ns, k⟩ m own h tk hv SI hoff F N
    obtain ⟨g, t, rfl, hg⟩ := three hv
    have hqs := SI.len (Nat.le_of_ble_eq_true rfl)
    dsimp only at SI F N hqs
    clear F0 N0
    k_steps
    rename Fr _ _ _ _ => F0
    rename News _ _ _ _ => N0
    exact ⟨(vs ++ [.int (4 * g - 2 * d0) _], ns ++ [4 * g - 2 * d0], k + 1), _, _, _, _, rfl, F0, N0, List.forall_mem_cons.mpr ⟨by dsimp only; rw [← List.push_toArray]; exact .head _, List.forall_mem_cons.mpr ⟨.tail _ (.head _), List.forall_mem_cons.mpr ⟨.tail _ (.tail _ (.head _)), List.forall_mem_nil _⟩⟩⟩, fun p hp => .tail _ (.tail _ (.tail _ hp)), by walk_at "same", SI.step hg⟩
  · rintro ⟨vs, ns, k⟩ m h tk SI F N
    obtain ⟨hi, hns⟩ := SI
    have hns : ns = [2 * d0 - 8, 4 * d1 - 2 * d0, 4 * d2 - 2 * d0, 4 * d3 - 2 * d0] := hns
    subst hns
    rcases hi with _ | ⟨_, t4, hi⟩
    rcases hi with _ | ⟨_, t5, hi⟩
    rcases hi with _ | ⟨_, t6, hi⟩
    rcases hi with _ | ⟨_, t7, hi⟩
    cases hi
    dsimp only at F N
    clear F0 N0
    k_with_none
    k_with "eval ListComp" => (k_dflt (refine LCg.ListComp_U (F₀ := by k_asm) (by with_unfolding_all rfl) (by decide) (by rfl) (by decide) (by rfl) ?_))
    k_with "CompRest" => refine Hold.mk ?_
    k_steps
    refine LCg.CompRest.succ ?_
    rintro v I oI Ca oC Da m₂ h9 tk9 E9 hv hC hx F N off ne
    simp only [LCg.Off3, and_true] at off
    obtain rfl := Option.some.inj hv
    k_with_none
    k_with "call ref" => refine Hold.mk ?_
    k_steps
    show wpAny _ _ _ _ _ _
    have r1 : I ≠ 61 := Ne.symm off.2.2.1
    have r2 : Ca ≠ 61 := Ne.symm off.2.2.2.1
    have r3 : Da ≠ 61 := Ne.symm off.2.2.2.2
    have r4 : sd ≠ 61 := by k_ne
    refine SpecU.use2 [(I, _), (Ca, _), (Da, _), (sd, _)] (qu_specU C _ _ (by omega) (by omega)) F N G.st rfl ?_ ?_ (.tail _ (.tail _ (.tail _ (.tail _ (.tail _ (.head _)))))) (List.forall_mem_cons.mpr ⟨.head _, List.forall_mem_cons.mpr ⟨.tail _ (.head _), List.forall_mem_cons.mpr ⟨.tail _ (.tail _ (.head _)), List.forall_mem_cons.mpr ⟨.tail _ (.tail _ (.tail _ (.head _))), List.forall_mem_nil _⟩⟩⟩⟩) (List.forall_mem_cons.mpr ⟨r1, List.forall_mem_cons.mpr ⟨r2, List.forall_mem_cons.mpr ⟨r3, List.forall_mem_cons.mpr ⟨r4, List.forall_mem_nil _⟩⟩⟩⟩) (full54_keep h54 F.keep) ?_
    · show 130 + 400 + 1 ≤ _; omega
    · show 10 * 130 + 3 ≤ _; omega
    rintro y h8 tk8 tl F1 N1 FB foff kp1 ⟨t1, rfl⟩
    have hsm := four_small b0 b1 b2 b3
    have hi0 : IntsAre [.int (2 * d0 - 8) t4, .int (4 * d1 - 2 * d0) t5, .int (4 * d2 - 2 * d0) t6, .int (4 * d3 - 2 * d0) t7] [2 * d0 - 8, 4 * d1 - 2 * d0, 4 * d2 - 2 * d0, 4 * d3 - 2 * d0] := .cons _ _ (.cons _ _ (.cons _ _ (.cons _ _ .nil)))
    refine LCg.CompEnd.intro (tk := tk8) F1 N1 ((sd, _) :: tl) (fun p hp => hp) (LCg.Off3.of fun p hp => ?_) (.inr ⟨_, .head _, rfl, _, rfl⟩) ?_
    · rcases List.mem_cons.mp hp with rfl | hp
      · exact off.1
      · exact ⟨Ne.symm (foff _ (.head _) p hp), Ne.symm (foff _ (.tail _ (.head _)) p hp), Ne.symm (foff _ (.tail _ (.tail _ (.head _))) p hp)⟩
    refine rest_fixed (fun i ys => IntsAre ys (([2 * d0 - 8, 4 * d1 - 2 * d0, 4 * d2 - 2 * d0, 4 * d3 - 2 * d0].take i).map qu)) 4 (.inr ⟨_, .head _, rfl, _, rfl⟩) ?_ ?_ 3 1 _ rfl (.cons _ _ .nil)
    · intro i ys v I oI C1 oC D m₂ h tk E' hi hj hv hC hx F N off ne
      obtain ⟨n, t, rfl, hn⟩ := ints_at hi0 hv
      have hb := hsm n (List.mem_of_getElem? hn)
      k_with_none
      k_with "call ref" => refine Hold.mk ?_
      k_steps
      show wpAny _ _ _ _ _ _
      refine qu_specP C n t hb.1 hb.2 _ _ _ _ (fun b o e => F.keep _ _ (G.st b o e)) rfl ?_ ?_ ⟨full54_keep h54 F.keep, (FB _ F.keep fun p hp => (N p (.tail _ (.tail _ (.tail _ (.tail _ hp))))).1).full⟩ ?_
      · show 130 + 400 + 1 ≤ _; omega
      · show 10 * 130 + 3 ≤ _; omega
      rintro r h' tk' kp ⟨t, rfl⟩
      exact ⟨_, _, rfl, kp, ints_one hj hn⟩
    · intro ys hj D h tk F N o1
      have fr := FB _ F.keep fun p hp => (N p (.tail _ (.tail _ hp))).1
      try dsimp only
      exact hret _ _ _ (fun b o hb e => F.keep _ _ (G.sup _ _ (by simpa using hb) e)) (G.freshU fr) ⟨D, _, ys, rfl, G.none61 N fr (.head _) rfl, (N _ (.head _)).1, by rw [e7]; exact hj⟩
end Mine
namespace Mine
open PySem PySem.W PyProof.Rows PySem.Spec PySem.Calls
theorem clrD13 : True := by
  w_top off
  k_with_none
  trivial
local macro_rules | `(tactic| walk_at $s:str) => `(tactic| k_extra $s)
local macro_rules | `(tactic| walk_at "same") => `(tactic| repeat' (first | exact List.forall_mem_nil _ | refine List.forall_mem_cons.mpr ⟨by with_unfolding_all rfl, ?_⟩))
local macro_rules | `(tactic| walk_at "enterP") => `(tactic| k_dflt (refine' enterP ?kC0 ?kS0 ?k6 ?k7 ?k8 ?k9 ?kB ?_ ?c2 ?c3 ?c4 ?c5; (case kC0 => assumption); (case kS0 => assumption); (case k6 => k_is); (case k7 => k_is); (case k8 => decide); (case k9 => first | exact BindsTo.of_eq rfl | (refine' kp_binds ?kx ?ke; (case kx => exact Frag.In.keeps (Core.X (by assumption)) (by assumption)); (case ke => exact fun _ => rfl))); (case c5 => decide); (case kB => exact locs rfl); (case c2 => exact rfl); (case c3 => exact rfl); (case c4 => exact rfl); k_whole; intro L' h' X' T' C1' C2' F' N'; (try dsimp only); (try k_fold)))
local macro_rules | `(tactic| walk_at "enterX0") => `(tactic| k_dflt (refine' enterX0 ?kC0 ?kS0 ?ko ?kd ?k7 ?k8 ?k9 ?kB ?_ ?c2 ?c3 ?c4 ?c5; (case kC0 => assumption); (case kS0 => assumption); (case ko => assumption); (case kd => exact rfl); (case k7 => assumption); (case k8 => first | decide | (show _ < 1000; omega)); (case k9 => exact BindsTo.of_eq rfl); (case c5 => decide); (case kB => exact locs rfl); (case c2 => exact rfl); (case c3 => exact rfl); (case c4 => exact rfl); k_whole; intro L' h' X' T' C1' C2' F' N'; (try dsimp only); (try k_fold)))
local macro_rules | `(tactic| walk_at "enterC") => `(tactic| k_dflt (refine' enterC ?kC0 ?kS0 ?kn ?kt ?k6 ?k7 ?k8 ?k9 ?kB ?kD ?_ ?c2 ?c3 ?c4; (case kC0 => assumption); (case kS0 => assumption); (case kn => assumption); (case kt => assumption); (case k6 => k_is); (case k7 => k_is); (case k8 => decide); (case k9 => first | exact BindsTo.of_eq rfl | (refine' kp_binds ?kx ?ke; (case kx => exact Frag.In.keeps (Core.X (by assumption)) (by assumption)); (case ke => exact fun _ => rfl))); (case kB => exact rfl); (case kD => decide +kernel); (case c2 => exact rfl); (case c3 => exact rfl); (case c4 => exact rfl); k_whole; intro g' L' h' tk' cells' G' X' T' C1' C2' F' N' Y' l1; (try k_lt l1); k_cells Y'; (try simp only [List.cons_append, List.nil_append] at N'); (try dsimp only); (try k_fold)))
local macro_rules | `(tactic| walk_at "enterPt") => `(tactic| k_dflt (refine' enterPt ?kC0 ?kS0 ?kn ?kt ?k6 ?k7 ?k8 ?k9 ?kB ?_ ?c2 ?c3 ?c4 ?c5; (case kC0 => assumption); (case kS0 => assumption); (case kn => assumption); (case kt => assumption); (case k6 => k_is); (case k7 => k_is); (case k8 => decide); (case k9 => first | exact BindsTo.of_eq rfl | (refine' kp_binds ?kx ?ke; (case kx => exact Frag.In.keeps (Core.X (by assumption)) (by assumption)); (case ke => exact fun _ => rfl))); (case c5 => decide); (case kB => exact locs rfl); (case c2 => exact rfl); (case c3 => exact rfl); (case c4 => exact rfl); k_whole; intro g' L' h' G' X' T' C1' C2' F' N' l1; (try k_lt l1); (try dsimp only); (try k_fold)))

theorem getD_small {ns : List Int} (h : ∀ x ∈ ns, -1000 ≤ x ∧ x ≤ 1000) (i : Nat) : -1000 ≤ ns.getD i 0 ∧ ns.getD i 0 ≤ 1000 := by
  rw [List.getD_eq_getElem?_getD]
  cases e : ns[i]? with
  | none => decide
  | some x => exact h x (List.mem_of_getElem? e)
theorem mul_scale {ns : List Int} (h : ∀ x ∈ ns, -1000 ≤ x ∧ x ≤ 1000) (i : Nat) {c : Int} (hc : 0 ≤ c ∧ c ≤ 2) : IntMulOk (ns.getD i 0) (2 * c - 1) := by
  have := getD_small h i
  generalize ns.getD i 0 = x at this
  mul_fits
def wgt (a : Str) (ns : List Int) : Int :=
  ns.getD 0 0 + ns.getD 1 0 * (2 * costP (Txt.item ("abc" : Str) 0) (Txt.item a 0) - 1) + ns.getD 2 0 * (2 * costP (Txt.item ("abc" : Str) 1) (Txt.item a 1) - 1) + ns.getD 3 0 * (2 * costP (Txt.item ("abc" : Str) 2) (Txt.item a 2) - 1)
theorem wt_specP {w ls mean mg mb H0} (C : Core w ls mean mg mb H0) (a : Str) (ta : Nat) (ha : a.length = 3) (l : Addr) (s0 s1 s2 s3 : Int) (t0 t1 t2 t3 : Nat) (hsm : ∀ x ∈ [s0, s1, s2, s3], -1000 ≤ x ∧ x ≤ 1000) :
    SpecP w H0 301 99 [.str a ta, .ref l] (fun h => h.IsList l #[.int s0 t0, .int s1 t1, .int s2 t2, .int s3 t3]) (fun _ r _ => ∃ t, r = .int (wgt a [s0, s1, s2, s3]) t) := by
  intro A s Q E st hh hd hu hl hret
  refine lift hh hd hu ?_
  walk_at "enterP"
  k_with_none
  k_with "binaryOp Mult int int" => (refine mul_int ?_ (hm := mul_scale hsm _ (costP_in _ _)))
  k_with "call ref" => (rename Fr _ _ _ _ => F0; rename News _ _ _ _ => N0; refine SpecP.use (subst_spec C _ _ _ _ (item_len _ _) (item_len _ _)) F0 N0 st rfl ?a1 ?a2 trivial ?_; (case a1 => show 99 + 400 + 1 ≤ _; omega); (case a2 => show 10 * 99 + 3 ≤ _; omega); rintro r1 h1 tk1 kp1 F1 N1 ⟨t1, rfl⟩; clear F0 N0; dsimp only)
  k_steps
  rename Fr _ _ _ _ => F6
  try dsimp only
  exact hret _ _ _ F6.keep (intEq rfl)
end Mine
namespace Mine
open PySem PySem.W PyProof.Rows PySem.Spec PySem.Calls
section
variable {prog : Program} {w : World} {A : Around} {Q : Flow → Shared → Prop} {s : Shared} {env : Env} {G : Heap} {x : Str} {px : Pos} {body : List Stmt}
/-- a for over any name, cell or local, by what holds between its turns -/
theorem forTW {σ : Type} {I : Addr} {fp wr : List Addr} {n : Nat} {P : Nat → Value → Prop} {St : Nat → Heap → Prop} {m₀ : Str → Option Value} (W : Walks prog w A I fp wr n P St)
    (Led : σ → List (Addr × Obj)) (ps : σ → List (Str × Value)) (Inv : Nat → σ → Prop) (adr : List Addr) (c₀ : σ)
    (hLf : env.locals ∉ fp) (hwr : ∀ b ∈ wr, G.get? b = none) (hadr : ∀ b ∈ adr, b ∉ fp) (hled : ∀ i c, Inv i c → ∀ p ∈ Led c, p.1 ∉ wr) (hst : St 0 s.heap) (F : Fr G env.locals s.heap m₀) (N : News G env.locals s.heap (Led c₀))
    (hk : ∀ p ∈ ps c₀, m₀ p.1 = some p.2) (h0 : Inv 0 c₀)
    (turn : ∀ i v c m own h tk, i < n → P i v → Inv i c → OwnOff own adr → Fr G env.locals h (kstB m (ps c)) → News G env.locals h (Led c ++ own) → St (i + 1) h → (∀ b ∈ wr, ∀ o, h.get? b = some o → (b, o) ∈ own) →
      wpAny (model prog w) A (assign (.Name x px) env v) (fun _ s₃ => wpAny (model prog w) A (execs body env) (FPost G env.locals { s with heap := h, toks := tk } Led ps (Inv (i + 1)) own Q) (fun _ _ => False) s₃) (fun _ _ => False) { s with heap := h, toks := tk })
    (done : ∀ c m h tk, Inv n c → Fr G env.locals h (kstB m (ps c)) → News G env.locals h (Led c) → Q .next { s with heap := h, toks := tk }) :
    TurnsAt prog w A G env (.Name x px) body Q (fun _ _ => False) (.ref I) s := by
  refine ⟨I, fp, wr, n, _, _, St, m₀, Led c₀, fun i m nx => ∃ c, nx = Led c ∧ (∀ p ∈ ps c, m p.1 = some p.2) ∧ Inv i c, rfl, KTurns.ofWalks W (fun i v s Q E _ hQ => wpAny_of_eq rfl hQ), hLf, hwr, hled 0 c₀ h0, hst, F, N, ⟨c₀, rfl, hk, h0⟩, ?_, ?_⟩
  · rintro i v m₁ nx h tk own hi hP ⟨c, rfl, h1, hI⟩ _ hown _ hob hst1 F₁ N₁
    have F₂ : Fr G env.locals h (kstB m₁ (ps c)) := by rw [kstB_same h1]; exact F₁
    have N₂ : News G env.locals h (Led c ++ own) := fun p hp => N₁ p ((List.mem_append.mp hp).elim (fun h => List.mem_append.mpr (.inr h)) fun h => List.mem_append.mpr (.inl h))
    have hoff : OwnOff own adr := fun p hp b hb e => hadr b hb (e ▸ hown p hp)
    refine wpAny_mono (turn i v c m₁ own h tk hi hP hI hoff F₂ N₂ hst1 fun b hb o e => hob b (W.sub b hb) (hwr b hb) o e) (fun _ s₃ q => wpAny_mono q (fun f s₂ q => ?_) fun _ _ x => x) fun _ _ x => x
    have fin : (∃ c' h' tk m' news', s₂ = { s with heap := h', toks := tk } ∧ Fr G env.locals h' m' ∧ News G env.locals h' news' ∧ (∀ p ∈ Led c', p ∈ news') ∧ (∀ p ∈ own, p ∈ news') ∧ (∀ p ∈ ps c', m' p.1 = some p.2) ∧ Inv (i + 1) c') →
        LoopStepU G env.locals wr own (fun m nx => ∃ c, nx = Led c ∧ (∀ p ∈ ps c, m p.1 = some p.2) ∧ Inv (i + 1) c) { s with heap := h, toks := tk } .next s₂ := by
      rintro ⟨c', h', tk', m', news', rfl, F', N', a, b, d, e⟩
      exact ⟨rfl, h', tk', m', Led c', rfl, F', fun p hp => N' p ((List.mem_append.mp hp).elim (b p) (a p)), hled (i + 1) c' e, c', rfl, d, e⟩
    cases f with
    | ret v => exact .ret q
    | brk => exact .brk q
    | next => exact .next (fin q)
    | cont => exact .cont (fin q)
  · rintro h' tk m' nx F' N' _ ⟨c, rfl, h1, hI⟩
    rw [← kstB_same h1] at F'
    exact done c m' h' tk hI F' N'
/-- over a range by ones from nought -/
theorem forTR {σ : Type} {r : Addr} {b₀ : Int} {t₀ u₀ v₀ : Nat} {n : Nat} {m₀ : Str → Option Value} (hh : A.handled = none) (hr : IsRange s.heap r 0 b₀ 1 t₀ u₀ v₀) (hsmall : Builtin.Range.small 0 b₀ 1 = true) (hsize : Builtin.Range.rangeSize 0 b₀ 1 = (n : Int))
    (Led : σ → List (Addr × Obj)) (ps : σ → List (Str × Value)) (Inv : Nat → σ → Prop) (adr : List Addr) (c₀ : σ)
    (hadr : ∀ b ∈ adr, b < s.heap.objs.size) (hled : ∀ i c, Inv i c → ∀ p ∈ Led c, p.1 ≠ s.heap.objs.size) (F : Fr G env.locals s.heap m₀) (N : News G env.locals s.heap (Led c₀))
    (hk : ∀ p ∈ ps c₀, m₀ p.1 = some p.2) (h0 : Inv 0 c₀)
    (turn : ∀ i t c m own h tk, i < n → Inv i c → OwnOff own adr → Fr G env.locals h (kstB m (ps c)) → News G env.locals h (Led c ++ own) → (∃ o, (s.heap.objs.size, o) ∈ own) →
      wpAny (model prog w) A (assign (.Name x px) env (.int (i : Int) t)) (fun _ s₃ => wpAny (model prog w) A (execs body env) (FPost G env.locals { s with heap := h, toks := tk } Led ps (Inv (i + 1)) own Q) (fun _ _ => False) s₃) (fun _ _ => False) { s with heap := h, toks := tk })
    (done : ∀ c m h tk, Inv n c → Fr G env.locals h (kstB m (ps c)) → News G env.locals h (Led c) → Q .next { s with heap := h, toks := tk }) :
    wpAny (model prog w) A (pyIter (.ref r)) (fun it s₂ => TurnsAt prog w A G env (.Name x px) body Q (fun _ _ => False) it s₂) (fun _ _ => False) s := by
  refine wpAny_pyIter_range hr hsmall ?_
  have W : Walks prog w A s.heap.objs.size [s.heap.objs.size] [s.heap.objs.size] n (fun i v => i < n ∧ ∃ t, v = .int (0 + i * 1) t)
      (fun i h => IsRangeIter h s.heap.objs.size (0 + (i : Nat) * 1) ((n : Int) - (i : Nat)) 1) := (Walks.range hh _ 0 1 n).bound
  refine forTW (s := { s with heap := s.heap.push _ }) W Led ps Inv adr c₀ ?_ ?_ ?_ ?_ (by show IsRangeIter _ _ _ _ _; rw [hsize]; simpa using Heap.get?_push_size _ rfl) (F.push _) (fun p hp => ⟨Heap.get?_push_of_some _ (N p hp).1, (N p hp).2⟩) hk h0 ?_ ?_
  · intro hm
    exact absurd F.ns.lt ((List.mem_singleton.mp hm) ▸ Nat.lt_irrefl _)
  · intro b hb
    rw [List.mem_singleton.mp hb]
    exact next_is_new F
  · intro b hb hm
    exact absurd (hadr b hb) ((List.mem_singleton.mp hm) ▸ Nat.lt_irrefl _)
  · intro i c hi p hp hI
    exact hled i c hi p hp (List.mem_singleton.mp hI)
  · rintro i v c m own h tk hi ⟨_, t, rfl⟩ hI ho F₁ N₁ hst how
    have e1 : (0 : Int) + (i : Int) * 1 = (i : Int) := by omega
    rw [e1]
    exact turn i t c m own h tk hi hI ho F₁ N₁ ⟨_, how _ (.head _) _ hst⟩
  · intro c m h tk hI F₁ N₁
    exact done c m h tk hI F₁ N₁
theorem forT {m : Str → Option Value} {target iter : Expr} {pos : Pos} (F : Fr G env.locals s.heap m)
    (h : wpAny (model prog w) A (eval iter env) (fun xv s₁ => wpAny (model prog w) A (pyIter xv) (fun it s₂ => TurnsAt prog w A G env target body Q (fun _ _ => False) it s₂) (fun _ _ => False) s₁) (fun _ _ => False) s)
    (hs : ∀ x, foldedSetIterable iter env x = pure x := by intro _; rfl) :
    wpAny (model prog w) A (exec (.For target iter body [] pos) env) Q (fun _ _ => False) s := For_turns F h hs PassesOwn.never
end
end Mine
namespace Mine
open PySem PySem.W PyProof.Rows PySem.Spec PySem.Calls
theorem clrD14 : True := by
  w_top off
  k_with_none
  trivial
local macro_rules | `(tactic| walk_at $s:str) => `(tactic| k_extra $s)
local macro_rules | `(tactic| walk_at "same") => `(tactic| repeat' (first | exact List.forall_mem_nil _ | refine List.forall_mem_cons.mpr ⟨by with_unfolding_all rfl, ?_⟩))
local macro_rules | `(tactic| walk_at "enterP") => `(tactic| k_dflt (refine' enterP ?kC0 ?kS0 ?k6 ?k7 ?k8 ?k9 ?kB ?_ ?c2 ?c3 ?c4 ?c5; (case kC0 => assumption); (case kS0 => assumption); (case k6 => k_is); (case k7 => k_is); (case k8 => decide); (case k9 => first | exact BindsTo.of_eq rfl | (refine' kp_binds ?kx ?ke; (case kx => exact Frag.In.keeps (Core.X (by assumption)) (by assumption)); (case ke => exact fun _ => rfl))); (case c5 => decide); (case kB => exact locs rfl); (case c2 => exact rfl); (case c3 => exact rfl); (case c4 => exact rfl); k_whole; intro L' h' X' T' C1' C2' F' N'; (try dsimp only); (try k_fold)))
local macro_rules | `(tactic| walk_at "enterX0") => `(tactic| k_dflt (refine' enterX0 ?kC0 ?kS0 ?ko ?kd ?k7 ?k8 ?k9 ?kB ?_ ?c2 ?c3 ?c4 ?c5; (case kC0 => assumption); (case kS0 => assumption); (case ko => assumption); (case kd => exact rfl); (case k7 => assumption); (case k8 => first | decide | (show _ < 1000; omega)); (case k9 => exact BindsTo.of_eq rfl); (case c5 => decide); (case kB => exact locs rfl); (case c2 => exact rfl); (case c3 => exact rfl); (case c4 => exact rfl); k_whole; intro L' h' X' T' C1' C2' F' N'; (try dsimp only); (try k_fold)))
local macro_rules | `(tactic| walk_at "enterC") => `(tactic| k_dflt (refine' enterC ?kC0 ?kS0 ?kn ?kt ?k6 ?k7 ?k8 ?k9 ?kB ?kD ?_ ?c2 ?c3 ?c4; (case kC0 => assumption); (case kS0 => assumption); (case kn => assumption); (case kt => assumption); (case k6 => k_is); (case k7 => k_is); (case k8 => decide); (case k9 => first | exact BindsTo.of_eq rfl | (refine' kp_binds ?kx ?ke; (case kx => exact Frag.In.keeps (Core.X (by assumption)) (by assumption)); (case ke => exact fun _ => rfl))); (case kB => exact rfl); (case kD => decide +kernel); (case c2 => exact rfl); (case c3 => exact rfl); (case c4 => exact rfl); k_whole; intro g' L' h' tk' cells' G' X' T' C1' C2' F' N' Y' l1; (try k_lt l1); k_cells Y'; (try simp only [List.cons_append, List.nil_append] at N'); (try dsimp only); (try k_fold)))
local macro_rules | `(tactic| walk_at "enterPt") => `(tactic| k_dflt (refine' enterPt ?kC0 ?kS0 ?kn ?kt ?k6 ?k7 ?k8 ?k9 ?kB ?_ ?c2 ?c3 ?c4 ?c5; (case kC0 => assumption); (case kS0 => assumption); (case kn => assumption); (case kt => assumption); (case k6 => k_is); (case k7 => k_is); (case k8 => decide); (case k9 => first | exact BindsTo.of_eq rfl | (refine' kp_binds ?kx ?ke; (case kx => exact Frag.In.keeps (Core.X (by assumption)) (by assumption)); (case ke => exact fun _ => rfl))); (case c5 => decide); (case kB => exact locs rfl); (case c2 => exact rfl); (case c3 => exact rfl); (case c4 => exact rfl); k_whole; intro g' L' h' G' X' T' C1' C2' F' N' l1; (try k_lt l1); (try dsimp only); (try k_fold)))

/-- the sums of the subsets of a half -/
def sums (ns : List Int) (off : Nat) : Nat → List Int
  | 0 => [0]
  | i + 1 => sums ns off i ++ (sums ns off i).map (fun p => p + ns.getD (i + off) 0)
theorem sums_length (ns : List Int) (off i : Nat) : (sums ns off i).length = 2 ^ i := by
  induction i with
  | zero => rfl
  | succ i ih => rw [sums, List.length_append, List.length_map, ih]; omega
theorem sums_len (ns : List Int) (off : Nat) {i : Nat} (h : i ≤ 4) : (sums ns off i).length ≤ 16 := by
  rw [sums_length]
  exact Nat.pow_le_pow_right (by decide) h
structure AmS where
  nr : Addr
  fr : Addr
  nv : List Value
  fv : List Value
  oT : Obj
structure AmI (ns : List Int) (cT I : Nat) (i : Nat) (c : AmS) : Prop where
  n : IntsAre c.nv (sums ns 0 i)
  f : IntsAre c.fv (sums ns 4 i)
  o : ∃ v, c.oT.data = .cell v
  a1 : cT < c.nr
  a2 : cT < c.fr
  b1 : c.nr ≠ I
  b2 : c.fr ≠ I
theorem sums_small {ns : List Int} (h : ∀ x ∈ ns, 0 ≤ x ∧ x ≤ 10000) (off : Nat) : ∀ i, ∀ p ∈ sums ns off i, 0 ≤ p ∧ p ≤ 10000 * (i : Int)
  | 0, p, hp => by rw [List.mem_singleton.mp hp]; decide
  | i + 1, p, hp => by
    rcases List.mem_append.mp hp with hp | hp
    · have := sums_small h off i p hp
      omega
    · obtain ⟨q, hq, rfl⟩ := List.mem_map.mp hp
      have := sums_small h off i q hq
      have h2 : 0 ≤ ns.getD (i + off) 0 ∧ ns.getD (i + off) 0 ≤ 10000 := by
        rw [List.getD_eq_getElem?_getD]
        cases e : ns[i + off]? with
        | none => decide
        | some x => exact h x (List.mem_of_getElem? e)
      omega
def ins (x : Int) : List Int → List Int
  | [] => [x]
  | y :: r => if x ≤ y then x :: y :: r else y :: ins x r
def isort : List Int → List Int
  | [] => []
  | x :: r => ins x (isort r)
theorem ins_perm (x : Int) : ∀ l, (ins x l).Perm (x :: l)
  | [] => .refl _
  | y :: r => by
    rw [ins]
    split
    · exact .refl _
    · exact ((ins_perm x r).cons y).trans (.swap x y r)
theorem ins_sorted (x : Int) : ∀ l : List Int, l.Pairwise (· ≤ ·) → (ins x l).Pairwise (· ≤ ·)
  | [], _ => List.pairwise_singleton _ _
  | y :: r, h => by
    rw [ins]
    split
    · rename_i hxy
      refine List.pairwise_cons.mpr ⟨fun z hz => ?_, h⟩
      rcases List.mem_cons.mp hz with rfl | hz
      · exact hxy
      · exact Int.le_trans hxy ((List.pairwise_cons.mp h).1 z hz)
    · rename_i hxy
      refine List.pairwise_cons.mpr ⟨fun z hz => ?_, ins_sorted x r (List.pairwise_cons.mp h).2⟩
      rcases List.mem_cons.mp ((ins_perm x r).mem_iff.mp hz) with rfl | hz
      · omega
      · exact (List.pairwise_cons.mp h).1 z hz
theorem isort_perm : ∀ l, (isort l).Perm l
  | [] => .refl _
  | x :: r => (ins_perm x (isort r)).trans ((isort_perm r).cons x)
theorem isort_sorted : ∀ l, (isort l).Pairwise (· ≤ ·)
  | [] => .nil
  | x :: r => ins_sorted x _ (isort_sorted r)
theorem isort_only {l n : List Int} (p : n.Perm l) (o : n.Pairwise (· ≤ ·)) : n = isort l :=
  List.Perm.eq_of_pairwise (le := (· ≤ ·)) (fun a b _ _ h1 h2 => Int.le_antisymm h1 h2) o (isort_sorted l) (p.trans (isort_perm l).symm)
def amAt (far : List Int) (tot p : Int) : Int := bisR far (tot - p) - bisL far (tot - p)
def amTo (far : List Int) (tot : Int) (l : List Int) : Int := l.foldl (fun a p => a + amAt far tot p) 0
theorem amTo_step {far : List Int} {tot : Int} {l : List Int} {i : Nat} {p : Int} (e : l[i]? = some p) : amTo far tot (l.take (i + 1)) = amTo far tot (l.take i) + amAt far tot p := by
  rw [List.take_add_one, e]
  simp [amTo, List.foldl_append]
def amany (ns : List Int) (tot : Int) : Int := amTo (isort (sums ns 4 4)) tot (sums ns 0 4)
theorem am_specP {w ls mean mg mb H0} (C : Core w ls mean mg mb H0) (l : Addr) (tot : Int) (tt : Nat) (vs : List Value) (ns : List Int) (hi : IntsAre vs ns) (hlen : ns.length = 8) (hsm : ∀ x ∈ ns, 0 ≤ x ∧ x ≤ 10000) (ht : 0 ≤ tot ∧ tot ≤ 100000) :
    SpecP w H0 306 98 [.ref l, .int tot tt] (fun h => h.IsList l vs.toArray) (fun _ r _ => ∃ t, r = .int (amany ns tot) t) := by
  intro A s Q E st hh hd hu hl hret
  refine lift hh hd hu ?_
  have kn : ∀ p ∈ ([] : List (Addr × Obj)), H0.get? p.1 = none := List.forall_mem_nil _
  have kt : ∀ p ∈ ([] : List (Addr × Obj)), s.heap.get? p.1 = some p.2 := List.forall_mem_nil _
  walk_at "enterC"
  rename Gd _ _ _ _ => G
  have hlg := G.list kt hl (List.forall_mem_nil _)
  k_with_none
  k_with "exec For" => (k_dflt (refine forT (by k_asm) ?_))
  k_with "pyIter ref" => refine Hold.mk ?_
  k_with "call ref" => refine Hold.mk ?_
  k_steps
  show wpAny _ _ _ _ _ _
  rename IsRange _ _ _ _ _ _ _ _ => hr
  rename Fr _ _ _ _ => F0
  rename News _ _ _ _ => N0
  rename_i g L0 hA tkA X T C1 C2 lA oT oV dT dV nr hB lB hC tB fr hD lC hE FF NN hF tF t1 u1 v1 kk
  clear FF NN
  refine forTR (σ := AmS) (n := 4) rfl hr rfl rfl (fun c => [(c.fr, W.listOf c.fv.toArray 0), (c.nr, W.listOf c.nv.toArray 0), (L0 + 1 + 1, c.oT), (L0 + 1, oV)])
    (fun c => [(PySem.Str.ofString "total", .int tot tt), (PySem.Str.ofString "near", .ref c.nr), (PySem.Str.ofString "far", .ref c.fr)]) (fun i c => AmI ns (L0 + 1 + 1) hF.objs.size i c) [L0 + 1 + 1]
    ⟨nr, fr, [.int 0 _], [.int 0 _], oT⟩ ?_ ?_ F0 N0 (by walk_at "same") ⟨.cons _ _ .nil, .cons _ _ .nil, ⟨_, dT⟩, lB.1, lC.2.1, Nat.ne_of_lt (Heap.lt_size (N0 _ (.tail _ (.head _))).1), Nat.ne_of_lt (Heap.lt_size (N0 _ (.head _)).1)⟩ ?_ ?_
  · intro b hb
    rw [List.mem_singleton.mp hb]
    exact Heap.lt_size (N0 _ (.tail _ (.tail _ (.head _)))).1
  · intro i c I
    exact List.forall_mem_cons.mpr ⟨I.b2, List.forall_mem_cons.mpr ⟨I.b1, List.forall_mem_cons.mpr ⟨Nat.ne_of_lt (Heap.lt_size (N0 _ (.tail _ (.tail _ (.head _)))).1), List.forall_mem_cons.mpr ⟨Nat.ne_of_lt (Heap.lt_size (N0 _ (.tail _ (.tail _ (.tail _ (.head _))))).1), List.forall_mem_nil _⟩⟩⟩⟩
  · rintro i t ⟨nr, fr, nv, fv, oT⟩ m own h tk hi4 I hoff F N ⟨oI, hoI⟩
    obtain ⟨hn, hf, ⟨v0, ho⟩, a1, a2, b1, b2⟩ := I
    dsimp only at hn hf ho a1 a2 b1 b2 F N
    have ln := sums_len ns 0 (Nat.le_of_lt hi4)
    have lf := sums_len ns 4 (Nat.le_of_lt hi4)
    clear F0 N0
    k_with_none
    k_with "call ref" => refine Hold.mk ?_
    k_with "binaryOp Add ref ref" => refine Hold.mk ?_
    k_steps
    show wpAny _ _ _ _ _ _
    rename Fr _ _ _ _ => F0
    rename News _ _ _ _ => N0
    rename_i ys hI8 hL8 D hX tkX oo
    have hI : IntsAre ys ((sums ns 0 i).map fun p => p + ns.getD (i + 0) 0) := hI8
    simp only [List.append_eq, List.cons_append, List.nil_append] at N0
    refine add_arrays_ints F0 N0 (N0.isList (.tail _ (.tail _ (.head _)))) (N0.isList (.head _)) hn hI ?_ (by rw [List.length_map, sizeLine_eq]; exact Nat.le_trans (Nat.add_le_add ln ln) (by decide))
    intro h7 F7 N7 hi7
    have z3 : hF.objs.size < hX.objs.size := Heap.lt_size (N0 _ (.tail _ (.tail _ (.tail _ (.tail _ (.tail _ hoI)))))).1
    have z1 : L0 + 1 + 1 < hX.objs.size := Heap.lt_size (N0 _ (.tail _ (.tail _ (.tail _ (.head _))))).1
    clear F0 N0
    k_steps
    show wpAny _ _ _ _ _ _
    rename Fr _ _ _ _ => F0
    rename News _ _ _ _ => N0
    rename_i hI9 hL9 D2 hY tkY oo2
    have hJ : IntsAre _ ((sums ns 4 i).map fun p => p + ns.getD (i + 4) 0) := hI9
    try simp only [List.append_eq, List.cons_append, List.nil_append] at N0
    refine add_arrays_ints F0 N0 (N0.isList (.tail _ (.tail _ (.tail _ (.head _))))) (N0.isList (.head _)) hf hJ ?_ (by rw [List.length_map, sizeLine_eq]; exact Nat.le_trans (Nat.add_le_add lf lf) (by decide))
    intro h9 F9 N9 hi9
    have z2 : L0 + 1 + 1 < hY.objs.size := Heap.lt_size (N0 _ (.tail _ (.tail _ (.tail _ (.tail _ (.tail _ (.head _))))))).1
    have z4 : hF.objs.size < hY.objs.size := Heap.lt_size (N0 _ (.tail _ (.tail _ (.tail _ (.tail _ (.tail _ (.tail _ (.tail _ hoI)))))))).1
    clear F0 N0
    k_steps
    rename Fr _ _ _ _ => F0
    rename News _ _ _ _ => N0
    exact ⟨⟨hX.objs.size, hY.objs.size, _, _, _⟩, _, _, _, _, rfl, F0, N0, List.forall_mem_cons.mpr ⟨.head _, List.forall_mem_cons.mpr ⟨.tail _ (.tail _ (.head _)), List.forall_mem_cons.mpr ⟨by k_mem, List.forall_mem_cons.mpr ⟨by k_mem, List.forall_mem_nil _⟩⟩⟩⟩, fun p hp => .tail _ (.tail _ (.tail _ (.tail _ (.tail _ (.tail _ (.tail _ (.tail _ hp))))))), by walk_at "same", hi7, hi9, ⟨_, by assumption⟩, z1, z2, Nat.ne_of_gt z3, Nat.ne_of_gt z4⟩
  · rintro ⟨nr, fr, nv, fv, oT⟩ m h tk I F N
    obtain ⟨hn, hf, ⟨v0, ho⟩, a1, a2, b1, b2⟩ := I
    dsimp only at hn hf ho a1 a2 b1 b2 F N
    have ln := sums_len ns 0 (Nat.le_refl 4)
    have lf := sums_len ns 4 (Nat.le_refl 4)
    have hs0 := sums_small hsm 0 4
    have hres : amany ns tot = amTo (isort (sums ns 4 4)) tot (sums ns 0 4) := rfl
    generalize sums ns 4 4 = S4 at hf lf hres
    generalize sums ns 0 4 = S0 at hn ln hres hs0
    clear hsm hlen hi
    clear F0 N0
    k_with_none
    k_with "exec For" => (k_dflt (refine forV (by k_asm) (by rfl) (by rfl) ?_))
    k_with "pyIter ref" => refine Hold.mk ?_
    k_with "call ref" => refine Hold.mk ?_
    k_steps
    show wpAny _ _ _ _ _ _
    rename Fr _ _ _ _ => F0
    rename News _ _ _ _ => N0
    rename List.Perm _ _ => hp
    rename List.Pairwise _ _ => ho2
    rename IntsAre _ _ => hs
    obtain rfl := isort_only hp ho2
    have hs2 : (isort S4).length ≤ 1000 := by rw [hp.length_eq]; exact Nat.le_trans lf (by decide)
    generalize isort S4 = R at *
    refine forL (σ := Int × Nat) (vs := nv) (N0.isList (.tail _ (.tail _ (.head _)))) (fun c => [(_, W.listOf _ _)]) (fun c => [(PySem.Str.ofString "total", .int tot tt), (PySem.Str.ofString "far", .ref _), (PySem.Str.ofString "counted", .int c.1 c.2)])
      (fun i c => c.1 = amTo R tot (S0.take i)) [] (0, _) rfl (N0 _ (.tail _ (.tail _ (.head _)))).2.1 (List.forall_mem_nil _) (fun c => List.forall_mem_cons.mpr ⟨Heap.lt_size (N0 _ (.head _)).1, List.forall_mem_nil _⟩) F0 (fun p hp => N0 p (by rw [List.mem_singleton.mp hp]; exact .head _)) (by walk_at "same") rfl ?_ ?_
    · rintro i v ⟨cnt, tc⟩ m own h tk hv I hoff F N
      obtain ⟨p, tp, rfl, hp2⟩ := ints_at hn (by simpa using hv)
      have hps := hs0 p (List.mem_of_getElem? hp2)
      dsimp only at I F N
      clear F0 N0
      k_steps
      show wpAny _ _ _ _ _ _
      rename Fr _ _ _ _ => F0
      rename News _ _ _ _ => N0
      refine SpecP.use (bisR_spec C _ _ R _ _ hs hs2 (by omega)) F0 N0 G.st rfl ?_ ?_ (N0.isList (.head _)) ?_
      · show 98 + 400 + 1 ≤ _; omega
      · show 10 * 98 + 3 ≤ _; omega
      rintro r1 h1 tk1 kp1 F1 N1 ⟨t1, rfl⟩
      clear F0 N0
      dsimp only
      k_steps
      show wpAny _ _ _ _ _ _
      rename Fr _ _ _ _ => F0
      rename News _ _ _ _ => N0
      refine SpecP.use (bisL_spec C _ _ R _ _ hs hs2 (by omega)) F0 N0 G.st rfl ?_ ?_ (N0.isList (.head _)) ?_
      · show 98 + 400 + 1 ≤ _; omega
      · show 10 * 98 + 3 ≤ _; omega
      rintro r1 h1 tk1 kp1 F1 N1 ⟨t1, rfl⟩
      clear F0 N0
      dsimp only
      k_steps
      rename Fr _ _ _ _ => F0
      rename News _ _ _ _ => N0
      exact ⟨(cnt + (bisR R (tot - p) - bisL R (tot - p)), _), _, _, _, _, rfl, F0, N0, List.forall_mem_cons.mpr ⟨.head _, List.forall_mem_nil _⟩, fun p hp => .tail _ hp, by walk_at "same", by dsimp only; rw [I]; exact (amTo_step hp2).symm⟩
    · rintro ⟨cnt, tc⟩ m h tk I F N
      dsimp only at I F N
      have hl0 := hn.length
      clear F0 N0
      k_steps
      rename Fr _ _ _ _ => F6
      try dsimp only
      exact hret _ _ _ (fun b o e => F6.keep _ _ (G.sup _ _ (by simp) e)) (intEq (by rw [I, hres, hl0, List.take_length]))
end Mine
namespace Mine
open PySem PySem.W PyProof.Rows PySem.Spec PySem.Calls
theorem clrD15 : True := by
  w_top off
  k_with_none
  trivial
local macro_rules | `(tactic| walk_at $s:str) => `(tactic| k_extra $s)
local macro_rules | `(tactic| walk_at "same") => `(tactic| repeat' (first | exact List.forall_mem_nil _ | refine List.forall_mem_cons.mpr ⟨by with_unfolding_all rfl, ?_⟩))
local macro_rules | `(tactic| walk_at "enterP") => `(tactic| k_dflt (refine' enterP ?kC0 ?kS0 ?k6 ?k7 ?k8 ?k9 ?kB ?_ ?c2 ?c3 ?c4 ?c5; (case kC0 => assumption); (case kS0 => assumption); (case k6 => k_is); (case k7 => k_is); (case k8 => decide); (case k9 => first | exact BindsTo.of_eq rfl | (refine' kp_binds ?kx ?ke; (case kx => exact Frag.In.keeps (Core.X (by assumption)) (by assumption)); (case ke => exact fun _ => rfl))); (case c5 => decide); (case kB => exact locs rfl); (case c2 => exact rfl); (case c3 => exact rfl); (case c4 => exact rfl); k_whole; intro L' h' X' T' C1' C2' F' N'; (try dsimp only); (try k_fold)))
local macro_rules | `(tactic| walk_at "enterX0") => `(tactic| k_dflt (refine' enterX0 ?kC0 ?kS0 ?ko ?kd ?k7 ?k8 ?k9 ?kB ?_ ?c2 ?c3 ?c4 ?c5; (case kC0 => assumption); (case kS0 => assumption); (case ko => assumption); (case kd => exact rfl); (case k7 => assumption); (case k8 => first | decide | (show _ < 1000; omega)); (case k9 => exact BindsTo.of_eq rfl); (case c5 => decide); (case kB => exact locs rfl); (case c2 => exact rfl); (case c3 => exact rfl); (case c4 => exact rfl); k_whole; intro L' h' X' T' C1' C2' F' N'; (try dsimp only); (try k_fold)))
local macro_rules | `(tactic| walk_at "enterC") => `(tactic| k_dflt (refine' enterC ?kC0 ?kS0 ?kn ?kt ?k6 ?k7 ?k8 ?k9 ?kB ?kD ?_ ?c2 ?c3 ?c4; (case kC0 => assumption); (case kS0 => assumption); (case kn => assumption); (case kt => assumption); (case k6 => k_is); (case k7 => k_is); (case k8 => decide); (case k9 => first | exact BindsTo.of_eq rfl | (refine' kp_binds ?kx ?ke; (case kx => exact Frag.In.keeps (Core.X (by assumption)) (by assumption)); (case ke => exact fun _ => rfl))); (case kB => exact rfl); (case kD => decide +kernel); (case c2 => exact rfl); (case c3 => exact rfl); (case c4 => exact rfl); k_whole; intro g' L' h' tk' cells' G' X' T' C1' C2' F' N' Y' l1; (try k_lt l1); k_cells Y'; (try simp only [List.cons_append, List.nil_append] at N'); (try dsimp only); (try k_fold)))
local macro_rules | `(tactic| walk_at "enterPt") => `(tactic| k_dflt (refine' enterPt ?kC0 ?kS0 ?kn ?kt ?k6 ?k7 ?k8 ?k9 ?kB ?_ ?c2 ?c3 ?c4 ?c5; (case kC0 => assumption); (case kS0 => assumption); (case kn => assumption); (case kt => assumption); (case k6 => k_is); (case k7 => k_is); (case k8 => decide); (case k9 => first | exact BindsTo.of_eq rfl | (refine' kp_binds ?kx ?ke; (case kx => exact Frag.In.keeps (Core.X (by assumption)) (by assumption)); (case ke => exact fun _ => rfl))); (case c5 => decide); (case kB => exact locs rfl); (case c2 => exact rfl); (case c3 => exact rfl); (case c4 => exact rfl); k_whole; intro g' L' h' G' X' T' C1' C2' F' N' l1; (try k_lt l1); (try dsimp only); (try k_fold)))

/-- the table of the ways between the words -/
structure RM (h : Heap) (R : Addr) (M : List (List Int)) : Prop where
  rs : ∃ rs : List Addr, h.IsList R (rs.map Value.ref).toArray ∧ rs.length = 8 ∧ ∀ (i : Nat) (r : Addr), rs[i]? = some r → ∃ vs, h.IsList r (List.toArray vs) ∧ IntsAre vs (M.getD i []) ∧ (M.getD i []).length = 8
theorem RM.keep {h h' : Heap} {R : Addr} {M : List (List Int)} (x : RM h R M) (k : Keep h h') : RM h' R M := by
  obtain ⟨rs, hl, hn, hr⟩ := x
  refine ⟨rs, hl.at fun o e => k _ _ e, hn, fun i r e => ?_⟩
  obtain ⟨vs, a, b, c⟩ := hr i r e
  exact ⟨vs, a.at fun o e => k _ _ e, b, c⟩
section
variable {prog : Program} {w : World} {A : Around} {E : Value → Shared → Prop} {s : Shared} {g : Heap} {L R r : Addr} {m : Str → Option Value} {M : List (List Int)} {value slice : Expr} {k : Int} {u : Tok} {Q : Value → Shared → Prop} {vs : List Value} {ns : List Int}
theorem rm_item (F : Fr g L s.heap m) (H : RM g R M) (h0 : 0 ≤ k) (h1 : k < 8) (h : ∀ r vs, g.IsList r (List.toArray vs) → IntsAre vs (M.getD k.toNat []) → (M.getD k.toNat []).length = 8 → Q (.ref r) s)
    (hs : subscripted slice false (.ref R) (.int k u) = operate [.ref R, .int k u] (getItem (.ref R) (.int k u)) := by with_unfolding_all rfl) (hg : ∀ r, letTemporaryGo value (.ref R) r = pure () := by intro _; with_unfolding_all rfl) :
    wpAny (model prog w) A (subscriptTail value slice (.ref R) (.int k u)) Q E s := by
  obtain ⟨rs, hl, hn, hr⟩ := H.rs
  have hk : k.toNat < rs.length := by omega
  obtain ⟨vs, a, b, c⟩ := hr k.toNat rs[k.toNat] (List.getElem?_eq_getElem hk)
  exact item_list (hl.at fun o e => F.keep _ _ e) h0 (by omega) (x := .ref rs[k.toNat]) (by simp [hk]) (h _ vs a b c) hs hg
theorem row_item (F : Fr g L s.heap m) (hl : g.IsList r vs.toArray) (hi : IntsAre vs ns) (hn : ns.length = 8) (h0 : 0 ≤ k) (h1 : k < 8) (h : ∀ t, Q (.int (ns.getD k.toNat 0) t) s)
    (hs : subscripted slice false (.ref r) (.int k u) = operate [.ref r, .int k u] (getItem (.ref r) (.int k u)) := by with_unfolding_all rfl) (hg : ∀ x, letTemporaryGo value (.ref r) x = pure () := by intro _; with_unfolding_all rfl) :
    wpAny (model prog w) A (subscriptTail value slice (.ref r) (.int k u)) Q E s :=
  item_list_ints (hl.at fun o e => F.keep _ _ e) hi h0 (by omega) (by omega) h hs hg
end
open PyProof.Rows.LCg PyProof.Rows.LCt in
/-- a comprehension with a test whose turns change nothing older -/
theorem rest_fixedT {prog : Program} {w : World} {A : Around} {h₀ : Heap} {L : Addr} {m : Str → Option Value} {env : Env} {ct elt : Expr} {x : Str} {scope : Scope} {cl : List (Str × Addr)} {s : Shared} {S : List (Addr × Obj) → Prop} {P : Nat → Value → Prop}
    {Fin : List Value → List (Addr × Obj) → Prop} {news : List (Addr × Obj)} (J : Nat → List Value → Prop) (n : Nat) (hS : S news)
    (turn : ∀ i ys v I oI C oC D m₂ h tk (E' : Value → Shared → Prop), i < n → J i ys → P i v → NsObj oC m₂ → m₂ x = some v → Fr h₀ L h m → News h₀ L h ((I, oI) :: (C, oC) :: (D, lst ys) :: news) → Off3 I C D news → ((@Ne Nat I C) ∧ (@Ne Nat I D) ∧ (@Ne Nat C D)) →
      wpAny (model prog w) A (isTrue ct (compEnvC scope cl C env) (eval ct (compEnvC scope cl C env))) (fun ok s' => if ok = true then
        wpAny (model prog w) A (eval elt (compEnvC scope cl C env)) (fun y s₂ => ∃ h' tk', s₂ = { s with heap := h', toks := tk' } ∧ Keep h h' ∧ J (i + 1) (ys ++ [y])) E' s'
        else ∃ h' tk', s' = { s with heap := h', toks := tk' } ∧ Keep h h' ∧ J (i + 1) ys) E' { s with heap := h, toks := tk })
    (fin : ∀ ys, J n ys → Fin ys news) : ∀ k i ys, i + k = n → J i ys → CompRestT prog w A h₀ L m env ct elt x scope cl s S P Fin k i ys news
  | 0, i, ys, e, j => CompRestT.zero (fin ys (by rw [← e]; exact j))
  | k + 1, i, ys, e, j => CompRestT.succ fun v I oI C oC D m₂ h tk E' hv hC hx F N off ne =>
    wpAny_mono (turn i ys v I oI C oC D m₂ h tk E' (by omega) j hv hC hx F N off ne) (fun ok s' q => by
      cases ok with
      | true =>
        simp only [if_true] at q ⊢
        refine wpAny_mono q (fun y s₂ ⟨h', tk', e', kp, j'⟩ => ?_) fun _ _ x => x
        subst e'
        exact CompEnd.intro (s₁ := { s with heap := h, toks := tk }) (F.keeps kp) (fun p hp => ⟨kp _ _ (N p hp).1, (N p hp).2⟩) news (fun p hp => hp) off hS (rest_fixedT J n hS turn fin k (i + 1) (ys ++ [y]) (by omega) j')
      | false =>
        simp only [Bool.false_eq_true, if_false] at q ⊢
        obtain ⟨h', tk', e', kp, j'⟩ := q
        subst e'
        exact CompEnd.intro (s₁ := { s with heap := h, toks := tk }) (F.keeps kp) (fun p hp => ⟨kp _ _ (N p hp).1, (N p hp).2⟩) news (fun p hp => hp) off hS (rest_fixedT J n hS turn fin k (i + 1) ys (by omega) j')) fun _ _ x => x
theorem filt_yes {i : Nat} {xs : List Int} {x : Int} {ys : List Value} {t : Nat} {p : Int → Bool} (h : IntsAre ys ((xs.take i).filter p)) (e : xs[i]? = some x) (hp : p x = true) : IntsAre (ys ++ [.int x t]) ((xs.take (i + 1)).filter p) := by
  rw [List.take_add_one, e, List.filter_append]
  simp only [Option.toList_some, List.filter_cons, hp, if_true, List.filter_nil]
  exact ints_snoc h
theorem filt_no {i : Nat} {xs : List Int} {x : Int} {ys : List Value} {p : Int → Bool} (h : IntsAre ys ((xs.take i).filter p)) (e : xs[i]? = some x) (hp : p x = false) : IntsAre ys ((xs.take (i + 1)).filter p) := by
  rw [List.take_add_one, e, List.filter_append]
  simpa [hp] using h
def mat (M : List (List Int)) (x u : Int) : Int := (M.getD x.toNat []).getD u.toNat 0
def btw (M : List (List Int)) (x y : Int) (ns : List Int) : List Int := ns.filter fun u => mat M x u + mat M u y == mat M x y
def dia (M : List (List Int)) (x y : Int) (ns : List Int) : Bool := (btw M x y ns).any fun a => (btw M x y ns).any fun b => mat M a b == mat M x y
theorem any_two {B : List Int} {f : Int → Int → Int} {z u b : Int} {i j : Nat} (hu : B[i]? = some u) (hb : B[j]? = some b) (hq : f u b = z) : (B.any fun a => B.any fun b => f a b == z) = true := by
  refine List.any_eq_true.mpr ⟨u, List.mem_of_getElem? hu, ?_⟩
  refine List.any_eq_true.mpr ⟨b, List.mem_of_getElem? hb, ?_⟩
  exact beq_iff_eq.mpr hq
theorem dia_specP {w ls mean mg mb H0} (C : Core w ls mean mg mb H0) (R l : Addr) (M : List (List Int)) (x y : Int) (tx ty : Nat) (vs : List Value) (ns : List Int) (hi : IntsAre vs ns) (hlen : ns.length ≤ 8) (hns : ∀ k ∈ ns, 0 ≤ k ∧ k < 8) (hx : 0 ≤ x ∧ x < 8) (hy : 0 ≤ y ∧ y < 8) :
    SpecP w H0 311 98 [.ref R, .int x tx, .int y ty, .ref l] (fun h => h.IsList l vs.toArray ∧ RM h R M) (fun _ r _ => r = .bool (dia M x y ns)) := by
  intro A s Q E st hh hd hu hl hret
  refine lift hh hd hu ?_
  have kn : ∀ p ∈ ([] : List (Addr × Obj)), H0.get? p.1 = none := List.forall_mem_nil _
  have kt : ∀ p ∈ ([] : List (Addr × Obj)), s.heap.get? p.1 = some p.2 := List.forall_mem_nil _
  walk_at "enterC"
  rename Gd _ _ _ _ => G
  have hlg := G.list kt hl.1 (List.forall_mem_nil _)
  have hrm := hl.2.keep fun b o e => G.sup b o (by simp) e
  k_with_none
  k_with "exec Assign cons ListComp" => (k_dflt (refine LCt.Assign_ListComp_T (F₀ := by k_asm) (by rfl) (by with_unfolding_all rfl) (by with_unfolding_all rfl) (by decide) (by rfl) (by decide) (by rfl) (by rfl) (by rfl) ?_))
  k_with "CompSrcT" => (refine Hold.mk ?_)
  k_steps
  show LCt.CompSrcT _ _ _ _ _ _ _ _ _ _ _ _ _ _ _
  rename Fr _ _ _ _ => F0
  rename News _ _ _ _ => N0
  refine LCt.CompSrcT.base rfl F0 N0 hlg (by rw [List.size_toArray, hi.length, sizeLine_eq]; omega) ?_
  intro g0
  have hsz : vs.toArray.size = ns.length := by simpa using hi.length
  rw [hsz]
  refine rest_fixedT (fun i ys => IntsAre ys ((ns.take i).filter fun u => mat M x u + mat M u y == mat M x y)) ns.length (.inl hlg) ?_ ?_ ns.length 0 [] (by omega) .nil
  · intro i ys v I oI C1 oC D m₂ h tk E' hi8 hj hv hC hx8 F N off ne
    obtain ⟨u, t, rfl, hn⟩ := ints_at hi hv
    have hb := hns u (List.mem_of_getElem? hn)
    clear F0 N0
    k_with_none
    k_with "subscriptTail" => first | (refine' rm_item (by k_asm) hrm ?a ?b ?_; (case a => omega); (case b => omega); intro r1 vs1 hl1 hi1 hn1) | (refine' row_item (by k_asm) (by assumption) (by assumption) (by assumption) ?a ?b ?_; (case a => omega); (case b => omega); intro t1)
    k_steps
    all_goals first | (refine filt_yes hj hn (beq_iff_eq.mpr ?_); unfold mat; first | assumption | omega) | (refine filt_no hj hn (beq_eq_false_iff_ne.mpr ?_); unfold mat; first | assumption | omega)
  · intro bvs hb0
    rw [List.take_length] at hb0
    have hbi : IntsAre bvs (btw M x y ns) := hb0
    have hbs : ∀ k ∈ btw M x y ns, 0 ≤ k ∧ k < 8 := fun k hk => hns k (List.mem_filter.mp hk).1
    have hbl : (btw M x y ns).length ≤ 8 := Nat.le_trans (List.length_filter_le _ _) hlen
    have hdia : dia M x y ns = (btw M x y ns).any fun a => (btw M x y ns).any fun b => mat M a b == mat M x y := rfl
    generalize btw M x y ns = B at hbi hbs hbl hdia
    clear F0 N0 hb0
    intro D h tk F0 N0 off
    have hbz := hbi.length
    k_with_none
    k_with "exec For" => (k_dflt (refine forV (by k_asm) (by rfl) (by rfl) ?_))
    k_with "pyIter ref" => refine Hold.mk ?_
    k_with "call ref" => refine Hold.mk ?_
    k_with "subscriptTail" => first | (refine' rm_item (by k_asm) hrm ?a ?b ?_; (case a => omega); (case b => omega); intro r1 vs1 hl1 hi1 hn1) | (refine' row_item (by k_asm) (by assumption) (by assumption) (by assumption) ?a ?b ?_; (case a => omega); (case b => omega); intro t1)
    k_steps
    show wpAny _ _ _ _ _ _
    rename Fr _ _ _ _ => F0
    rename News _ _ _ _ => N0
    refine forL (σ := Unit) (vs := bvs) (N0.isList (.head _)) (fun _ => [(_, _), (_, _), (_, _), (_, _)]) (fun c => [(PySem.Str.ofString "between", .ref D)])
      (fun i _ => ∀ a ∈ B.take i, (B.any fun b => mat M a b == mat M x y) = false) [] () rfl (N0 _ (.head _)).2.1 (List.forall_mem_nil _) (fun _ p hp => Heap.lt_size (N0 p hp).1) F0 N0 (by walk_at "same") (by intro a ha; cases ha) ?_ ?_
    · rintro i v ⟨⟩ m own h tk hv I hoff F N
      obtain ⟨u, tu, rfl, hu2⟩ := ints_at hbi (by simpa using hv)
      have hub := hbs u (List.mem_of_getElem? hu2)
      clear F0 N0
      k_steps
      show wpAny _ _ _ _ _ _
      rename Fr _ _ _ _ => F0
      rename News _ _ _ _ => N0
      refine forL (σ := Unit) (vs := bvs) (N0.isList (.head _)) (fun _ => (_, _) :: (_, _) :: (_, _) :: (_, _) :: own) (fun c => [(PySem.Str.ofString "u", .int u tu), (PySem.Str.ofString "between", .ref D)])
        (fun i _ => ∀ b ∈ B.take i, (mat M u b == mat M x y) = false) [] () rfl (N0 _ (.head _)).2.1 (List.forall_mem_nil _) (fun _ p hp => Heap.lt_size (N0 p hp).1) F0 N0 (by walk_at "same") (by intro a ha; cases ha) ?_ ?_
      · rintro i2 v ⟨⟩ m own2 h tk hv I2 hoff2 F N
        obtain ⟨b, tb, rfl, hb2⟩ := ints_at hbi (by simpa using hv)
        have hbb := hbs b (List.mem_of_getElem? hb2)
        clear F0 N0
        k_steps
        · rename Fr _ _ _ _ => F6
          have hq : mat M u b = mat M x y := by unfold mat; first | assumption | omega
          try dsimp only
          exact hret _ _ _ (fun b o e => F6.keep _ _ (G.sup _ _ (by simp) e)) (by rw [hdia]; exact congrArg Value.bool (any_two (f := mat M) hu2 hb2 hq).symm)
        · rename Fr _ _ _ _ => F0
          rename News _ _ _ _ => N0
          have hq : ¬ mat M u b = mat M x y := by unfold mat; first | assumption | omega
          refine ⟨(), _, _, _, _, rfl, F0, N0, fun p hp => ?_, fun p hp => .tail _ (.tail _ (.tail _ (.tail _ (List.mem_append_right _ hp)))), by walk_at "same", fun a ha => ?_⟩
          · exact List.mem_append_left own2 hp
          · rw [List.take_add_one, hb2] at ha
            rcases List.mem_append.mp ha with ha | ha
            · exact I2 a ha
            · rw [Option.toList_some, List.mem_singleton] at ha
              rw [ha]
              exact beq_eq_false_iff_ne.mpr hq
      · rintro ⟨⟩ m h tk I2 F N
        clear F0 N0
        rw [hbz, List.take_length] at I2
        k_steps
        rename Fr _ _ _ _ => F0
        rename News _ _ _ _ => N0
        refine ⟨(), _, _, _, _, rfl, F0, N0, fun p hp => ?_, fun p hp => .tail _ (.tail _ (.tail _ (.tail _ hp))), by walk_at "same", fun a ha => ?_⟩
        · exact List.mem_append_left own hp
        · rw [List.take_add_one, hu2] at ha
          rcases List.mem_append.mp ha with ha | ha
          · exact I a ha
          · rw [Option.toList_some, List.mem_singleton] at ha
            rw [ha]
            exact List.any_eq_false.mpr fun b hb => by rw [I2 b hb]; decide
    · rintro ⟨⟩ m h tk I F N
      clear F0 N0
      rw [hbz, List.take_length] at I
      k_steps
      rename Fr _ _ _ _ => F6
      try dsimp only
      exact hret _ _ _ (fun b o e => F6.keep _ _ (G.sup _ _ (by simp) e)) (by rw [hdia]; exact congrArg Value.bool (List.any_eq_false.mpr fun a ha => by rw [I a ha]; decide).symm)
end Mine
namespace Mine
open PySem PySem.W PyProof.Rows PySem.Spec PySem.Calls
open Sem (wp)
section
variable {M : Model} {A : Around} {E : Value → Shared → Prop} {s : Shared}
theorem newEnv_cell {scope : Scope} {globals : Addr} {cl : List (Str × Addr)} {x : Str} {qual : Str} {func : Option Addr} {code : Value} {outer : Env} {Q : Env → Shared → Prop}
    (hcs : ∀ n acc, cellsFrom n scope.names acc = (x, n) :: acc) (hps : ∀ h, pushCells h scope.names = h.push { cls := .type "cell", data := .cell none })
    (hQ : Q (newEnv scope s.heap.objs.size globals ((x, s.heap.objs.size + 1) :: cl) qual func code (some outer) builtinsNs) { s with heap := (s.heap.push { cls := .type "dict", data := .dict #[] }).push { cls := .type "cell", data := .cell none } }) :
    wpAny M A (newFunctionEnv scope globals cl [] qual func code (some outer)) Q E s := by
  simp only [newFunctionEnv, Option.isSome_some, if_true]
  refine wpAny_bind (wpAny_alloc ?_)
  refine wpAny_bind (wpAny_layCells _ (fun name kind cells => by cases hkc : kind == NameKind.cell <;> simp [hkc]) _ _ _ _ ?_)
  rw [hcs, hps]
  rw [show ({ s with heap := s.heap.push { cls := .type "dict", data := .dict #[] } } : Shared).heap.objs.size = s.heap.objs.size + 1 from Heap.size_push ..]
  exact wpAny_bind (wpAny_pure (wpAny_pure hQ))
end
open PyProof.Rows.LCg
def Off4 (I C D c : Addr) (l : List (Addr × Obj)) : Prop := ∀ p ∈ l, p.1 ≠ I ∧ p.1 ≠ C ∧ p.1 ≠ D ∧ p.1 ≠ c
def CellEnd (h₀ : Heap) (L : Addr) (m : Str → Option Value) (s₁ : Shared) (I : Addr) (oI : Obj) (C : Addr) (oC : Obj) (D : Addr) (oD : Obj) (c : Addr) (oX : Obj) (J : Value → List (Addr × Obj) → Prop) (y : Value) (s₂ : Shared) : Prop :=
  ∃ h' tk nx, s₂ = { s₁ with heap := h', toks := tk } ∧ Fr h₀ L h' m ∧ News h₀ L h' ((I, oI) :: (C, oC) :: (D, oD) :: (c, oX) :: nx) ∧ Off4 I C D c nx ∧ J y nx
section
variable {prog : Program} {w : World} {A : Around} {E : Value → Shared → Prop} {h₀ : Heap} {m : Str → Option Value} {env : Env} {L : Addr}
/-- a comprehension over a list of the base whose target is a cell: from the block's new list on -/
theorem block_cell {s₂ : Shared} {elt iter : Expr} {x : Str} {px : Pos} {scope : Scope} {cl : List (Str × Addr)} {pos : Pos} {I ax : Addr} {its : Array Value} {news : List (Addr × Obj)} {RR : Value → Addr → Result → Shared → Prop}
    (J : Nat → List Value → List (Addr × Obj) → Prop) (hh : A.handled = none) (hsz : its.size ≤ sizeLine)
    (hcs : ∀ n acc, cellsFrom n scope.names acc = (x, n) :: acc) (hps : ∀ h, pushCells h scope.names = h.push { cls := .type "cell", data := .cell none }) (hkind : scope.kind = .function)
    (hxk : ∀ C cl, (compEnvC scope cl C env).kindOf x = some .cell)
    (hit : s₂.heap.IsListIter I ax 0) (hl : h₀.IsList ax its) (F : Fr h₀ L s₂.heap m) (N : News h₀ L s₂.heap news) (hIL : L ≠ I) (hI₀ : h₀.get? I = none) (off : ∀ p ∈ news, p.1 ≠ I) (h0 : J 0 [] news)
    (turn : ∀ i ys nx v I oI C oC D c oX h tk (E' : Value → Shared → Prop), its[i]? = some v → J i ys nx → oX.data = .cell (some v) → Fr h₀ L h m → News h₀ L h ((I, oI) :: (C, oC) :: (D, lst ys) :: (c, oX) :: nx) → Off4 I C D c nx →
      wpAny (model prog w) A (eval elt (compEnvC scope ((x, c) :: cl) C env)) (CellEnd h₀ L m { s₂ with heap := h, toks := tk } I oI C oC D (lst ys) c oX fun y nx' => J (i + 1) (ys ++ [y]) nx') E' { s₂ with heap := h, toks := tk })
    (hRR : ∀ D C h tk m' ys nx, Fr h₀ L h m → News h₀ L h ((D, lst ys) :: nx) → (∀ p ∈ nx, p.1 ≠ D) → h.Ns C m' → h₀.get? C = none → C ≠ L → C ≠ D → (∀ p ∈ nx, p.1 ≠ C) → J its.size ys nx → RR (.ref D) C (.ok .next) { s₂ with heap := h, toks := tk }) :
    wpAny (model prog w) A (newList []) (fun acc s₃ => wpAny (model prog w) A (newFunctionEnv scope env.globals cl [] env.qual none .none (some env)) (fun cenv s₄ =>
      codeAny (model prog w) A (.compStart (.ListComp elt [⟨.Name x px, iter, [], 0⟩] scope pos) 0 (.ref I) acc { cenv with scope := relabel scope env }) (RR acc cenv.locals) s₄) E s₃) E s₂ := by
  refine wpAny_newObj_type (newEnv_cell hcs hps ?_)
  dsimp only
  generalize hH2 : s₂.heap.push { cls := .type "list", dict := none, data := .seq ([] : List Value).toArray } = H2
  have hC : H2.objs.size = s₂.heap.objs.size + 1 := by rw [← hH2, Heap.size_push]
  generalize hH3 : H2.push { cls := .type "dict", data := .dict #[] } = H3
  have hc : H3.objs.size = s₂.heap.objs.size + 2 := by rw [← hH3, Heap.size_push, hC]
  generalize hH4 : H3.push { cls := .type "cell", data := .cell none } = H4
  have hcC : H2.objs.size + 1 = H3.objs.size := by rw [hC, hc]
  rw [hcC]
  have nm : ∀ {a b : Nat}, a < b → a ≠ b := fun h => Nat.ne_of_lt h
  have lt01 : s₂.heap.objs.size < H2.objs.size := by rw [hC]; exact Nat.lt_succ_self _
  have lt12 : H2.objs.size < H3.objs.size := by rw [hC, hc]; exact Nat.lt_succ_self _
  have lt02 : s₂.heap.objs.size < H3.objs.size := Nat.lt_trans lt01 lt12
  have up : ∀ b o, s₂.heap.get? b = some o → H4.get? b = some o := fun b o e => hH4 ▸ Heap.get?_push_of_some _ (hH3 ▸ Heap.get?_push_of_some _ (hH2 ▸ Heap.get?_push_of_some _ e))
  have fresh₀ : ∀ a, s₂.heap.objs.size ≤ a → h₀.get? a = none := fun a ha => by
    cases e : h₀.get? a with
    | none => rfl
    | some o' => exact absurd (Heap.lt_size (F.keep a o' e)) (Nat.not_lt.mpr ha)
  have hD₀ := fresh₀ _ (Nat.le_refl _)
  have hC₀ := fresh₀ _ (Nat.le_of_lt lt01)
  have hc₀ := fresh₀ _ (Nat.le_of_lt lt02)
  have hLlt : L < s₂.heap.objs.size := F.ns.lt
  have hIlt : I < s₂.heap.objs.size := by obtain ⟨o, e, _⟩ := hit; exact Heap.lt_size e
  have aD : H4.get? s₂.heap.objs.size = some (lst []) := hH4 ▸ Heap.get?_push_of_some _ (hH3 ▸ Heap.get?_push_of_some _ (hH2 ▸ Heap.get?_push_size _ rfl))
  have aC : H4.Ns H2.objs.size (fun _ => none) := by
    have q : H3.Ns H2.objs.size (fun _ => none) := hH3 ▸ Heap.Ns.new H2 (.type "dict")
    exact q.keeps fun b o e => hH4 ▸ Heap.get?_push_of_some _ e
  have ac : H4.get? H3.objs.size = some { cls := .type "cell", data := .cell none } := hH4 ▸ Heap.get?_push_size _ rfl
  have hlA : ax ≠ I := by
    intro e
    obtain ⟨o, e2, _⟩ := hl
    rw [e, hI₀] at e2; cases e2
  have W : Walks prog w A I [I, ax] [I] its.size (fun i v => its[i]? = some v) (fun i h => h.IsListIter I ax i ∧ h.IsList ax its) := Walks.list hh I ax hlA its
  have lists : ∀ h : Heap, (∀ b o, h₀.get? b = some o → h.get? b = some o) → h.IsList ax its := fun h k => hl.at fun o e => k _ _ e
  have loop : ∀ s₃ : Shared, s₃ = { s₂ with heap := H4 } →
      codeAny (model prog w) A (.compLoop (.ListComp elt [⟨.Name x px, iter, [], 0⟩] scope pos) 0 (.ref I) (.ref s₂.heap.objs.size) (compEnvC scope ((x, H3.objs.size) :: cl) H2.objs.size env))
        (RR (.ref s₂.heap.objs.size) H2.objs.size) s₃ := by
    rintro s₃ rfl
    refine codeAny_compLoop_tests
      (fun k s' => ∃ h' tk i ys m' nx oX v₀, s' = { s₂ with heap := h', toks := tk } ∧ i ≤ its.size ∧ k = its.size + 1 - i ∧ ys.length = i ∧ h'.IsListIter I ax i ∧ Fr h₀ L h' m ∧ h'.Ns H2.objs.size m' ∧ oX.data = .cell v₀ ∧
        News h₀ L h' ((s₂.heap.objs.size, lst ys) :: (H3.objs.size, oX) :: nx) ∧ Off4 I H2.objs.size s₂.heap.objs.size H3.objs.size nx ∧ J i ys nx) ?_ (its.size + 1)
      ⟨H4, _, 0, [], _, news, { cls := .type "cell", data := .cell none }, none, rfl, Nat.zero_le _, rfl, rfl, hit.at fun o e => up _ _ e, F.keeps up, aC, rfl, fun p hp => ?_, fun p hp => ⟨off p hp, ?_⟩, h0⟩
    · rintro k s' ⟨h', tk, i, ys, m', nx, oX, v₀, rfl, hi, rfl, hyl, hit', F', hn', hX, N', off', hJ⟩
      by_cases hlt : i < its.size
      · refine W.item i _ _ _ hlt ⟨hit', lists _ F'.keep⟩ fun v h₂ tk₂ hPv hst₂ hk₂ => ?_
        have zc : h₂.get? H3.objs.size = some oX := hk₂ _ _ (by simpa using Ne.symm (nm (Nat.lt_trans hIlt lt02))) (N' _ (.tail _ (.head _))).1
        refine wpAny_assign_Name (wpAny_storeName_cell (c := H3.objs.size) (v₀ := v₀) hkind (hxk _ _) (by simp [compEnvC]) ⟨oX, zc, hX⟩ fun h₃ hcell hs₃ => ?_)
        refine wpAny_tests_nil ?_
        simp only [if_true]
        obtain ⟨oX', eX, hX'⟩ := hcell
        obtain ⟨oI, eI2, hI2⟩ := id hst₂.1
        have eI : h₃.get? I = some oI := hs₃.extBut _ _ (nm (Nat.lt_trans hIlt lt02)) eI2
        have hn₃ : h₃.Ns H2.objs.size m' := (hn'.at' fun o e => hk₂ _ o (by simpa using Ne.symm (nm (Nat.lt_trans hIlt lt01))) e).sameBut hs₃ (nm lt12)
        obtain ⟨oC, eC, hoC⟩ := ns_obj hn₃
        have F₃ : Fr h₀ L h₃ m := (LCg.fr_but F' hk₂ hIL hI₀).change hs₃ (Ne.symm (nm (Nat.lt_trans hLlt lt02))) hc₀
        have N₃ : News h₀ L h₃ ((I, oI) :: (H2.objs.size, oC) :: (s₂.heap.objs.size, lst ys) :: (H3.objs.size, oX') :: nx) := by
          intro p hp
          rcases List.mem_cons.mp hp with rfl | hp
          · exact ⟨eI, Ne.symm hIL, hI₀⟩
          rcases List.mem_cons.mp hp with rfl | hp
          · exact ⟨eC, Ne.symm (nm (Nat.lt_trans hLlt lt01)), hC₀⟩
          rcases List.mem_cons.mp hp with rfl | hp
          · have z := N' _ (.head _)
            exact ⟨hs₃.extBut _ _ (nm lt02) (hk₂ _ _ (by simpa using Ne.symm (nm hIlt)) z.1), z.2⟩
          rcases List.mem_cons.mp hp with rfl | hp
          · exact ⟨eX, Ne.symm (nm (Nat.lt_trans hLlt lt02)), hc₀⟩
          · have z := N' p (.tail _ (.tail _ hp))
            have o := off' p hp
            exact ⟨hs₃.extBut _ _ o.2.2.2 (hk₂ _ _ (by simpa using o.1) z.1), z.2⟩
        refine wpAny_mono (turn i ys nx v I oI _ oC _ _ oX' h₃ _ _ hPv hJ hX' F₃ N₃ off') (fun y s₄ h₄ => ?_) fun _ _ e => e
        obtain ⟨h₄, tk₄, nx', rfl, F₄, N₄, off₄, hJ'⟩ := h₄
        have zI := (N₄ _ (.head _)).1
        have zC := (N₄ _ (.tail _ (.head _))).1
        have zD := (N₄ _ (.tail _ (.tail _ (.head _)))).1
        have zX := N₄ _ (.tail _ (.tail _ (.tail _ (.head _))))
        have N₄' : News h₀ L h₄ nx' := fun p hp => N₄ p (.tail _ (.tail _ (.tail _ (.tail _ hp))))
        refine append_at (hsz := by show ys.toArray.size ≤ sizeLine; rw [List.size_toArray, hyl]; exact Nat.le_trans hi hsz) zD fun h₅ hs₅ hD₅ => ?_
        refine ⟨its.size + 1 - (i + 1), by omega, h₅, tk₄, i + 1, ys ++ [y], _, nx', oX', some v, rfl, hlt, rfl, by rw [List.length_append, List.length_singleton, hyl], ⟨oI, hs₅.extBut _ _ (nm hIlt) zI, hI2⟩, F₄.change hs₅ (Ne.symm (nm hLlt)) hD₀, (hoC.ns zC).sameBut hs₅ (Ne.symm (nm lt01)), hX', fun p hp => ?_, off₄, hJ'⟩
        rcases List.mem_cons.mp hp with rfl | hp
        · exact ⟨hD₅.trans (congrArg some (lst_snoc ys y)), Ne.symm (nm hLlt), hD₀⟩
        rcases List.mem_cons.mp hp with rfl | hp
        · exact ⟨hs₅.extBut _ _ (Ne.symm (nm lt02)) zX.1, zX.2⟩
        · exact ⟨hs₅.extBut _ _ (off₄ p hp).2.2.1 (N₄' p hp).1, (N₄' p hp).2⟩
      · obtain rfl : i = its.size := Nat.le_antisymm hi (Nat.not_lt.mp hlt)
        refine W.done _ _ _ ⟨hit', lists _ F'.keep⟩ fun h₂ tk₂ hk₂ => ?_
        refine hRR _ _ h₂ tk₂ m' ys nx (LCg.fr_but F' hk₂ hIL hI₀) (fun p hp => ?_) (fun p hp => (off' p hp).2.2.1) (hn'.at' fun o e => hk₂ _ o (by simpa using Ne.symm (nm (Nat.lt_trans hIlt lt01))) e) hC₀ (Ne.symm (nm (Nat.lt_trans hLlt lt01))) (Ne.symm (nm lt01)) (fun p hp => (off' p hp).2.1) hJ
        rcases List.mem_cons.mp hp with rfl | hp
        · have z := N' _ (.head _)
          exact ⟨hk₂ _ _ (by simpa using Ne.symm (nm hIlt)) z.1, z.2⟩
        · have z := N' p (.tail _ (.tail _ hp))
          exact ⟨hk₂ _ _ (by simpa using (off' p hp).1) z.1, z.2⟩
    · rcases List.mem_cons.mp hp with rfl | hp
      · exact ⟨aD, Ne.symm (nm hLlt), hD₀⟩
      rcases List.mem_cons.mp hp with rfl | hp
      · exact ⟨ac, Ne.symm (nm (Nat.lt_trans hLlt lt02)), hc₀⟩
      · exact ⟨up _ _ (N p hp).1, (N p hp).2⟩
    · have l := Heap.lt_size (N p hp).1
      exact ⟨nm (Nat.lt_trans l lt01), nm l, nm (Nat.lt_trans l lt02)⟩
  exact codeAny_compStart_list (loop _ rfl) (W.self 0 _ _ _ ⟨hit.at fun o e => up _ _ e, lists _ (F.keeps up).keep⟩ (loop _ rfl))
/-- `y = [elt for x in ax]` where x is a cell of the block -/
theorem Assign_comp_cell {s : Shared} {elt iter : Expr} {x y : Str} {px py : Pos} {scope : Scope} {cl : List (Str × Addr)} {pos spos : Pos} {Q : Flow → Shared → Prop}
    (J : Nat → List Value → List (Addr × Obj) → Prop) {ax : Addr} {its : Array Value} {news : List (Addr × Obj)} (_F₀ : Fr h₀ env.locals s.heap m) (_N₀ : News h₀ env.locals s.heap news)
    (hsw : swapsWith (.ListComp elt [⟨.Name x px, iter, [], 0⟩] scope pos) (some (.Name y py)) spos.line env = pure true)
    (hclos : closureFor scope env = pure cl) (hcs : ∀ n acc, cellsFrom n scope.names acc = (x, n) :: acc) (hps : ∀ h, pushCells h scope.names = h.push { cls := .type "cell", data := .cell none }) (hkind : scope.kind = .function)
    (hxk : ∀ C cl, (compEnvC scope cl C env).kindOf x = some .cell)
    (hnames : ∀ z ∈ scope.names, z.2 = .local → scope.names.lookup z.1 = some .local)
    (hy : env.kindOf y = some .local) (hp : (env.scope.kind == .class || (env.scope.kind == .module && env.locals != env.globals)) = false)
    (hh : A.handled = none) (hl : h₀.IsList ax its) (hsz : its.size ≤ sizeLine)
    (h : wpAny (model prog w) A (eval iter env) (fun xv s₁ => xv = .ref ax ∧ Fr h₀ env.locals s₁.heap m ∧ News h₀ env.locals s₁.heap news ∧ J 0 [] news ∧
      (∀ i ys nx v I oI C oC D c oX h tk (E' : Value → Shared → Prop), its[i]? = some v → J i ys nx → oX.data = .cell (some v) → Fr h₀ env.locals h m → News h₀ env.locals h ((I, oI) :: (C, oC) :: (D, lst ys) :: (c, oX) :: nx) → Off4 I C D c nx →
        wpAny (model prog w) A (eval elt (compEnvC scope ((x, c) :: cl) C env)) (CellEnd h₀ env.locals m { s₁ with heap := h, toks := tk } I oI C oC D (lst ys) c oX fun y nx' => J (i + 1) (ys ++ [y]) nx') E' { s₁ with heap := h, toks := tk }) ∧
      (∀ D h tk ys nx, J its.size ys nx → Fr h₀ env.locals h (fun z => if z = y then some (.ref D) else m z) → News h₀ env.locals h ((D, lst ys) :: nx) → (∀ p ∈ nx, p.1 ≠ D) → Q .next { s₁ with heap := h, toks := tk })) E s)
    (hs : ∀ x, foldedSetIterable iter env x = pure x := by intro _; rfl) :
    wpAny (model prog w) A (exec (.Assign [.Name y py] (.ListComp elt [⟨.Name x px, iter, [], 0⟩] scope pos) spos) env) Q E s := by
  rw [exec_Assign_Name_used _ _ _ _ hsw]
  refine wpAny_bind (wpAny_standAt (wpAny_bind ?_))
  show wpAny _ A (do let _ ← comprehension (.ListComp elt [⟨.Name x px, iter, [], 0⟩] scope pos) scope env _ (newList []) false (eval iter env) (some (assign (.Name y py) env))) _ _ s
  refine wpAny_bind (wpAny_mono (wpAny_comprehension_free (use := some (assign (.Name y py) env)) (Q := fun _ s' => Q .next s') rfl hs hclos hkind hnames
    (wpAny_mono h (fun xv s₁ h₁ => ?_) fun _ _ e => e)) (fun _ s' hq => wpAny_pure (wpAny_pure hq)) fun _ _ e => e)
  obtain ⟨rfl, F, N, h0, turn, fin⟩ := h₁
  have hl₁ : s₁.heap.IsList ax its := hl.at fun o e => F.keep _ _ e
  refine wpAny_pyIter_list hl₁ ?_
  have up : ∀ b o, s₁.heap.get? b = some o → (s₁.heap.push { cls := .type "list_iterator", data := .fields #[.ref ax, .int 0 0] }).get? b = some o := fun b o e => Heap.get?_push_of_some _ e
  refine block_cell (s₂ := { s₁ with heap := s₁.heap.push _ }) J hh hsz hcs hps hkind hxk ⟨_, Heap.get?_push_size _ rfl, rfl, rfl⟩ hl (F.keeps up) (N.grown up) (Nat.ne_of_lt F.ns.lt) (next_is_new F) (fun p hp => Nat.ne_of_lt (Heap.lt_size (N p hp).1)) h0 turn ?_
  intro D C h tk m' ys nx F' N' off hn hC₀ hCL hCD offC hJ
  show wpAny _ A (assign (.Name y py) env (.ref D)) _ _ _
  refine wpAny_assign_Name (wpAny_storeName_local hy F'.ns (fun h₂ hn₂ hs₂ => ?_) hp)
  have hL₀ : h₀.get? env.locals = none := Heap.get?_none_of_le F'.above
  have F₂ : Fr h₀ env.locals h₂ (fun z => if z = y then some (.ref D) else m z) := ⟨hn₂, fun b o e => hs₂.extBut b o (fun q => by rw [q, hL₀] at e; cases e) (F'.keep b o e), F'.above⟩
  refine ⟨m', hn.sameBut hs₂ hCL, fun h'' hs'' => fin D h'' _ ys nx hJ (F₂.change hs'' hCL hC₀) (fun p hp => ?_) off⟩
  have z : h₂.get? p.1 = some p.2 := hs₂.extBut _ _ (N' p hp).2.1 (N' p hp).1
  refine ⟨hs''.extBut _ _ ?_ z, (N' p hp).2⟩
  rcases List.mem_cons.mp hp with rfl | hp
  · exact Ne.symm hCD
  · exact offC p hp
end
end Mine
namespace Mine
open PySem PySem.W PyProof.Rows PySem.Spec PySem.Calls
theorem clrD16 : True := by
  w_top off
  k_with_none
  trivial
local macro_rules | `(tactic| walk_at $s:str) => `(tactic| k_extra $s)
local macro_rules | `(tactic| walk_at "same") => `(tactic| repeat' (first | exact List.forall_mem_nil _ | refine List.forall_mem_cons.mpr ⟨by with_unfolding_all rfl, ?_⟩))
local macro_rules | `(tactic| walk_at "enterP") => `(tactic| k_dflt (refine' enterP ?kC0 ?kS0 ?k6 ?k7 ?k8 ?k9 ?kB ?_ ?c2 ?c3 ?c4 ?c5; (case kC0 => assumption); (case kS0 => assumption); (case k6 => k_is); (case k7 => k_is); (case k8 => decide); (case k9 => first | exact BindsTo.of_eq rfl | (refine' kp_binds ?kx ?ke; (case kx => exact Frag.In.keeps (Core.X (by assumption)) (by assumption)); (case ke => exact fun _ => rfl))); (case c5 => decide); (case kB => exact locs rfl); (case c2 => exact rfl); (case c3 => exact rfl); (case c4 => exact rfl); k_whole; intro L' h' X' T' C1' C2' F' N'; (try dsimp only); (try k_fold)))
local macro_rules | `(tactic| walk_at "enterX0") => `(tactic| k_dflt (refine' enterX0 ?kC0 ?kS0 ?ko ?kd ?k7 ?k8 ?k9 ?kB ?_ ?c2 ?c3 ?c4 ?c5; (case kC0 => assumption); (case kS0 => assumption); (case ko => assumption); (case kd => exact rfl); (case k7 => assumption); (case k8 => first | decide | (show _ < 1000; omega)); (case k9 => exact BindsTo.of_eq rfl); (case c5 => decide); (case kB => exact locs rfl); (case c2 => exact rfl); (case c3 => exact rfl); (case c4 => exact rfl); k_whole; intro L' h' X' T' C1' C2' F' N'; (try dsimp only); (try k_fold)))
local macro_rules | `(tactic| walk_at "enterC") => `(tactic| k_dflt (refine' enterC ?kC0 ?kS0 ?kn ?kt ?k6 ?k7 ?k8 ?k9 ?kB ?kD ?_ ?c2 ?c3 ?c4; (case kC0 => assumption); (case kS0 => assumption); (case kn => assumption); (case kt => assumption); (case k6 => k_is); (case k7 => k_is); (case k8 => decide); (case k9 => first | exact BindsTo.of_eq rfl | (refine' kp_binds ?kx ?ke; (case kx => exact Frag.In.keeps (Core.X (by assumption)) (by assumption)); (case ke => exact fun _ => rfl))); (case kB => exact rfl); (case kD => decide +kernel); (case c2 => exact rfl); (case c3 => exact rfl); (case c4 => exact rfl); k_whole; intro g' L' h' tk' cells' G' X' T' C1' C2' F' N' Y' l1; (try k_lt l1); k_cells Y'; (try simp only [List.cons_append, List.nil_append] at N'); (try dsimp only); (try k_fold)))
local macro_rules | `(tactic| walk_at "enterPt") => `(tactic| k_dflt (refine' enterPt ?kC0 ?kS0 ?kn ?kt ?k6 ?k7 ?k8 ?k9 ?kB ?_ ?c2 ?c3 ?c4 ?c5; (case kC0 => assumption); (case kS0 => assumption); (case kn => assumption); (case kt => assumption); (case k6 => k_is); (case k7 => k_is); (case k8 => decide); (case k9 => first | exact BindsTo.of_eq rfl | (refine' kp_binds ?kx ?ke; (case kx => exact Frag.In.keeps (Core.X (by assumption)) (by assumption)); (case ke => exact fun _ => rfl))); (case c5 => decide); (case kB => exact locs rfl); (case c2 => exact rfl); (case c3 => exact rfl); (case c4 => exact rfl); k_whole; intro g' L' h' G' X' T' C1' C2' F' N' l1; (try k_lt l1); (try dsimp only); (try k_fold)))

theorem strs_at {vs : List Value} {ts : List Str} (h : StrsAre vs ts) : ∀ {i : Nat} {v : Value}, vs.toArray[i]? = some v → ∃ x t, v = .str x t ∧ ts[i]? = some x := by
  induction h with
  | nil => intro i v e; simp at e
  | cons x t h ih =>
    intro i v e
    cases i with
    | zero => exact ⟨x, t, by simpa using e.symm, rfl⟩
    | succ i => exact ih (i := i) (by simpa using e)
def rowOf (ws : List Str) (a : Str) : List Int := ws.map fun b => cost3 a b
def tabOf (ws : List Str) : List (List Int) := ws.map fun a => rowOf ws a
/-- the rows made so far -/
theorem led_snoc {p q : Addr × Obj} {A B R : List (Addr × Obj)} (h : p ∈ A ++ (B ++ (R ++ [q]))) : p ∈ q :: (A ++ (B ++ R)) := by
  simp only [List.mem_append, List.mem_cons, List.not_mem_nil, or_false] at h ⊢
  rcases h with h | h | h | h
  · exact .inr (.inl h)
  · exact .inr (.inr (.inl h))
  · exact .inr (.inr (.inr h))
  · exact .inl h
def Rows (ws : List Str) (i : Nat) (rows : List (Addr × List Value)) : Prop := rows.length = i ∧ ∀ (j : Nat) (p : Addr × List Value), rows[j]? = some p → ∃ a, ws[j]? = some a ∧ IntsAre p.2 (rowOf ws a)
abbrev rowsLed (rows : List (Addr × List Value)) : List (Addr × Obj) := rows.map fun (p : Addr × List Value) => (p.1, LCg.lst p.2)
theorem ints_mapS {i : Nat} {xs : List Str} {x : Str} {ys : List Value} {t : Nat} {f : Str → Int} (h : IntsAre ys ((xs.take i).map f)) (e : xs[i]? = some x) : IntsAre (ys ++ [.int (f x) t]) ((xs.take (i + 1)).map f) := by
  rw [List.take_add_one, e, List.map_append]
  exact ints_snoc h
theorem Rows.snoc {ws : List Str} {i : Nat} {rows : List (Addr × List Value)} {D : Addr} {vs : List Value} {a : Str} (h : Rows ws i rows) (e : ws[i]? = some a) (hv : IntsAre vs (rowOf ws a)) : Rows ws (i + 1) (rows ++ [(D, vs)]) := by
  have hl : rows.length = i := h.1
  refine ⟨by rw [List.length_append, h.1]; rfl, fun j p hp => ?_⟩
  rcases Nat.lt_trichotomy j i with hj | rfl | hj
  · rw [List.getElem?_append_left (by rw [hl]; exact hj)] at hp
    exact h.2 j p hp
  · rw [List.getElem?_append_right (by rw [hl]; exact Nat.le_refl _), hl, Nat.sub_self] at hp
    cases hp
    exact ⟨a, e, hv⟩
  · rw [List.getElem?_eq_none (by rw [List.length_append, h.1]; exact hj)] at hp
    cases hp
def idx8 : List Int := [0, 1, 2, 3, 4, 5, 6, 7]
def sel (ns : List Int) (v : Int) : List Int := idx8.filter fun k => ns.getD k.toNat 0 == v
theorem idx_at : ∀ {i : Nat}, i < 8 → idx8[i]? = some (i : Int) := by decide
theorem idx_mem {k : Int} (h : k ∈ idx8) : 0 ≤ k ∧ k < 8 := by
  revert k; decide
theorem sel_mem {ns : List Int} {v k : Int} (h : k ∈ sel ns v) : 0 ≤ k ∧ k < 8 := idx_mem (List.mem_filter.mp h).1
theorem sel_len (ns : List Int) (v : Int) : (sel ns v).length ≤ 8 := List.length_filter_le _ _
def box (M : List (List Int)) (ns : List Int) : Bool := (sel ns 1).any fun x => (sel ns 1).any fun y => decide (x < y) && dia M x y (sel ns 0)
theorem tab_at {ws : List Str} {i : Nat} {a : Str} (h : ws[i]? = some a) : (tabOf ws).getD i [] = rowOf ws a := by
  rw [List.getD_eq_getElem?_getD, tabOf, List.getElem?_map, h]; rfl
/-- the rows on the ledger are the table -/
theorem rm_of {g h : Heap} {L D : Addr} {ws : List Str} {rows : List (Addr × List Value)} {led : List (Addr × Obj)} (N : News g L h led) (hw8 : ws.length = 8) (hR : Rows ws 8 rows)
    (hd : (D, LCg.lst (rows.map fun p => Value.ref p.1)) ∈ led) (hm : ∀ p ∈ rowsLed rows, p ∈ led) : RM h D (tabOf ws) := by
  refine ⟨rows.map (·.1), ?_, by rw [List.length_map]; exact hR.1, fun i r hr => ?_⟩
  · rw [List.map_map]
    exact N.isList hd
  · rw [List.getElem?_map] at hr
    obtain ⟨p, hp, rfl⟩ := Option.map_eq_some_iff.mp hr
    obtain ⟨a, ha, hi⟩ := hR.2 i p hp
    refine ⟨p.2, N.isList (hm _ (List.mem_map_of_mem (List.mem_of_getElem? hp))), ?_, ?_⟩
    · rw [tab_at ha]; exact hi
    · rw [tab_at ha, rowOf, List.length_map, hw8]
theorem box_specP {w ls mean mg mb H0} (C : Core w ls mean mg mb H0) (lw lm : Addr) (ss : List Value) (ws : List Str) (hw : StrsAre ss ws) (hw8 : ws.length = 8) (hw3 : ∀ a ∈ ws, a.length = 3) (vs : List Value) (ns : List Int) (hi : IntsAre vs ns) (hlen : ns.length = 8) :
    SpecP w H0 316 97 [.ref lw, .ref lm] (fun h => h.IsList lw ss.toArray ∧ h.IsList lm vs.toArray) (fun _ r _ => r = .bool (box (tabOf ws) ns)) := by
  intro A s Q E st hh hd hu hl hret
  refine lift hh hd hu ?_
  have kn : ∀ p ∈ ([] : List (Addr × Obj)), H0.get? p.1 = none := List.forall_mem_nil _
  have kt : ∀ p ∈ ([] : List (Addr × Obj)), s.heap.get? p.1 = some p.2 := List.forall_mem_nil _
  walk_at "enterC"
  rename Gd _ _ _ _ => G
  have hlg := G.list kt hl.1 (List.forall_mem_nil _)
  have hlm := G.list kt hl.2 (List.forall_mem_nil _)
  have hss : ss.length = 8 := hw.length.trans hw8
  k_with_none
  k_with "call ref" => refine Hold.mk ?_
  k_with "exec Assign cons ListComp" => refine Hold.mk ?_
  k_steps
  show wpAny _ _ _ _ _ _
  rename Fr _ _ _ _ => F0
  rename News _ _ _ _ => N0
  rename_i g L0 hA tkA X T C1 C2 lA oT oV dT dV
  refine Assign_comp_cell (fun i ys nx => ∃ rows, Rows ws i rows ∧ ys = rows.map (fun p => Value.ref p.1) ∧ nx = [(L0 + 1 + 1, oT), (L0 + 1, oV)] ++ rowsLed rows) F0 N0 (by with_unfolding_all rfl) (by rfl) (fun _ _ => rfl) (fun _ => rfl) (by rfl) (fun _ _ => rfl) (by decide) (by rfl) (by rfl) rfl hlg (by rw [List.size_toArray, hss, sizeLine_eq]; omega) ?_
  k_with "And" => refine Hold.mk ?_
  k_steps
  refine ⟨rfl, by assumption, by assumption, ⟨[], ⟨rfl, fun j p hp => by cases hp⟩, rfl, rfl⟩, ?_, ?_⟩
  · rintro i ys nx v I oI C1 oC D c oX h tk E' hv ⟨rows, hR, hys, rfl⟩ hX F N off
    obtain ⟨a, ta, rfl, ha⟩ := strs_at hw hv
    have ha3 := hw3 a (List.mem_of_getElem? ha)
    clear F0 N0
    k_with_none
    k_with "eval ListComp" => (refine Hold.mk ?_)
    k_with "CompSrc" => (refine Hold.mk ?_)
    k_with "call ref" => refine Hold.mk ?_
    k_steps
    show wpAny _ _ _ _ _ _
    refine LCg.ListComp_U F (by with_unfolding_all rfl) (by decide) (by rfl) (by decide) (by rfl) ?_
    k_steps
    show LCg.CompSrc _ _ _ _ _ _ _ _ _ _ _ _ _ _
    refine LCg.CompSrc.base rfl F N hlg (by rw [List.size_toArray, hss, sizeLine_eq]; omega) ?_
    intro g0
    have hsz : ss.toArray.size = 8 := by simpa using hss
    rw [hsz]
    refine rest_fixed (fun j ys => IntsAre ys ((ws.take j).map fun b => cost3 a b)) 8 (.inl hlg) ?_ ?_ 8 0 [] rfl .nil
    · intro j ys2 v I2 oI2 C2 oC2 D2 m₂ h2 tk2 E2 hj8 hj hv2 hC2 hx2 F2 N2 off2 ne2
      obtain ⟨b, tb, rfl, hb⟩ := strs_at hw hv2
      have hb3 := hw3 b (List.mem_of_getElem? hb)
      clear F N
      k_steps
      show wpAny _ _ _ _ _ _
      refine ap_specP C a b _ _ ha3 hb3 _ _ _ _ (fun b o e => F2.keep _ _ (G.st b o e)) rfl ?_ ?_ trivial ?_
      · show 97 + 400 + 1 ≤ _; omega
      · show 10 * 97 + 3 ≤ _; omega
      rintro r h' tk' kp ⟨t, rfl⟩
      exact ⟨_, _, rfl, kp, ints_mapS hj hb⟩
    · intro ys2 hj D2 h9 tk9 F9 N9 o9
      rw [← hw8, List.take_length] at hj
      refine ⟨_, _, [(L0 + 1 + 1, oT), (L0 + 1, oV)] ++ rowsLed (rows ++ [(D2, ys2)]), rfl, F9, fun p hp => N9 p ?_, fun p hp => ?_, rows ++ [(D2, ys2)], hR.snoc ha hj, by rw [hys, List.map_append]; rfl, rfl⟩
      · rw [rowsLed, List.map_append] at hp
        exact led_snoc (A := [(I, oI), (C1, oC), (D, LCg.lst ys), (c, oX)]) (B := [(L0 + 1 + 1, oT), (L0 + 1, oV)]) (R := rowsLed rows) (q := (D2, LCg.lst ys2)) hp
      · rw [rowsLed, List.map_append, ← List.append_assoc] at hp
        rcases List.mem_append.mp hp with hp | hp
        · exact off p hp
        · rw [List.mem_singleton.mp hp]
          exact ⟨Ne.symm o9.1, Ne.symm o9.2.1, Ne.symm o9.2.2.1, Ne.symm o9.2.2.2.1⟩
  · rintro D h tk ys nx ⟨rows, hR, hys, rfl⟩ F N offD
    rw [List.size_toArray, hss] at hR
    subst hys
    clear F0 N0
    simp only [List.cons_append, List.nil_append] at N
    k_with_none
    k_with "exec Assign cons ListComp" => (k_dflt (refine LCt.Assign_ListComp_T (F₀ := by k_asm) (by rfl) (by with_unfolding_all rfl) (by with_unfolding_all rfl) (by decide) (by rfl) (by decide) (by rfl) (by rfl) (by rfl) ?_))
    k_with "CompSrcT" => (refine Hold.mk ?_)
    k_steps
    show LCt.CompSrcT _ _ _ _ _ _ _ _ _ _ _ _ _ _ _
    rename Fr _ _ _ _ => F0
    rename News _ _ _ _ => N0
    refine LCt.CompSrcT.range (n := 8) rfl F0 N0 (by assumption) (by decide) (by rfl) (by rw [sizeLine_eq]; omega) ?_
    intro gK
    refine rest_fixedT (fun i ys => IntsAre ys ((idx8.take i).filter fun k => ns.getD k.toNat 0 == 1)) 8 trivial ?_ ?_ 8 0 [] rfl .nil
    · intro i ys v I oI C1 oC D2 m₂ h tk E' hi8 hj hv hC hx F N off ne
      obtain ⟨t, rfl⟩ := hv
      rw [Int.zero_add] at hx
      have hn := idx_at hi8
      clear F0 N0
      k_with_none
      k_with "subscriptTail" => (refine' row_item (by k_asm) hlm hi hlen ?a ?b ?_; (case a => omega); (case b => omega); intro t1)
      k_steps
      all_goals first | exact filt_yes hj hn (beq_iff_eq.mpr (by first | assumption | omega)) | exact filt_no hj hn (beq_eq_false_iff_ne.mpr (by first | assumption | omega))
    · intro vK hvK
      have hK : IntsAre vK (sel ns 1) := hvK
      clear F0 N0 hvK
      intro DK h tk F0 N0 offK
      k_with_none
      k_with "exec Assign cons ListComp" => (k_dflt (refine LCt.Assign_ListComp_T (F₀ := by k_asm) (by rfl) (by with_unfolding_all rfl) (by with_unfolding_all rfl) (by decide) (by rfl) (by decide) (by rfl) (by rfl) (by rfl) ?_))
      k_with "CompSrcT" => (refine Hold.mk ?_)
      k_steps
      show LCt.CompSrcT _ _ _ _ _ _ _ _ _ _ _ _ _ _ _
      rename Fr _ _ _ _ => F0
      rename News _ _ _ _ => N0
      refine LCt.CompSrcT.range (n := 8) rfl F0 N0 (by assumption) (by decide) (by rfl) (by rw [sizeLine_eq]; omega) ?_
      intro gZ
      refine rest_fixedT (fun i ys => IntsAre ys ((idx8.take i).filter fun k => ns.getD k.toNat 0 == 0)) 8 trivial ?_ ?_ 8 0 [] rfl .nil
      · intro i ys v I oI C1 oC D2 m₂ h tk E' hi8 hj hv hC hx F N off ne
        obtain ⟨t, rfl⟩ := hv
        rw [Int.zero_add] at hx
        have hn := idx_at hi8
        clear F0 N0
        k_with_none
        k_with "subscriptTail" => (refine' row_item (by k_asm) hlm hi hlen ?a ?b ?_; (case a => omega); (case b => omega); intro t1)
        k_steps
        all_goals first | exact filt_yes hj hn (beq_iff_eq.mpr (by first | assumption | omega)) | exact filt_no hj hn (beq_eq_false_iff_ne.mpr (by first | assumption | omega))
      · intro vZ hvZ
        have hZ : IntsAre vZ (sel ns 0) := hvZ
        clear F0 N0 hvZ
        intro DZ h tk F0 N0 offZ
        have hbz := hK.length
        have hdia : box (tabOf ws) ns = (sel ns 1).any fun x => (sel ns 1).any fun y => decide (x < y) && dia (tabOf ws) x y (sel ns 0) := rfl
        have hKs : ∀ k ∈ sel ns 1, 0 ≤ k ∧ k < 8 := fun k => sel_mem
        have hZs : ∀ k ∈ sel ns 0, 0 ≤ k ∧ k < 8 := fun k => sel_mem
        have hZl := sel_len ns 0
        have hKl := sel_len ns 1
        generalize sel ns 1 = B at hK hbz hdia hKs hKl
        generalize sel ns 0 = Z at hZ hdia hZs hZl
        k_with_none
        k_with "exec For" => (k_dflt (refine forV (by k_asm) (by rfl) (by rfl) ?_))
        k_with "pyIter ref" => refine Hold.mk ?_
        k_with "call ref" => refine Hold.mk ?_
        k_steps
        show wpAny _ _ _ _ _ _
        rename Fr _ _ _ _ => F0
        rename News _ _ _ _ => N0
        refine forL (σ := Unit) (vs := vK) (N0.isList (.tail _ (.head _))) (fun _ => (_, _) :: (_, _) :: (_, _) :: (_, _) :: (_, _) :: rowsLed rows) (fun c => [(PySem.Str.ofString "reach", .ref D), (PySem.Str.ofString "kept", .ref DK), (PySem.Str.ofString "left", .ref DZ)])
          (fun i _ => ∀ a ∈ B.take i, (B.any fun b => decide (a < b) && dia (tabOf ws) a b Z) = false) [] () rfl (N0 _ (.tail _ (.head _))).2.1 (List.forall_mem_nil _) (fun _ p hp => Heap.lt_size (N0 p hp).1) F0 N0 (by walk_at "same") (by intro a ha; cases ha) ?_ ?_
        · rintro i v ⟨⟩ m own h tk hv I hoff F N
          obtain ⟨u, tu, rfl, hu2⟩ := ints_at hK (by simpa using hv)
          have hub := hKs u (List.mem_of_getElem? hu2)
          clear F0 N0
          k_steps
          show wpAny _ _ _ _ _ _
          rename Fr _ _ _ _ => F0
          rename News _ _ _ _ => N0
          refine forL (σ := Unit) (vs := vK) (N0.isList (.tail _ (.head _))) (fun _ => (_, _) :: (_, _) :: (_, _) :: (_, _) :: (_, _) :: (rowsLed rows ++ own)) (fun c => [(PySem.Str.ofString "x", .int u tu), (PySem.Str.ofString "reach", .ref D), (PySem.Str.ofString "kept", .ref DK), (PySem.Str.ofString "left", .ref DZ)])
            (fun i _ => ∀ b ∈ B.take i, (decide (u < b) && dia (tabOf ws) u b Z) = false) [] () rfl (N0 _ (.tail _ (.head _))).2.1 (List.forall_mem_nil _) (fun _ p hp => Heap.lt_size (N0 p hp).1) F0 N0 (by walk_at "same") (by intro a ha; cases ha) ?_ ?_
          · rintro i2 v ⟨⟩ m own2 h tk hv I2 hoff2 F N
            obtain ⟨b, tb, rfl, hb2⟩ := ints_at hK (by simpa using hv)
            have hbb := hKs b (List.mem_of_getElem? hb2)
            clear F0 N0
            k_steps
            · show wpAny _ _ _ _ _ _
              rename Fr _ _ _ _ => F0
              rename News _ _ _ _ => N0
              refine SpecP.use (dia_specP C D DZ (tabOf ws) u b _ _ vZ Z hZ hZl hZs hub hbb) F0 N0 G.st rfl ?a1 ?a2 ⟨N0.isList (.head _), rm_of N0 hw8 hR (.tail _ (.tail _ (.head _))) (fun p hp => .tail _ (.tail _ (.tail _ (.tail _ (.tail _ (List.mem_append_left _ (List.mem_append_left _ hp)))))))⟩ ?_
              · show 97 + 400 + 1 ≤ _; omega
              · show 10 * 97 + 3 ≤ _; omega
              rintro r1 h1 tk1 kp1 F1 N1 rfl
              clear F0 N0
              dsimp only
              k_steps
              · rename dia _ _ _ _ = true => hd1
                rename u < b => hlt
                rename Fr _ _ _ _ => F6
                try dsimp only
                refine hret _ _ _ (fun b o e => F6.keep _ _ (G.sup _ _ (by simp) e)) ?_
                rw [hdia]
                refine congrArg Value.bool (Eq.symm (List.any_eq_true.mpr ⟨u, List.mem_of_getElem? hu2, List.any_eq_true.mpr ⟨b, List.mem_of_getElem? hb2, ?_⟩⟩))
                rw [hd1, Bool.and_true]; exact decide_eq_true hlt
              · rename dia _ _ _ _ = false => hd1
                rename Fr _ _ _ _ => F0
                rename News _ _ _ _ => N0
                have hq : (decide (u < b) && dia (tabOf ws) u b Z) = false := by rw [hd1, Bool.and_false]
                refine ⟨(), _, _, _, _, rfl, F0, N0, fun p hp => ?_, fun p hp => .tail _ (.tail _ (.tail _ (.tail _ (.tail _ (List.mem_append_right _ hp))))), by walk_at "same", fun a ha => ?_⟩
                · exact List.mem_append_left own2 hp
                · rw [List.take_add_one, hb2] at ha
                  rcases List.mem_append.mp ha with ha | ha
                  · exact I2 a ha
                  · rw [Option.toList_some, List.mem_singleton] at ha
                    rw [ha]
                    exact hq
            · rename ¬ u < b => hlt
              rename Fr _ _ _ _ => F0
              rename News _ _ _ _ => N0
              have hq : (decide (u < b) && dia (tabOf ws) u b Z) = false := by rw [decide_eq_false hlt, Bool.false_and]
              refine ⟨(), _, _, _, _, rfl, F0, N0, fun p hp => ?_, fun p hp => .tail _ (.tail _ (.tail _ (.tail _ (.tail _ (List.mem_append_right _ hp))))), by walk_at "same", fun a ha => ?_⟩
              · exact List.mem_append_left own2 hp
              · rw [List.take_add_one, hb2] at ha
                rcases List.mem_append.mp ha with ha | ha
                · exact I2 a ha
                · rw [Option.toList_some, List.mem_singleton] at ha
                  rw [ha]
                  exact hq
          · rintro ⟨⟩ m h tk I2 F N
            clear F0 N0
            rw [hbz, List.take_length] at I2
            k_steps
            rename Fr _ _ _ _ => F0
            rename News _ _ _ _ => N0
            refine ⟨(), _, _, _, _, rfl, F0, N0, fun p hp => ?_, fun p hp => ?_, by walk_at "same", fun a ha => ?_⟩
            · simp only [List.cons_append, List.mem_cons, List.mem_append] at hp ⊢
              rcases hp with hp | hp | hp | hp | hp | hp
              · exact .inl hp
              · exact .inr (.inl hp)
              · exact .inr (.inr (.inl hp))
              · exact .inr (.inr (.inr (.inl hp)))
              · exact .inr (.inr (.inr (.inr (.inl hp))))
              · exact .inr (.inr (.inr (.inr (.inr (.inl hp)))))
            · exact .tail _ (.tail _ (.tail _ (.tail _ (.tail _ (List.mem_append_right _ hp)))))
            · rw [List.take_add_one, hu2] at ha
              rcases List.mem_append.mp ha with ha | ha
              · exact I a ha
              · rw [Option.toList_some, List.mem_singleton] at ha
                rw [ha]
                exact List.any_eq_false.mpr fun b hb => by rw [I2 b hb]; decide
        · rintro ⟨⟩ m h tk I F N
          clear F0 N0
          rw [hbz, List.take_length] at I
          k_steps
          rename Fr _ _ _ _ => F6
          try dsimp only
          exact hret _ _ _ (fun b o e => F6.keep _ _ (G.sup _ _ (by simp) e)) (by rw [hdia]; exact congrArg Value.bool (List.any_eq_false.mpr fun a ha => by rw [I a ha]; decide).symm)
end Mine
namespace Mine
open PySem PySem.W PyProof.Rows PySem.Spec PySem.Calls
open PySem.Builtin PySem.Builtin.Re
theorem pa_pat : PlainAttrs "re.Pattern" :=
  ⟨⟨"object.__getattribute__", by rw [typeLookup_type, builtinLookup_eq_fast]; kernel_rfl, by decide +kernel⟩, by rw [typeLookup_type, builtinLookup_eq_fast]; kernel_rfl⟩
theorem slot_pat : Slot "re.Pattern" "search" "re.Pattern.search" :=
  .of (owner := "re.Pattern") (n := "search") (by rw [typeLookup_type, builtinLookup_eq_fast]; kernel_rfl) (by decide +kernel) (by decide +kernel) (by decide +kernel)
    (by first | exact .inl (by decide +kernel) | exact .inr (by decide +kernel)) (by rw [isSubtype_type]; kernel_rfl)
theorem type_pat : typeOf (.builtin "re.Pattern.search") = pure (.type "method_descriptor") := by show builtinType _ = _; rw [builtinType_eq_fast]; kernel_rfl
theorem entry_pat : entryFor table "re.Pattern.search" = some Builtin.«re.Pattern.search» := entryFor_of_tree (by kernel_rfl)
theorem args_pat (a b : Value) : argsOk "re.Pattern.search" ⟨[a, b], []⟩ := by
  unfold argsOk
  kernel_rfl

def failsOn (code text : Array Nat) (lim : Nat) : Bool :=
  match ((Sre.forSearch code text 0 0 lim false).runFor 4).outcome with
  | some .failed => true
  | _ => false
section
variable {prog : Program} {w : World} {A : Around} {s : Shared} {Q E : Value → Shared → Prop}
theorem named_pat (x : Value) : reNamed "re.Pattern.search" "search" ["string", "pos", "endpos"] 1 [x] [] = pure [some x, none, none] := by rfl
theorem drive_pat {M : Model} {A : Around} {E : Value → Shared → Prop} {s : Shared} {m : Sre.M} {Q : Sre.M → Shared → Prop} (h1 : (m.runFor 4).outcome.isSome = true) (h : Q (m.runFor 4) s) : wpAny M A (reDrive (2 ^ 64) m) Q E s := by
  have e : (2 ^ 64 : Nat) = (2 ^ 64 - 1) + 1 := by decide
  rw [e]
  unfold reDrive
  show wpAny M A (if ((m.runFor 4).outcome.isSome) = true then pure (m.runFor 4) else _) Q E s
  rw [if_pos h1]
  exact wpAny_pure h
theorem rules_pat {M : Model} {A : Around} {E : Value → Shared → Prop} {s : Shared} (seen : Sre.Seen) {Q : PUnit → Shared → Prop} (h : Q ⟨⟩ s) : ∀ l : List Nat, wpAny M A (forIn l PUnit.unit fun i _ => do
    if seen.has i = true then rule (Sre.names.getD i "")
    pure (ForInStep.yield PUnit.unit)) Q E s
  | [] => by rw [List.forIn_nil]; exact wpAny_pure h
  | i :: l => by
    rw [List.forIn_cons]
    refine wpAny_bind ?_
    dsimp only
    by_cases c : seen.has i = true
    · rw [if_pos c]; exact wpAny_bind (wpAny_rule (wpAny_pure (rules_pat seen h l)))
    · rw [if_neg c]; exact wpAny_pure (rules_pat seen h l)
theorem re_search_none {p c : Addr} {op oc : Obj} {v0 v1 v3 v4 : Value} {t2 t6 : Tok} {items : Array Value} {n : Nat} {x : Str} {t : Tok} (code : Array Nat) (hp : s.heap.get? p = some op) (hcl : op.cls = .type "re.Pattern") (hpd : op.data = .fields #[v0, v1, .int 0 t2, v3, v4, .ref c, .int 0 t6])
    (hc : s.heap.get? c = some oc) (hcd : oc.data = .seq items n) (hcode : (items.map reRawOf).map (·.toNat) = code) (hf : failsOn code x.cps (min (2 ^ 63 - 1 : Int).toNat x.cps.size) = true) (h : Q .none s) :
    wpAny (model prog w) A (call (.builtin "re.Pattern.search") [.ref p, .str x t]) Q E s := by
  subst hcode
  refine wpAny_call (codeAny_call_builtin slot_pat.plain entry_pat (slot_pat.check _ _ _ _ _ _ _ _ ⟨op, hp, hcl⟩ (args_pat _ _) ?_))
  unfold Builtin.«re.Pattern.search»
  refine wpAny_bind ?_
  unfold reTarget
  dsimp only
  refine wpAny_bind ?_
  rw [named_pat]
  refine wpAny_pure ?_
  dsimp only
  refine wpAny_bind (wpAny_pure ?_)
  refine wpAny_bind (wpAny_pure ?_)
  refine wpAny_bind (wpAny_fieldsOf hp hpd ?_)
  refine wpAny_bind ?_
  have e1 : reTextOf (.str x t) = pure (x.cps, 0) := by rfl
  rw [e1]
  refine wpAny_pure ?_
  dsimp only
  rw [if_neg (by intro h9; exact Bool.noConfusion (show false = true from h9)), if_neg (by intro h9; exact Bool.noConfusion (show false = true from h9))]
  refine wpAny_bind ?_
  have e2 : reNoCollectionInside (.str x t) 0 = pure () := by rfl
  rw [e2]
  refine wpAny_pure (wpAny_bind ?_)
  have e3 : (#[v0, v1, Value.int 0 t2, v3, v4, Value.ref c, Value.int 0 t6] : Array Value).getD 5 Value.none = .ref c := by rfl
  rw [e3]
  unfold reRawItems
  refine wpAny_bind (wpAny_seqItems hc hcd (wpAny_pure (wpAny_pure ?_)))
  show wpAny _ _ (reAnswer _ (Sre.forSearch ((items.map reRawOf).map (·.toNat)) x.cps 0 (Min.min (Int.toNat 0) x.cps.size) (Min.min (2 ^ 63 - 1 : Int).toNat x.cps.size) false)) _ _ _
  have e4 : Min.min (Int.toNat 0) x.cps.size = 0 := Nat.zero_min _
  rw [e4]
  unfold failsOn at hf
  unfold reAnswer reRunToEnd
  generalize Sre.forSearch ((items.map reRawOf).map (·.toNat)) x.cps 0 0 (Min.min (2 ^ 63 - 1 : Int).toNat x.cps.size) false = m at hf
  have hm : (m.runFor 4).outcome = some .failed := by
    cases q : (m.runFor 4).outcome with
    | none => rw [q] at hf; cases hf
    | some o => cases o with
      | failed => rfl
      | matched => rw [q] at hf; cases hf
      | stuck why => rw [q] at hf; cases hf
  refine wpAny_bind (wpAny_bind (drive_pat (by rw [hm]; rfl) (wpAny_bind (rules_pat _ ?_ _))))
  rw [hm]
  exact wpAny_pure (wpAny_pure h)
end
def words8 : List Str := ["abc", "Abc", "aBc", "ABc", "abC", "AbC", "aBC", "ABC"]
def codeN : Array Nat := #[14, 10, 4, 1, 1, 22, 0, 31, 16, 127, 0, 13, 7, 22, 0, 31, 16, 127, 0, 1]
def codeV : Array Nat := #[14, 14, 4, 1, 1, 9, 4294966783, 0, 0, 2147483648, 0, 0, 0, 0, 0, 13, 11, 9, 4294966783, 0, 0, 2147483648, 0, 0, 0, 0, 0, 1]
theorem w_name : ∀ a ∈ words8, failsOn codeN a.cps (min (2 ^ 63 - 1 : Int).toNat a.cps.size) = true := by decide +kernel
theorem w_len : ∀ a ∈ words8, a.length = 3 := by decide +kernel
theorem w_low : ∀ a ∈ words8, Txt.lower a = ("abc" : Str) := by decide +kernel
end Mine
namespace Mine
open PySem PySem.W PyProof.Rows PySem.Spec PySem.Calls
theorem clrD17 : True := by
  w_top off
  k_with_none
  trivial
local macro_rules | `(tactic| walk_at $s:str) => `(tactic| k_extra $s)
local macro_rules | `(tactic| walk_at "same") => `(tactic| repeat' (first | exact List.forall_mem_nil _ | refine List.forall_mem_cons.mpr ⟨by with_unfolding_all rfl, ?_⟩))
local macro_rules | `(tactic| walk_at "enterP") => `(tactic| k_dflt (refine' enterP ?kC0 ?kS0 ?k6 ?k7 ?k8 ?k9 ?kB ?_ ?c2 ?c3 ?c4 ?c5; (case kC0 => assumption); (case kS0 => assumption); (case k6 => k_is); (case k7 => k_is); (case k8 => decide); (case k9 => first | exact BindsTo.of_eq rfl | (refine' kp_binds ?kx ?ke; (case kx => exact Frag.In.keeps (Core.X (by assumption)) (by assumption)); (case ke => exact fun _ => rfl))); (case c5 => decide); (case kB => exact locs rfl); (case c2 => exact rfl); (case c3 => exact rfl); (case c4 => exact rfl); k_whole; intro L' h' X' T' C1' C2' F' N'; (try dsimp only); (try k_fold)))
local macro_rules | `(tactic| walk_at "enterX0") => `(tactic| k_dflt (refine' enterX0 ?kC0 ?kS0 ?ko ?kd ?k7 ?k8 ?k9 ?kB ?_ ?c2 ?c3 ?c4 ?c5; (case kC0 => assumption); (case kS0 => assumption); (case ko => assumption); (case kd => exact rfl); (case k7 => assumption); (case k8 => first | decide | (show _ < 1000; omega)); (case k9 => exact BindsTo.of_eq rfl); (case c5 => decide); (case kB => exact locs rfl); (case c2 => exact rfl); (case c3 => exact rfl); (case c4 => exact rfl); k_whole; intro L' h' X' T' C1' C2' F' N'; (try dsimp only); (try k_fold)))
local macro_rules | `(tactic| walk_at "enterC") => `(tactic| k_dflt (refine' enterC ?kC0 ?kS0 ?kn ?kt ?k6 ?k7 ?k8 ?k9 ?kB ?kD ?_ ?c2 ?c3 ?c4; (case kC0 => assumption); (case kS0 => assumption); (case kn => assumption); (case kt => assumption); (case k6 => k_is); (case k7 => k_is); (case k8 => decide); (case k9 => first | exact BindsTo.of_eq rfl | (refine' kp_binds ?kx ?ke; (case kx => exact Frag.In.keeps (Core.X (by assumption)) (by assumption)); (case ke => exact fun _ => rfl))); (case kB => exact rfl); (case kD => decide +kernel); (case c2 => exact rfl); (case c3 => exact rfl); (case c4 => exact rfl); k_whole; intro g' L' h' tk' cells' G' X' T' C1' C2' F' N' Y' l1; (try k_lt l1); k_cells Y'; (try simp only [List.cons_append, List.nil_append] at N'); (try dsimp only); (try k_fold)))
local macro_rules | `(tactic| walk_at "enterPt") => `(tactic| k_dflt (refine' enterPt ?kC0 ?kS0 ?kn ?kt ?k6 ?k7 ?k8 ?k9 ?kB ?_ ?c2 ?c3 ?c4 ?c5; (case kC0 => assumption); (case kS0 => assumption); (case kn => assumption); (case kt => assumption); (case k6 => k_is); (case k7 => k_is); (case k8 => decide); (case k9 => first | exact BindsTo.of_eq rfl | (refine' kp_binds ?kx ?ke; (case kx => exact Frag.In.keeps (Core.X (by assumption)) (by assumption)); (case ke => exact fun _ => rfl))); (case c5 => decide); (case kB => exact locs rfl); (case c2 => exact rfl); (case c3 => exact rfl); (case c4 => exact rfl); k_whole; intro g' L' h' G' X' T' C1' C2' F' N' l1; (try k_lt l1); (try dsimp only); (try k_fold)))

local macro_rules | `(tactic| k_all) => `(tactic| assumption)
local macro_rules | `(tactic| k_room) => `(tactic| (show _ < 1000; exact (Nat.le_of_ble_eq_true rfl)))
theorem empty_get (a : Addr) : ({} : Heap).get? a = none := rfl
theorem below_of {A : Around} {outer : List Env} {g : Heap} (hf : A.frames = some outer) (h : g.FunFrames {} outer) : Below A {} outer g := ⟨hf, fun b o e => (by rw [empty_get] at e; cases e), h⟩
/-- the frames stand where an object with fields is laid aside -/
theorem Gd.frames {H0 h g : Heap} {tl : List (Addr × Obj)} {outer : List Env} (G : Gd H0 h tl g) (ht : ∀ p ∈ tl, h.get? p.1 = some p.2) (hc : ∀ p ∈ tl, ∃ vs, p.2.data = .fields vs) (x : h.FunFrames {} outer) : g.FunFrames {} outer := by
  refine x.of_keeps fun b o e hd => ⟨o, G.sup b o (fun q => ?_) e, rfl⟩
  obtain ⟨p, hp, rfl⟩ := List.mem_map.mp q
  obtain ⟨vs, hv⟩ := hc p hp
  have e2 := ht p hp
  rw [e] at e2
  cases e2
  exact hd vs hv
section
variable {prog : Program} {w : World} {A : Around} {Q : Flow → Shared → Prop} {s : Shared} {env : Env} {G : Heap} {x : Str} {px : Pos} {body : List Stmt}
/-- over a list, the ledger growing -/
theorem forTL {σ : Type} {l : Addr} {vs : List Value} {m₀ : Str → Option Value} (hl : s.heap.IsList l vs.toArray)
    (Led : σ → List (Addr × Obj)) (ps : σ → List (Str × Value)) (Inv : Nat → σ → Prop) (adr : List Addr) (c₀ : σ) (hh : A.handled = none)
    (hL : l ≠ env.locals) (hadr : ∀ b ∈ adr, b ≠ l ∧ b < s.heap.objs.size) (hled : ∀ i c, Inv i c → ∀ p ∈ Led c, p.1 ≠ s.heap.objs.size) (F : Fr G env.locals s.heap m₀) (N : News G env.locals s.heap (Led c₀))
    (hk : ∀ p ∈ ps c₀, m₀ p.1 = some p.2) (h0 : Inv 0 c₀)
    (turn : ∀ i v c m own h tk, vs[i]? = some v → Inv i c → OwnOff own adr → Fr G env.locals h (kstB m (ps c)) → News G env.locals h (Led c ++ own) → (∃ o, (s.heap.objs.size, o) ∈ own) →
      wpAny (model prog w) A (assign (.Name x px) env v) (fun _ s₃ => wpAny (model prog w) A (execs body env) (FPost G env.locals { s with heap := h, toks := tk } Led ps (Inv (i + 1)) own Q) (fun _ _ => False) s₃) (fun _ _ => False) { s with heap := h, toks := tk })
    (done : ∀ c m h tk, Inv vs.length c → Fr G env.locals h (kstB m (ps c)) → News G env.locals h (Led c) → Q .next { s with heap := h, toks := tk }) :
    wpAny (model prog w) A (pyIter (.ref l)) (fun it s₂ => TurnsAt prog w A G env (.Name x px) body Q (fun _ _ => False) it s₂) (fun _ _ => False) s := by
  obtain ⟨ol, hol, _⟩ := id hl
  have hne : l ≠ s.heap.objs.size := Nat.ne_of_lt (Heap.lt_size hol)
  refine wpAny_pyIter_list hl ?_
  have W := Walks.list (prog := prog) (w := w) hh s.heap.objs.size l hne vs.toArray
  have hlen : vs.toArray.size = vs.length := by simp
  rw [hlen] at W
  refine forTW (s := { s with heap := s.heap.push _ }) W Led ps Inv adr c₀ ?_ ?_ ?_ ?_ ⟨⟨_, Heap.get?_push_size _ rfl, rfl, rfl⟩, hl.at fun o e => Heap.get?_push_of_some _ e⟩ (F.push _) (fun p hp => ⟨Heap.get?_push_of_some _ (N p hp).1, (N p hp).2⟩) hk h0 ?_ ?_
  · intro hm
    rcases List.mem_cons.mp hm with e | hm
    · exact absurd F.ns.lt (e ▸ Nat.lt_irrefl _)
    · exact hL (List.mem_singleton.mp hm).symm
  · intro b hb
    rw [List.mem_singleton.mp hb]
    exact next_is_new F
  · intro b hb hm
    rcases List.mem_cons.mp hm with e | hm
    · exact absurd (hadr b hb).2 (e ▸ Nat.lt_irrefl _)
    · exact (hadr b hb).1 (List.mem_singleton.mp hm)
  · intro i c hi p hp hI
    exact hled i c hi p hp (List.mem_singleton.mp hI)
  · intro i v c m own h tk hi hP hI ho F₁ N₁ hst how
    obtain ⟨oI, eI, _⟩ := hst.1
    exact turn i v c m own h tk (by simpa using hP) hI ho F₁ N₁ ⟨_, how _ (.head _) _ eI⟩
  · intro c m h tk hI F₁ N₁
    exact done c m h tk hI F₁ N₁
end
/-- what the loop over the words knows: the table 61, the pairs made so far -/
structure TS where
  tl : List (Addr × Obj)
  hs : List (Addr × Obj)
  k : Nat
abbrev vtext (a : Str) : Str := Str.ofString (toString (valw a))
def Pairs (ws : List Str) (i : Nat) (hs : List (Addr × Obj)) : Prop := hs.length = i ∧ ∀ (j : Nat) (p : Addr × Obj), hs[j]? = some p → ∃ a ta tb, ws[j]? = some a ∧ p.2 = tupOf #[.str a ta, .str (vtext a) tb]
structure TI (g : Heap) (ws : List Str) (adr : List Addr) (I : Addr) (i : Nat) (c : TS) : Prop where
  e0 : i = 0 → c.tl = [(61, tabObj #[])]
  e1 : 0 < i → FullBy g c.tl
  hs : Pairs ws i c.hs
  off : OwnOff (c.tl ++ c.hs) adr
  ni : ∀ p ∈ c.tl ++ c.hs, p.1 ≠ I
abbrev refsOf (hs : List (Addr × Obj)) : List Value := hs.map fun p => Value.ref p.1
theorem val_turn {w ls mean mg mb H0} (C : Core w ls mean mg mb H0) (a : Str) (ta : Nat) (ha : a.length = 3) {A : Around} {s : Shared} {Q E : Value → Shared → Prop} {g : Heap} {L : Addr} {m : Str → Option Value} {top tl hs own : List (Addr × Obj)}
    (F : Fr g L s.heap m) (N : News g L s.heap (top ++ (tl ++ (hs ++ own)))) (st : H0.StaysIn g) (hh : A.handled = none) (hd : A.depth ≤ 98 + 400) (hu : A.units ≤ 10 * 98)
    (h01 : (tl = [(61, tabObj #[])] ∧ hs = []) ∨ FullBy g tl) (htop : ∀ p ∈ top, p.1 ≠ 61) (hown : ∀ p ∈ own, p.1 ≠ 61)
    (k : ∀ t h' tk tl', Fr g L h' m → News g L h' (top ++ (tl' ++ (hs ++ own))) → FullBy g tl' → ((∀ p ∈ top ++ (hs ++ own), ∀ q ∈ tl', p.1 ≠ q.1) ∨ tl' = tl) → Q (.int (valw a) t) { s with heap := h', toks := tk }) :
    wpAny (model pg w) A (call (.ref 277) [.str a ta]) Q E s := by
  have mv : ∀ (t2 : List (Addr × Obj)), ∀ p, p ∈ (top ++ (hs ++ own)) ++ t2 ↔ p ∈ top ++ (t2 ++ (hs ++ own)) := by
    intro t2 p
    simp only [List.mem_append]
    constructor
    · rintro ((h | h | h) | h)
      · exact .inl h
      · exact .inr (.inr (.inl h))
      · exact .inr (.inr (.inr h))
      · exact .inr (.inl h)
    · rintro (h | h | h | h)
      · exact .inl (.inl h)
      · exact .inr h
      · exact .inl (.inr (.inl h))
      · exact .inl (.inr (.inr h))
  rcases h01 with ⟨e1, e2⟩ | hF
  · subst e1 e2
    refine SpecU.use2 (top ++ ([] ++ own)) (val_specU C a ta ha) F N st hh hd hu (List.mem_append_right _ (.head _)) (fun p hp => (mv [(61, tabObj #[])] p).mp (List.mem_append_left _ hp)) (fun p hp => ?_) trivial ?_
    · rcases List.mem_append.mp hp with hp | hp
      · exact htop p hp
      · exact hown p hp
    · rintro r h' tk tl' F' N' FB off _ ⟨t, rfl⟩
      exact k t h' tk tl' F' (fun p hp => N' p ((mv tl' p).mpr hp)) FB (.inl off)
  · refine SpecP.use (val_specP C a ta ha) F N st hh hd hu (hF s.heap F.keep fun p hp => (N p (List.mem_append_right _ (List.mem_append_left _ hp))).1).full ?_
    rintro r h' tk kp F' N' ⟨t, rfl⟩
    exact k t h' tk tl F' N' hF (.inr rfl)
theorem val_in (a : Str) : 0 ≤ valw a ∧ valw a ≤ 8737 := by
  have h := fun k => costP_in (Txt.item ("abc" : Str) k) (Txt.item a k)
  have h0 := h 0
  have h1 := h 1
  have h2 := h 2
  have e : valw a = seg 16 [1, costP (Txt.item ("abc" : Str) 0) (Txt.item a 0), costP (Txt.item ("abc" : Str) 1) (Txt.item a 1), costP (Txt.item ("abc" : Str) 2) (Txt.item a 2)] := rfl
  rw [e]
  simp only [seg]
  omega
theorem w_val : ∀ a ∈ words8, failsOn codeV (Str.ofString (toString (valw a))).cps (min (2 ^ 63 - 1 : Int).toNat (Str.ofString (toString (valw a))).cps.size) = true := by decide +kernel
theorem w_vals : words8.map valw = [1, 17, 257, 273, 4097, 4113, 4353, 4369] := by decide +kernel
theorem strs_snoc : ∀ {vs : List Value} {ts : List Str} {x : Str} {t : Tok}, StrsAre vs ts → StrsAre (vs ++ [.str x t]) (ts ++ [x])
  | _, _, x, t, .nil => .cons x t .nil
  | _, _, x, t, .cons y u h => .cons y u (strs_snoc h)
theorem strs_mapS {i : Nat} {xs : List Str} {x : Str} {ys : List Value} {t : Nat} {f : Str → Str} (h : StrsAre ys ((xs.take i).map f)) (e : xs[i]? = some x) : StrsAre (ys ++ [.str (f x) t]) ((xs.take (i + 1)).map f) := by
  rw [List.take_add_one, e, List.map_append]
  exact strs_snoc h
theorem allLt_mem {d : Addr} : ∀ {l : List (Addr × Obj)}, AllLt d l → ∀ p ∈ l, p.1 < d
  | [], _, p, hp => by cases hp
  | q :: r, h, p, hp => by
    rcases List.mem_cons.mp hp with rfl | hp
    · exact h.1
    · exact allLt_mem h.2 p hp
theorem refs_snoc {hs : List (Addr × Obj)} {D : Addr} {o : Obj} : ((refsOf hs).toArray).push (.ref D) = (refsOf (hs ++ [(D, o)])).toArray := by
  simp [refsOf]
theorem Pairs.snoc {ws : List Str} {i : Nat} {hs : List (Addr × Obj)} {D : Addr} {a : Str} {ta tb : Tok} (h : Pairs ws i hs) (e : ws[i]? = some a) : Pairs ws (i + 1) (hs ++ [(D, tupOf #[.str a ta, .str (vtext a) tb])]) := by
  have hl : hs.length = i := h.1
  refine ⟨by rw [List.length_append, h.1]; rfl, fun j p hp => ?_⟩
  rcases Nat.lt_trichotomy j i with hj | rfl | hj
  · rw [List.getElem?_append_left (by rw [hl]; exact hj)] at hp
    exact h.2 j p hp
  · rw [List.getElem?_append_right (by rw [hl]; exact Nat.le_refl _), hl, Nat.sub_self] at hp
    cases hp
    exact ⟨a, ta, tb, e, rfl⟩
  · rw [List.getElem?_eq_none (by rw [List.length_append, h.1]; exact hj)] at hp
    cases hp
theorem w_vlen : ∀ a ∈ words8, (Str.ofString (toString (valw a))).length ≤ 16 := by decide +kernel
theorem join_one {prog : Program} {w : World} {A : Around} {E Q : Value → Shared → Prop} {s : Shared} {D : Addr} {x sep : Str} {t u : Tok} (hl : s.heap.IsList D #[.str x u]) (hx : x.length ≤ 16) (hs : sep.length ≤ 16) (h : ∀ t' k, Q (.str x t') { s with toks := k }) :
    wpAny (model prog w) A (call (.builtin "str.join") [.str sep t, .ref D]) Q E s := by
  refine join_listW hl (.cons x u .nil) hs ?_ h
  show x.length + 0 + 1 ≤ 1048576
  omega
theorem turn_end {g : Heap} {s : Shared} {L XX dX LH I0 Dn : Addr} {oX oD : Obj} {p1 p2 p3 : Addr × Obj} {ws : List Str} {i : Nat} {c : TS} {a : Str} {ta t9 : Tok} {h' : Heap} {tk : Nat} {m' : Str → Option Value} {tl1 own own2 : List (Addr × Obj)} {ps : TS → List (Str × Value)} {Q : Flow → Shared → Prop}
    (F8 : Fr g L h' m') (N8 : News g L h' ((Dn, tupOf #[.str a ta, .str (vtext a) t9]) :: p1 :: p2 :: p3 :: (XX, oX) :: (dX, oD) :: (LH, W.listOf ((refsOf c.hs).toArray.push (.ref Dn)) (c.k + 1)) :: own2))
    (I : TI g ws [XX, dX, LH] I0 i c) (ha : ws[i]? = some a) (FB1 : FullBy g tl1) (off1 : ∀ p ∈ tl1, p.1 ≠ I0) (hoff1 : OwnOff own2 [XX, dX, LH]) (mtl : ∀ p ∈ tl1, p ∈ own2) (mhs : ∀ p ∈ c.hs, p ∈ own2) (mown : ∀ p ∈ own, p ∈ own2)
    (hoI : ∃ oI, (I0, oI) ∈ own) (qX : XX < Dn) (qd : dX < Dn) (qL : LH < Dn) (qA : AllLt Dn own2) (hps : ∀ c', ∀ p ∈ ps c', m' p.1 = some p.2) :
    FPost g L s (fun c => (XX, oX) :: (dX, oD) :: (LH, W.listOf (refsOf c.hs).toArray c.k) :: (c.tl ++ c.hs)) ps (TI g ws [XX, dX, LH] I0 (i + 1)) own Q .next { s with heap := h', toks := tk } := by
  have qA2 := allLt_mem qA
  obtain ⟨oI, hoI⟩ := hoI
  refine ⟨⟨tl1, c.hs ++ [(Dn, tupOf #[.str a ta, .str (vtext a) t9])], c.k + 1⟩, _, _, _, _, rfl, F8, N8, ?_, ?_, hps _, ?_⟩
  · intro p hp
    rcases List.mem_cons.mp hp with rfl | hp
    · exact .tail _ (.tail _ (.tail _ (.tail _ (.head _))))
    rcases List.mem_cons.mp hp with rfl | hp
    · exact .tail _ (.tail _ (.tail _ (.tail _ (.tail _ (.head _)))))
    rcases List.mem_cons.mp hp with rfl | hp
    · refine .tail _ (.tail _ (.tail _ (.tail _ (.tail _ (.tail _ ?_)))))
      dsimp only
      rw [← refs_snoc]
      exact .head _
    rcases List.mem_append.mp hp with hp | hp
    · exact .tail _ (.tail _ (.tail _ (.tail _ (.tail _ (.tail _ (.tail _ (mtl p hp)))))))
    rcases List.mem_append.mp hp with hp | hp
    · exact .tail _ (.tail _ (.tail _ (.tail _ (.tail _ (.tail _ (.tail _ (mhs p hp)))))))
    · rw [List.mem_singleton.mp hp]
      exact .head _
  · intro p hp
    exact .tail _ (.tail _ (.tail _ (.tail _ (.tail _ (.tail _ (.tail _ (mown p hp)))))))
  · refine ⟨fun e => absurd e (Nat.succ_ne_zero _), fun _ => FB1, I.hs.snoc ha, ?_, ?_⟩
    · intro p hp b hb
      rcases List.mem_append.mp hp with hp | hp
      · exact hoff1 p (mtl p hp) b hb
      rcases List.mem_append.mp hp with hp | hp
      · exact hoff1 p (mhs p hp) b hb
      · rw [List.mem_singleton.mp hp]
        rcases List.mem_cons.mp hb with rfl | hb
        · exact Nat.ne_of_gt qX
        rcases List.mem_cons.mp hb with rfl | hb
        · exact Nat.ne_of_gt qd
        · rw [List.mem_singleton.mp hb]
          exact Nat.ne_of_gt qL
    · intro p hp
      rcases List.mem_append.mp hp with hp | hp
      · exact off1 p hp
      rcases List.mem_append.mp hp with hp | hp
      · exact I.ni p (List.mem_append_right _ hp)
      · rw [List.mem_singleton.mp hp]
        exact Nat.ne_of_gt (qA2 _ (mown _ hoI))
theorem w_abc : failsOn codeN (Txt.lower ("aBc" : Str)).cps (min (2 ^ 63 - 1 : Int).toNat (Txt.lower ("aBc" : Str)).cps.size) = true := by decide +kernel
theorem tot_spec {w ls mean mg mb H0} (C : Core w ls mean mg mb H0) (l : Addr) (ss : List Value) (ws : List Str) (hw : StrsAre ss ws) (hw8 : ∀ a ∈ ws, a ∈ words8) (hlen : ws.length ≤ 8) 
    (A : Around) (outer : List Env) (s : Shared) (Q E : Value → Shared → Prop) (st : H0.StaysIn s.heap) (hh : A.handled = none) (hd : A.depth ≤ 97 + 400) (hu : A.units ≤ 10 * 97) (hfr : A.frames = some outer) (hff : s.heap.FunFrames {} outer) (he : s.heap.get? 61 = some (tabObj #[])) (hl : s.heap.IsList l ss.toArray)
    (hret : ∀ r h' tk, (∀ b o, b ≠ 61 → s.heap.get? b = some o → h'.get? b = some o) → (ws = [] → h'.get? 61 = some (tabObj #[])) → (ws ≠ [] → Fresh61 s.heap h') → (∃ t, r = .int (ws.map valw).sum t) → Q r { s with heap := h', toks := tk }) : wpAny (model pg w) A (call (.ref 282) [.ref l]) Q E s := by
  refine lift hh hd hu ?_
  rw [hfr]
  have kn : ∀ p ∈ [((61 : Addr), tabObj #[])], H0.get? p.1 = none := List.forall_mem_cons.mpr ⟨C.n61, List.forall_mem_nil _⟩
  have kt : ∀ p ∈ [((61 : Addr), tabObj #[])], s.heap.get? p.1 = some p.2 := List.forall_mem_cons.mpr ⟨he, List.forall_mem_nil _⟩
  walk_at "enterPt"
  rename Gd _ _ _ _ => G
  have hlg := G.list kt hl (List.forall_mem_cons.mpr ⟨by decide, List.forall_mem_nil _⟩)
  have B := below_of (A := Ar (97 + 400) (10 * 97) (some outer) A.guards) rfl (G.frames kt (List.forall_mem_cons.mpr ⟨⟨_, rfl⟩, List.forall_mem_nil _⟩) hff)
  k_with_none
  k_with "exec For Name Name cons nil" => (k_dflt (refine forT (by k_asm) ?_))
  k_with "pyIter ref" => (show wpAny _ _ (pyIter (.ref l)) _ _ _; refine Hold.mk ?_)
  k_steps
  show wpAny _ _ _ _ _ _
  rename Fr _ _ _ _ => F0
  rename News _ _ _ _ => N0
  rename_i g L h1 X T C1 C2 lA LH hA lB XX dX hB lC lD g2 L2 hC B2 X2 T2 tkA hD tkB hE N2 tkC iI lE hF tkD F3 N3 Tc kX hG
  clear F3 N3 N2 B2 X2 T2 lE
  obtain ⟨kt0, N0⟩ : ∃ kt0, News g L hG [(XX, instObj 249 dX), (dX, dictOf [{ hash := PyData.keyHash w.params (Str.ofString "_headers"), key := .str (Str.ofString "_headers") kt0, val := .ref LH }] 1), (LH, W.listOf #[] 0), (61, tabObj #[])] := ⟨_, N0⟩
  have hlF : hG.IsList l ss.toArray := hlg.at fun o e => F0.keep _ _ e
  have nXl : l < L := by
    obtain ⟨o, e, _⟩ := hlg
    exact Nat.lt_of_lt_of_le (Heap.lt_size e) F0.above
  refine forTL (σ := TS) hlF (fun c => (XX, instObj 249 dX) :: (dX, dictOf [{ hash := PyData.keyHash w.params (Str.ofString "_headers"), key := .str (Str.ofString "_headers") kt0, val := .ref LH }] 1) :: (LH, W.listOf (refsOf c.hs).toArray c.k) :: (c.tl ++ c.hs))
    (fun c => [(PySem.Str.ofString "table", .ref XX)]) (TI g ws [XX, dX, LH] hG.objs.size) [XX, dX, LH, 61] ⟨[(61, tabObj #[])], [], 0⟩ rfl (Nat.ne_of_lt nXl) ?_ ?_ F0 N0 (by walk_at "same") ?_ ?_ ?_
  · have key : ∀ p ∈ [(XX, instObj 249 dX), (dX, dictOf [{ hash := PyData.keyHash w.params (Str.ofString "_headers"), key := .str (Str.ofString "_headers") kt0, val := .ref LH }] 1), (LH, W.listOf #[] 0), ((61 : Addr), tabObj #[])], p.1 ≠ l ∧ p.1 < hG.objs.size := by
      intro p hp
      refine ⟨fun e => ?_, Heap.lt_size (N0 p hp).1⟩
      obtain ⟨o, e2, _⟩ := hlg
      have e3 := (N0 p hp).2.2
      rw [e, e2] at e3
      cases e3
    intro b hb
    rcases List.mem_cons.mp hb with rfl | hb
    · exact key (_, _) (.head _)
    rcases List.mem_cons.mp hb with rfl | hb
    · exact key (_, _) (.tail _ (.head _))
    rcases List.mem_cons.mp hb with rfl | hb
    · exact key (_, _) (.tail _ (.tail _ (.head _)))
    · rw [List.mem_singleton.mp hb]
      exact key (_, _) (.tail _ (.tail _ (.tail _ (.head _))))
  · intro i c I p hp
    rcases List.mem_cons.mp hp with rfl | hp
    · exact Nat.ne_of_lt (Heap.lt_size (N0 _ (.head _)).1)
    rcases List.mem_cons.mp hp with rfl | hp
    · exact Nat.ne_of_lt (Heap.lt_size (N0 _ (.tail _ (.head _))).1)
    rcases List.mem_cons.mp hp with rfl | hp
    · exact Nat.ne_of_lt (Heap.lt_size (N0 _ (.tail _ (.tail _ (.head _)))).1)
    · exact I.ni p hp
  · refine ⟨fun _ => rfl, fun e => absurd e (Nat.lt_irrefl _), ⟨rfl, fun j p hp => by simp at hp⟩, fun p hp b hb => ?_, fun p hp => ?_⟩
    · rw [List.mem_singleton.mp hp]
      rcases List.mem_cons.mp hb with rfl | hb
      · exact Nat.ne_of_lt (Nat.lt_trans lC.2 lD)
      rcases List.mem_cons.mp hb with rfl | hb
      · exact Nat.ne_of_lt lC.2
      · rw [List.mem_singleton.mp hb]
        exact Nat.ne_of_lt lB
    · rw [List.mem_singleton.mp hp]
      exact Nat.ne_of_lt (Heap.lt_size (N0 _ (.tail _ (.tail _ (.tail _ (.head _))))).1)
  · rintro i v c m own h tk hv I hoff F N ⟨oI, hoI⟩
    obtain ⟨a, ta, rfl, ha⟩ := strs_at hw (by simpa using hv)
    have ha8 := hw8 a (List.mem_of_getElem? ha)
    have ha3 := w_len a ha8
    have hfn := w_name a ha8
    have hfv := w_val a ha8
    have hfl := w_vlen a ha8
    clear F0 N0
    have hne3 : ∀ p ∈ [(XX, instObj 249 dX), (dX, dictOf [{ hash := PyData.keyHash w.params (Str.ofString "_headers"), key := .str (Str.ofString "_headers") kt0, val := .ref LH }] 1), (LH, W.listOf (refsOf c.hs).toArray c.k)], p.1 ≠ 61 := by
      refine List.forall_mem_cons.mpr ⟨?_, List.forall_mem_cons.mpr ⟨?_, List.forall_mem_cons.mpr ⟨?_, List.forall_mem_nil _⟩⟩⟩
      · show XX ≠ 61; exact Nat.ne_of_gt (Nat.lt_trans lC.2 lD)
      · show dX ≠ 61; exact Nat.ne_of_gt lC.2
      · show LH ≠ 61; exact Nat.ne_of_gt lB
    have hown : ∀ p ∈ own, p.1 ≠ 61 := fun p hp => hoff p hp _ (.tail _ (.tail _ (.tail _ (.head _))))
    have h01 : (c.tl = [(61, tabObj #[])] ∧ c.hs = []) ∨ FullBy g c.tl := by
      by_cases hi0 : i = 0
      · exact .inl ⟨I.e0 hi0, List.eq_nil_of_length_eq_zero (I.hs.1.trans hi0)⟩
      · exact .inr (I.e1 (Nat.pos_of_ne_zero hi0))
    have N1 : News g L h ([(XX, instObj 249 dX), (dX, dictOf [{ hash := PyData.keyHash w.params (Str.ofString "_headers"), key := .str (Str.ofString "_headers") kt0, val := .ref LH }] 1), (LH, W.listOf (refsOf c.hs).toArray c.k)] ++ (c.tl ++ (c.hs ++ own))) := by
      rw [← List.append_assoc c.tl]; exact N
    simp only [List.cons_append, List.nil_append] at N1
    clear N
    k_with_none
    k_with "call ref" => (show wpAny _ _ (call (.ref 277) _ _) _ _ _; refine Hold.mk ?_)
    k_steps
    show wpAny _ _ _ _ _ _
    rename Fr _ _ _ _ => F0
    rename News _ _ _ _ => N0
    refine val_turn C a ta ha3 (top := [_, _, _]) (tl := c.tl) (hs := c.hs) (own := own) F0 N0 G.st rfl (Nat.le_refl _) ?_ h01 hne3 hown ?_
    · show 10 * 97 + 3 ≤ _; omega
    intro t1 h1 tk1 tl1 F1 N1 FB1 off1
    clear F0 N0
    simp only [List.cons_append, List.nil_append] at N1
    have hoff1 : OwnOff (tl1 ++ (c.hs ++ own)) [XX, dX, LH] := by
      intro p hp b hb
      rcases List.mem_append.mp hp with hp | hp
      · rcases off1 with off1 | rfl
        · have key := fun q hq => off1 q hq p hp
          rcases List.mem_cons.mp hb with rfl | hb
          · exact Ne.symm (key (_, _) (.head _))
          rcases List.mem_cons.mp hb with rfl | hb
          · exact Ne.symm (key (_, _) (.tail _ (.head _)))
          · rw [List.mem_singleton.mp hb]
            exact Ne.symm (key (_, _) (.tail _ (.tail _ (.head _))))
        · exact I.off p (List.mem_append_left _ hp) b hb
      rcases List.mem_append.mp hp with hp | hp
      · exact I.off p (List.mem_append_right _ hp) b hb
      · refine hoff p hp b ?_
        rcases List.mem_cons.mp hb with rfl | hb
        · exact .head _
        rcases List.mem_cons.mp hb with rfl | hb
        · exact .tail _ (.head _)
        · rw [List.mem_singleton.mp hb]
          exact .tail _ (.tail _ (.head _))
    have mtl : ∀ p ∈ tl1, p ∈ tl1 ++ (c.hs ++ own) := fun p hp => List.mem_append_left _ hp
    have mhs : ∀ p ∈ c.hs, p ∈ tl1 ++ (c.hs ++ own) := fun p hp => List.mem_append_right _ (List.mem_append_left _ hp)
    have mown : ∀ p ∈ own, p ∈ tl1 ++ (c.hs ++ own) := fun p hp => List.mem_append_right _ (List.mem_append_right _ hp)
    generalize tl1 ++ (c.hs ++ own) = own2 at N1 hoff1 mtl mhs mown
    have hvb := val_in a
    dsimp only
    k_with "getMethod ref" => (show wpAny _ _ (getMethod (.ref _) (PySem.Str.ofString "search") _) _ _ _; rename Fr _ _ _ _ => F9; have X9 : (Mine.hd.heap_1 w.params).In _ := Frag.In.keeps (by k_asm) F9.keep; refine getMethod_builtin ⟨_, X9 _ _ (by k_is), rfl⟩ pa_pat slot_pat type_pat (fun a e => by cases e; exact ⟨_, X9 _ _ (by k_is), rfl⟩) ?_; clear X9; dsimp only)
    have hi8 : i < 8 := by
      have e1 := (List.getElem?_eq_some_iff.mp ha).1
      omega
    have hsz : (refsOf c.hs).toArray.size ≤ sizeLine := by
      rw [List.size_toArray, List.length_map, I.hs.1, sizeLine_eq]; omega
    have hoffL : ∀ p ∈ own2, p.1 ≠ LH := fun p hp => hoff1 p hp LH (.tail _ (.tail _ (.head _)))
    k_with "call builtin:str.join" => (refine join_one (by is_list) hfl (by decide) ?_; intro t9 k9)
    k_with "call builtin:re.Pattern.search" => (rename Fr _ _ _ _ => F9; have X9 : (Mine.hd.heap_1 w.params).In _ := Frag.In.keeps (by k_asm) F9.keep; first | refine re_search_none codeV (X9 _ _ (by k_is)) rfl rfl (X9 _ _ (by k_is)) rfl (by kernel_rfl) hfv ?_ | refine re_search_none codeN (X9 _ _ (by k_is)) rfl rfl (X9 _ _ (by k_is)) rfl (by kernel_rfl) hfn ?_; clear X9)
    k_with "exec For Tuple Call cons nil" => refine Hold.mk ?_
    k_steps
    show wpAny _ _ _ _ _ _
    rename News _ _ _ _ => N9
    have zLH : @LT.lt Nat _ LH _ := Heap.lt_size (N9 (LH, _) (by k_mem)).1
    k_with_none
    k_with "getMethod ref" => (show wpAny _ _ (getMethod (.ref _) (PySem.Str.ofString "search") _) _ _ _; rename Fr _ _ _ _ => F9; have X9 : (Mine.hd.heap_1 w.params).In _ := Frag.In.keeps (by k_asm) F9.keep; refine getMethod_builtin ⟨_, X9 _ _ (by k_is), rfl⟩ pa_pat slot_pat type_pat (fun a e => by cases e; exact ⟨_, X9 _ _ (by k_is), rfl⟩) ?_; clear X9; dsimp only)
    have hi8 : i < 8 := by
      have e1 := (List.getElem?_eq_some_iff.mp ha).1
      omega
    have hsz : (refsOf c.hs).toArray.size ≤ sizeLine := by
      rw [List.size_toArray, List.length_map, I.hs.1, sizeLine_eq]; omega
    have hoffL : ∀ p ∈ own2, p.1 ≠ LH := fun p hp => hoff1 p hp LH (.tail _ (.tail _ (.head _)))
    k_with "call builtin:str.join" => (refine join_one (by is_list) hfl (by decide) ?_; intro t9 k9)
    k_with "call builtin:re.Pattern.search" => (rename Fr _ _ _ _ => F9; have X9 : (Mine.hd.heap_1 w.params).In _ := Frag.In.keeps (by k_asm) F9.keep; first | refine re_search_none codeV (X9 _ _ (by k_is)) rfl rfl (X9 _ _ (by k_is)) rfl (by kernel_rfl) hfv ?_ | refine re_search_none codeN (X9 _ _ (by k_is)) rfl rfl (X9 _ _ (by k_is)) rfl (by kernel_rfl) hfn ?_; clear X9)
    k_steps
    rename Fr _ _ _ _ => F8
    rename News _ _ _ _ => N8
    rename _ ∧ _ ∧ _ ∧ _ ∧ _ ∧ _ ∧ AllLt _ own2 => hlt
    obtain ⟨q1, q2, q3, qX, qd, qL, qA⟩ := hlt
    have off2 : ∀ p ∈ tl1, p.1 ≠ hG.objs.size := by
      intro p hp
      rcases off1 with off1 | rfl
      · exact Ne.symm (off1 _ (List.mem_append_right _ (List.mem_append_right _ hoI)) p hp)
      · exact I.ni p (List.mem_append_left _ hp)
    exact turn_end F8 N8 I ha FB1 off2 hoff1 mtl mhs mown ⟨oI, hoI⟩ qX qd qL qA (fun c' => by walk_at "same")
  · rintro c m h tk I F N
    clear F0 N0
    k_with_none
    have mtl : ∀ p ∈ c.tl, p ∈ c.tl ++ c.hs := fun p hp => List.mem_append_left _ hp
    have mhs : ∀ p ∈ c.hs, p ∈ c.tl ++ c.hs := fun p hp => List.mem_append_right _ hp
    generalize c.tl ++ c.hs = own2 at N mtl mhs
    k_with "getMethod ref" => (show wpAny _ _ (getMethod (.ref _) (PySem.Str.ofString "search") _) _ _ _; rename Fr _ _ _ _ => F9; have X9 : (Mine.hd.heap_1 w.params).In _ := Frag.In.keeps (by k_asm) F9.keep; refine getMethod_builtin ⟨_, X9 _ _ (by k_is), rfl⟩ pa_pat slot_pat type_pat (fun a e => by cases e; exact ⟨_, X9 _ _ (by k_is), rfl⟩) ?_; clear X9; dsimp only)
    k_with "call builtin:re.Pattern.search" => (rename Fr _ _ _ _ => F9; have X9 : (Mine.hd.heap_1 w.params).In _ := Frag.In.keeps (by k_asm) F9.keep; first | refine re_search_none codeN (X9 _ _ (by k_is)) rfl rfl (X9 _ _ (by k_is)) rfl (by kernel_rfl) w_abc ?_ | refine re_search_none codeN (X9 _ _ (by k_is)) rfl rfl (X9 _ _ (by k_is)) rfl (by kernel_rfl) (by decide +kernel) ?_; clear X9)
    k_with "eval ListComp" => refine Hold.mk ?_
    k_with "CompSrcT" => (refine Hold.mk ?_)
    k_with "CompSrc" => (refine Hold.mk ?_)
    k_with "storeName" => (show wpAny _ _ (storeName _ (PySem.Str.ofString "name") _) _ _ _; refine Hold.mk ?_)
    k_steps
    show wpAny _ _ _ _ _ _
    k_dflt (refine LCg.ListComp_U (F₀ := by k_asm) (by with_unfolding_all rfl) (by decide) (by rfl) (by decide) (by rfl) ?_)
    k_steps
    show wpAny _ _ _ _ _ _
    rename _ ∧ _ ∧ _ ∧ AllLt _ own2 => hlt
    have hnC : ∀ p ∈ own2, p.1 ≠ _ + 1 := fun p hp => Nat.ne_of_lt (Nat.lt_succ_of_lt (allLt_mem hlt.2.2.2 p hp))
    k_with_none
    k_with "getMethod ref" => (show wpAny _ _ (getMethod (.ref _) (PySem.Str.ofString "search") _) _ _ _; rename Fr _ _ _ _ => F9; have X9 : (Mine.hd.heap_1 w.params).In _ := Frag.In.keeps (by k_asm) F9.keep; refine getMethod_builtin ⟨_, X9 _ _ (by k_is), rfl⟩ pa_pat slot_pat type_pat (fun a e => by cases e; exact ⟨_, X9 _ _ (by k_is), rfl⟩) ?_; clear X9; dsimp only)
    k_with "call builtin:re.Pattern.search" => (rename Fr _ _ _ _ => F9; have X9 : (Mine.hd.heap_1 w.params).In _ := Frag.In.keeps (by k_asm) F9.keep; first | refine re_search_none codeN (X9 _ _ (by k_is)) rfl rfl (X9 _ _ (by k_is)) rfl (by kernel_rfl) w_abc ?_ | refine re_search_none codeN (X9 _ _ (by k_is)) rfl rfl (X9 _ _ (by k_is)) rfl (by kernel_rfl) (by decide +kernel) ?_; clear X9)
    k_with "eval ListComp" => refine Hold.mk ?_
    k_with "CompSrcT" => (refine Hold.mk ?_)
    k_with "CompSrc" => (refine Hold.mk ?_)
    k_steps
    show wpAny _ _ _ _ _ _
    k_dflt (refine LCt.ListComp_T (F₀ := by k_asm) (by with_unfolding_all rfl) (by decide) (by rfl) (by decide) (by rfl) ?_)
    k_steps
    show LCt.CompSrcT _ _ _ _ _ _ _ _ _ _ _ _ _ _ _
    rename Fr _ _ _ _ => F0
    rename News _ _ _ _ => N0
    have hssw : ss.length = ws.length := hw.length
    rw [hssw] at I
    have hsz : (refsOf c.hs).toArray.size = ws.length := by rw [List.size_toArray, List.length_map, I.hs.1]
    refine LCt.CompSrcT.ledger rfl F0 N0 (.tail _ (.tail _ (.tail _ (.head _)))) (by rw [hsz, sizeLine_eq]; omega) ?_
    intro g0
    rw [hsz]
    refine rest_fixedT (fun i ys => StrsAre ys ((ws.take i).map vtext)) ws.length (.inr ⟨_, .tail _ (.tail _ (.tail _ (.head _))), rfl, _, rfl⟩) ?_ ?_ ws.length 0 [] (by omega) .nil
    · intro i ys v I1 oI C1 oC D2 m₂ h tk E' hi8 hj hv hC hx F N off ne
      obtain ⟨⟨pa, po⟩, hp, rfl⟩ : ∃ p, c.hs[i]? = some p ∧ v = .ref p.1 := by
        rw [List.getElem?_toArray, List.getElem?_map] at hv
        obtain ⟨p, hp, e⟩ := Option.map_eq_some_iff.mp hv
        exact ⟨p, hp, e.symm⟩
      obtain ⟨a, ta, tb, ha, e⟩ := I.hs.2 i _ hp
      dsimp only at e hx
      subst e
      have hmem := mhs _ (List.mem_of_getElem? hp)
      have hlow := w_low a (hw8 a (List.mem_of_getElem? ha))
      clear F0 N0
      k_with_none
      k_with "subscriptTail" => (rename News _ _ _ _ => N9; refine item_tupleL (l := [.str a ta, .str (vtext a) tb]) (N9.isTup (by repeat (first | exact hmem | refine List.Mem.tail _ ?_))) (by decide) (by decide) (by rfl) (by rfl) ?_)
      have ha3 := w_len a (hw8 a (List.mem_of_getElem? ha))
      k_steps
      all_goals first | exact strs_mapS hj ha | (rename (_ == _) = false => hne9; rw [hlow] at hne9; exact absurd hne9 (by decide))
    · intro ys hj
      rw [List.take_length] at hj
      clear F0 N0
      intro D h tk F0 N0 offD
      k_with_none
      k_with "CompSrc" => (refine Hold.mk ?_)
      k_steps
      show LCg.CompSrc _ _ _ _ _ _ _ _ _ _ _ _ _ _
      rename Fr _ _ _ _ => F0
      rename News _ _ _ _ => N0
      have hyl : ys.toArray.size = ws.length := by rw [List.size_toArray, hj.length, List.length_map]
      refine LCg.CompSrc.ledger rfl F0 N0 (.head _) (by rw [hyl, sizeLine_eq]; omega) ?_
      intro g1
      rw [hyl]
      refine rest_fixed (fun i zs => IntsAre zs ((ws.take i).map valw)) ws.length (.inr ⟨_, .head _, rfl, _, rfl⟩) ?_ ?_ ws.length 0 [] (by omega) .nil
      · intro i zs v I1 oI C1 oC D2 m₂ h tk E' hi8 hjz hv hC hx F N off ne
        obtain ⟨x, tx, rfl, hx2⟩ := strs_at hj hv
        rw [List.getElem?_map] at hx2
        obtain ⟨a, ha, rfl⟩ := Option.map_eq_some_iff.mp hx2
        have hvb := val_in a
        clear F0 N0
        k_with_none
        k_steps
        exact ints_mapS hjz ha
      · intro zs hjz
        rw [List.take_length] at hjz
        clear F0 N0
        intro D2 h tk F0 N0 offD2
        k_with_none
        k_steps
        rename Fr _ _ _ _ => F6
        rename News _ _ _ _ => N6
        refine hret _ _ _ (fun b o hb e => F6.keep _ _ (G.sup _ _ (by simpa using hb) e)) (fun e => ?_) (fun e => ?_) ⟨_, rfl⟩
        · have hm9 := mtl (61, tabObj #[]) (by rw [I.e0 (by rw [e]; rfl)]; exact .head _)
          exact (N6 (61, tabObj #[]) (by repeat (first | exact hm9 | refine List.Mem.tail _ ?_))).1
        · refine G.freshU (I.e1 (List.length_pos_iff.mpr e) _ F6.keep fun p hp => ?_)
          have hm9 := mtl p hp
          exact (N6 p (by repeat (first | exact hm9 | refine List.Mem.tail _ ?_))).1
end Mine
namespace Mine
open PySem PySem.W PyProof.Rows PySem.Spec PySem.Calls
def NoFields (l : List (Addr × Obj)) : Prop := ∀ p ∈ l, ∀ vs, p.2.data ≠ .fields vs
/-- an object without fields stands off one with fields -/
theorem off_data {g h : Heap} {L : Addr} {led : List (Addr × Obj)} (N : News g L h led) {p q : Addr × Obj} (hp : p ∈ led) (hq : q ∈ led) (h1 : ∀ vs, p.2.data ≠ .fields vs) (h2 : ∃ vs, q.2.data = .fields vs) : p.1 ≠ q.1 := by
  intro e
  obtain ⟨vs, e2⟩ := h2
  have a := (N p hp).1
  have b := (N q hq).1
  rw [e, b] at a
  exact h1 vs ((congrArg Obj.data (Option.some.inj a)).symm.trans e2)
theorem full_tail4b {g h h' : Heap} {L : Addr} {m : Str → Option Value} {rest : List (Addr × Obj)} (F : Fr g L h m) (N : News g L h rest) (n54 : g.get? 54 = none) (hL : L ≠ 54) (hr : ∀ p ∈ rest, p.1 ≠ 54) (h61 : h'.get? 61 = some (tabObj #[]))
    (k : ∀ b x, b ≠ 54 → h.get? b = some x → h'.get? b = some x) (hf : Full54 h') :
    Fr g L h' m ∧ ∃ tl, News g L h' (rest ++ tl) ∧ FullBy4 g tl ∧ ∀ q ∈ tl, (∃ vs, q.2.data = .fields vs) ∧ q.1 ≠ 61 := by
  obtain ⟨oL, es, ep, hLo, hLd, r⟩ := F.ns
  have F' : Fr g L h' m := ⟨⟨oL, es, ep, k _ _ hL hLo, hLd, r⟩, fun b x q => k b x (fun z => by rw [z, n54] at q; cases q) (F.keep b x q), F.above⟩
  have N' : News g L h' rest := fun p hp => ⟨k _ _ (hr p hp) (N p hp).1, (N p hp).2⟩
  obtain ⟨c, hf1, rc, oc, vs, t, r0, r1, r2, r3⟩ := hf
  cases r0
  have hc61 : c ≠ 61 := by
    intro e
    rw [e, h61] at r1
    cases r1
    cases r2
    cases r3
  refine ⟨F', ?_⟩
  cases hc : g.get? c with
  | some x =>
    have e := F'.keep _ _ hc
    rw [r1] at e
    cases e
    refine ⟨[(54, tabObj #[rawInt 36, rawInt 4, .ref c])], fun p hp => ?_, fun h9 kg ht => ⟨c, ht _ (.head _), c, oc, vs, t, rfl, kg _ _ hc, r2, r3⟩, fun q hq => ?_⟩
    · rcases List.mem_append.mp hp with hp | hp
      · exact N' p hp
      · rw [List.mem_singleton.mp hp]; exact ⟨hf1, Ne.symm hL, n54⟩
    · rw [List.mem_singleton.mp hq]
      exact ⟨⟨_, rfl⟩, (by decide : (54 : Nat) ≠ 61)⟩
  | none =>
    refine ⟨[(54, tabObj #[rawInt 36, rawInt 4, .ref c]), (c, oc)], fun p hp => ?_, fun h9 kg ht => ⟨c, ht _ (.head _), c, oc, vs, t, rfl, ht _ (.tail _ (.head _)), r2, r3⟩, fun q hq => ?_⟩
    · rcases List.mem_append.mp hp with hp | hp
      · exact N' p hp
      · rcases List.mem_cons.mp hp with rfl | hp
        · exact ⟨hf1, Ne.symm hL, n54⟩
        · rw [List.mem_singleton.mp hp]
          refine ⟨r1, fun e => ?_, hc⟩
          have e : c = L := e
          obtain ⟨oL2, es2, ep2, hLo2, hLd2, _⟩ := F'.ns
          rw [← e, r1] at hLo2
          cases hLo2
          rw [r2] at hLd2
          cases hLd2
    · rcases List.mem_cons.mp hq with rfl | hq
      · exact ⟨⟨_, rfl⟩, (by decide : (54 : Nat) ≠ 61)⟩
      · rw [List.mem_singleton.mp hq]
        exact ⟨⟨_, r2⟩, hc61⟩
section
variable {w : World} {ls : List Str} {mean : ExcName → Option Value} {mg mb : Str → Option Value} {H0 : Heap} {A : Around} {s : Shared} {Q E : Value → Shared → Prop} {g : Heap} {L : Addr} {mm : Str → Option Value} {top own tl : List (Addr × Obj)}
theorem fig_turn (C : Core w ls mean mg mb H0) (a : Int) (ta tn ts : Nat) (ha : 0 ≤ a) (hk : nd 1 a ≤ 8)
    (F : Fr g L s.heap mm) (N : News g L s.heap (top ++ [(61, tabObj #[]), (54, tabObj #[])])) (st : H0.StaysIn g) (hh : A.handled = none) (hd : A.depth ≤ 150 + 400) (hu : A.units ≤ 10 * 150) (htop : NoFields top)
    (k : ∀ D vs h' tk tl4, Fr g L h' mm → News g L h' ((D, W.listOf (List.toArray vs) 0) :: (top ++ ((61, tabObj #[]) :: tl4))) → FullBy4 g tl4 → (∀ p ∈ (D, W.listOf (List.toArray vs) 0) :: top, ∀ q ∈ tl4, p.1 ≠ q.1) → (∀ q ∈ tl4, q.1 ≠ 61) → (∀ p ∈ top, p.1 < D) → 61 < D →
      IntsAre vs (fig 1 8 a) → Q (.ref D) { s with heap := h', toks := tk }) :
    wpAny (model pg w) A (call (.ref 272) [.int a ta, .int 1 tn, .int 8 ts]) Q E s := by
  have m61 : ((61 : Addr), tabObj #[]) ∈ top ++ [(61, tabObj #[]), (54, tabObj #[])] := List.mem_append_right _ (.head _)
  have m54 : ((54 : Addr), tabObj #[]) ∈ top ++ [(61, tabObj #[]), (54, tabObj #[])] := List.mem_append_right _ (.tail _ (.head _))
  obtain ⟨e1, e2, e3⟩ := N _ m54
  have sub : ∀ p ∈ top ++ [((61 : Addr), tabObj #[])], p ∈ top ++ [(61, tabObj #[]), (54, tabObj #[])] := fun p hp => by
    rcases List.mem_append.mp hp with hp | hp
    · exact List.mem_append_left _ hp
    · rw [List.mem_singleton.mp hp]; exact m61
  have hr : ∀ p ∈ top ++ [((61 : Addr), tabObj #[])], p.1 ≠ 54 := fun p hp => by
    rcases List.mem_append.mp hp with hp | hp
    · exact off_data N (List.mem_append_left _ hp) m54 (htop p hp) ⟨_, rfl⟩
    · rw [List.mem_singleton.mp hp]; decide
  refine fig_specV C a 1 8 ta tn ts ha (by decide) (by decide) hk (by decide) (by omega) A s Q E (fun b o e => F.keep b o (st b o e)) hh hd hu e1 trivial ?_
  rintro r h' tk kp hf ⟨D, vs, rfl, hD, hD', hi⟩
  obtain ⟨F', tl4, N', FB, hfl⟩ := full_tail4b F (fun p hp => N p (sub p hp)) e3 (Ne.symm e2) hr (kp _ _ (by decide) (N _ m61).1) kp hf
  have N2 : News g L h' (top ++ ((61, tabObj #[]) :: tl4)) := fun p hp => N' p (by
    rcases List.mem_append.mp hp with hp | hp
    · exact List.mem_append_left _ (List.mem_append_left _ hp)
    · rcases List.mem_cons.mp hp with rfl | hp
      · exact List.mem_append_left _ (List.mem_append_right _ (.head _))
      · exact List.mem_append_right _ hp)
  have N3 : News g L h' ((D, W.listOf (List.toArray vs) 0) :: (top ++ ((61, tabObj #[]) :: tl4))) := fun p hp => by
    rcases List.mem_cons.mp hp with rfl | hp
    · refine ⟨hD', Nat.ne_of_gt (Nat.lt_of_lt_of_le F.ns.lt hD), ?_⟩
      cases q : g.get? D with
      | none => rfl
      | some x => exact absurd (Nat.lt_of_lt_of_le (Heap.lt_size (F.keep _ _ q)) hD) (Nat.lt_irrefl _)
    · exact N2 p hp
  have hlt : ∀ p ∈ top, p.1 < D := fun p hp => Nat.lt_of_lt_of_le (Heap.lt_size (N p (List.mem_append_left _ hp)).1) hD
  refine k D vs h' tk tl4 F' N3 FB (fun p hp q hq => ?_) (fun q hq => (hfl q hq).2) hlt (Nat.lt_of_lt_of_le (Heap.lt_size (N _ m61).1) hD) hi
  refine off_data N3 ?_ (.tail _ (List.mem_append_right _ (.tail _ hq))) ?_ (hfl q hq).1
  · rcases List.mem_cons.mp hp with rfl | hp
    · exact .head _
    · exact .tail _ (List.mem_append_left _ hp)
  · rcases List.mem_cons.mp hp with rfl | hp
    · intro vs e; cases e
    · exact htop p hp
theorem sc_turn (C : Core w ls mean mg mb H0) (a : Int) (ta : Nat) (h0 : 0 ≤ a) (ha : a < 65536)
    (F : Fr g L s.heap mm) (N : News g L s.heap (top ++ (tl ++ own))) (st : H0.StaysIn g) (hh : A.handled = none) (hd : A.depth ≤ 130 + 400) (hu : A.units ≤ 10 * 130) (htop : NoFields top) (hown : ∀ q ∈ own, q.1 ≠ 61) (F4 : FullBy4 g own)
    (h01 : tl = [(61, tabObj #[])] ∨ FullBy g tl)
    (k : ∀ D kk vs h' tk tl', Fr g L h' mm → News g L h' ((D, W.listOf (List.toArray vs) kk) :: (top ++ (tl' ++ own))) → FullBy g tl' → ((∀ p ∈ top, ∀ q ∈ tl', p.1 ≠ q.1) ∨ tl' = tl) → (∀ p ∈ top ++ own, p.1 ≠ D) →
      IntsAre vs (scl a) → Q (.ref D) { s with heap := h', toks := tk }) :
    wpAny (model pg w) A (call (.ref 294) [.int a ta]) Q E s := by
  have f54 : Full54 s.heap := F4 s.heap F.keep fun p hp => (N p (List.mem_append_right _ (List.mem_append_right _ hp))).1
  have sub : ∀ p ∈ top ++ own, p ∈ top ++ (tl ++ own) := fun p hp => by
    rcases List.mem_append.mp hp with hp | hp
    · exact List.mem_append_left _ hp
    · exact List.mem_append_right _ (List.mem_append_right _ hp)
  have addD : ∀ {D : Addr} {o : Obj} {h' : Heap} {l : List (Addr × Obj)}, Fr g L h' mm → News g L h' l → s.heap.get? D = none → h'.get? D = some o → News g L h' ((D, o) :: l) := by
    intro D o h' l F' N' hn e p hp
    rcases List.mem_cons.mp hp with rfl | hp
    · refine ⟨e, fun q => ?_, ?_⟩
      · have q : D = L := q
        obtain ⟨oL, _, _, eL, _⟩ := F.ns
        rw [q, eL] at hn; cases hn
      · cases q : g.get? D with
        | none => rfl
        | some x => rw [F.keep _ _ q] at hn; cases hn
    · exact N' p hp
  have offD : ∀ {D : Addr}, s.heap.get? D = none → ∀ p ∈ top ++ own, p.1 ≠ D := by
    intro D hn p hp e
    have := (N p (sub p hp)).1
    rw [e, hn] at this; cases this
  rcases h01 with e1 | hF
  · subst e1
    have hr : ∀ p ∈ top ++ own, p.1 ≠ 61 := fun p hp => by
      rcases List.mem_append.mp hp with hp | hp
      · exact off_data N (q := ((61 : Addr), tabObj #[])) (List.mem_append_left _ hp) (List.mem_append_right _ (.head _)) (htop p hp) ⟨_, rfl⟩
      · exact hown p hp
    refine SpecU.use2 (top ++ own) (sc_specU C a ta h0 ha) F N st hh hd hu (List.mem_append_right _ (.head _)) sub hr f54 ?_
    rintro r h' tk tl' F' N' FB off _ ⟨D, kk, vs, rfl, hn, e, hi⟩
    refine k D kk vs h' tk tl' F' (addD F' (fun p hp => N' p ?_) hn e) FB (.inl fun p hp q hq => off p (List.mem_append_left _ hp) q hq) (offD hn) hi
    rcases List.mem_append.mp hp with hp | hp
    · exact List.mem_append_left _ (List.mem_append_left _ hp)
    · rcases List.mem_append.mp hp with hp | hp
      · exact List.mem_append_right _ hp
      · exact List.mem_append_left _ (List.mem_append_right _ hp)
  · refine SpecP.use (sc_specP C a ta h0 ha) F N st hh hd hu ⟨f54, (hF s.heap F.keep fun p hp => (N p (List.mem_append_right _ (List.mem_append_left _ hp))).1).full⟩ ?_
    rintro r h' tk kp F' N' ⟨D, kk, vs, rfl, hn, e, hi⟩
    exact k D kk vs h' tk tl F' (addD F' N' hn e) hF (.inr rfl) (offD hn) hi
end
end Mine
namespace Mine
open PySem PySem.W PyProof.Rows PySem.Spec PySem.Calls
section
variable {w : World} {ls : List Str} {mean : ExcName → Option Value} {mg mb : Str → Option Value} {H0 : Heap} {A : Around} {s : Shared} {Q E : Value → Shared → Prop} {g : Heap} {L : Addr} {mm : Str → Option Value} {top own tl : List (Addr × Obj)}
theorem tot_turn (C : Core w ls mean mg mb H0) (l : Addr) (ss : List Value) (ws : List Str) (hw : StrsAre ss ws) (hw8 : ∀ a ∈ ws, a ∈ words8) (hlen : ws.length ≤ 8)
    (F : Fr g L s.heap mm) (N : News g L s.heap (top ++ ((61, tabObj #[]) :: own))) (st : H0.StaysIn g) (hh : A.handled = none) (hd : A.depth ≤ 97 + 400) (hu : A.units ≤ 10 * 97) (outer : List Env) (hfr : A.frames = some outer) (hff : s.heap.FunFrames {} outer)
    (htop : NoFields top) (hown : ∀ q ∈ own, q.1 ≠ 61) (hl : s.heap.IsList l ss.toArray)
    (k : ∀ t h' tk tl', Fr g L h' mm → News g L h' (top ++ (tl' ++ own)) → (tl' = [(61, tabObj #[])] ∨ FullBy g tl') → (∀ p ∈ top, ∀ q ∈ tl', p.1 ≠ q.1) → Q (.int (ws.map valw).sum t) { s with heap := h', toks := tk }) :
    wpAny (model pg w) A (call (.ref 282) [.ref l]) Q E s := by
  have m61 : ((61 : Addr), tabObj #[]) ∈ top ++ ((61, tabObj #[]) :: own) := List.mem_append_right _ (.head _)
  obtain ⟨e1, e2, e3⟩ := N _ m61
  have sub : ∀ p ∈ top ++ own, p ∈ top ++ ((61, tabObj #[]) :: own) := fun p hp => by
    rcases List.mem_append.mp hp with hp | hp
    · exact List.mem_append_left _ hp
    · exact List.mem_append_right _ (.tail _ hp)
  have ht : ∀ p ∈ top, p.1 ≠ 61 := fun p hp => off_data N (q := ((61 : Addr), tabObj #[])) (List.mem_append_left _ hp) m61 (htop p hp) ⟨_, rfl⟩
  have hr : ∀ p ∈ top ++ own, p.1 ≠ 61 := fun p hp => by
    rcases List.mem_append.mp hp with hp | hp
    · exact ht p hp
    · exact hown p hp
  refine tot_spec C l ss ws hw hw8 hlen A outer s Q E (fun b o e => F.keep b o (st b o e)) hh hd hu hfr hff e1 hl ?_
  rintro r h' tk kp hnil hne ⟨t, rfl⟩
  by_cases hws : ws = []
  · have e9 := hnil hws
    have kk : Keep s.heap h' := fun b o e => by
      by_cases hb : b = 61
      · subst hb
        rw [e1] at e
        rw [e9, e]
      · exact kp b o hb e
    refine k t h' tk [(61, tabObj #[])] (F.keeps kk) (fun p hp => ⟨kk _ _ (N p hp).1, (N p hp).2⟩) (.inl rfl) fun p hp q hq => ?_
    rw [List.mem_singleton.mp hq]
    exact ht p hp
  · obtain ⟨F', tl', N', FB, off⟩ := full_tail F (fun p hp => N p (sub p hp)) e3 (Ne.symm e2) hr e1 kp (hne hws)
    refine k t h' tk tl' F' (fun p hp => N' p ?_) (.inr FB) fun p hp q hq => off p (List.mem_append_left _ hp) q hq
    rcases List.mem_append.mp hp with hp | hp
    · exact List.mem_append_left _ (List.mem_append_left _ hp)
    · rcases List.mem_append.mp hp with hp | hp
      · exact List.mem_append_right _ hp
      · exact List.mem_append_left _ (List.mem_append_right _ hp)
end
end Mine
namespace Mine
open PySem PySem.W PyProof.Rows PySem.Spec PySem.Calls
theorem nd1 {a : Int} (h0 : 0 ≤ a) (h : a < 256) : nd 1 a ≤ 8 := by
  unfold nd
  have h1 : Builtin.Int.intBits a ≤ 8 := intBits_le_iff.mpr (by omega)
  have e : ((Builtin.Int.intBits a : Int) + 1 - 1).fdiv 1 = ((Builtin.Int.intBits a : Int) + 1 - 1) / 1 := Int.fdiv_eq_ediv_of_nonneg _ (by omega)
  rw [e]; omega
theorem fig1_len {a : Int} (h0 : 0 ≤ a) (h : a < 256) : (fig 1 8 a).length = 8 := by
  have := nd1 h0 h
  rw [fig, List.length_append, dg_length, List.length_replicate]; omega
def pick (k : Int) : Str := words8.getD k.toNat PySem.Str.empty
def chosenL (ns : List Int) : List Str := (sel ns 1).map pick
def totalL (ns : List Int) : Int := ((chosenL ns).map valw).sum
def heavyL (sc : List Int) : List Str := words8.filter fun a => decide (0 < wgt a sc)
def aloneB (tot : Int) : Bool := amany (words8.map valw) tot == 1
def lawB (ns : List Int) : Bool := (aloneB (totalL ns) == (heavyL (scl (totalL ns)) == chosenL ns)) && ((heavyL (scl (totalL ns)) == chosenL ns) == !box (tabOf words8) ns)
def inB (ns : List Int) : Bool := decide (0 ≤ totalL ns) && decide (totalL ns ≤ 17480) && (scl (totalL ns)).all fun x => decide (-1000 ≤ x) && decide (x ≤ 1000)
def okM (m : Nat) : Bool := inB (fig 1 8 m) && lawB (fig 1 8 m)
theorem ok_0 : ∀ m < 32, okM (0 + m) = true := by decide +kernel
theorem ok_1 : ∀ m < 32, okM (32 + m) = true := by decide +kernel
theorem ok_2 : ∀ m < 32, okM (64 + m) = true := by decide +kernel
theorem ok_3 : ∀ m < 32, okM (96 + m) = true := by decide +kernel
theorem ok_4 : ∀ m < 32, okM (128 + m) = true := by decide +kernel
theorem ok_5 : ∀ m < 32, okM (160 + m) = true := by decide +kernel
theorem ok_6 : ∀ m < 32, okM (192 + m) = true := by decide +kernel
theorem ok_7 : ∀ m < 32, okM (224 + m) = true := by decide +kernel
theorem ok_all {a : Int} (h0 : 0 ≤ a) (h : a < 256) : inB (fig 1 8 a) = true ∧ lawB (fig 1 8 a) = true := by
  obtain ⟨m, rfl⟩ := Int.eq_ofNat_of_zero_le h0
  have hm : m < 256 := by omega
  have key : okM m = true := by
    by_cases c0 : m < 32
    · have e := ok_0 m c0
      rwa [Nat.zero_add] at e
    by_cases c1 : m < 64
    · have e := ok_1 (m - 32) (by omega)
      rwa [show 32 + (m - 32) = m by omega] at e
    by_cases c2 : m < 96
    · have e := ok_2 (m - 64) (by omega)
      rwa [show 64 + (m - 64) = m by omega] at e
    by_cases c3 : m < 128
    · have e := ok_3 (m - 96) (by omega)
      rwa [show 96 + (m - 96) = m by omega] at e
    by_cases c4 : m < 160
    · have e := ok_4 (m - 128) (by omega)
      rwa [show 128 + (m - 128) = m by omega] at e
    by_cases c5 : m < 192
    · have e := ok_5 (m - 160) (by omega)
      rwa [show 160 + (m - 160) = m by omega] at e
    by_cases c6 : m < 224
    · have e := ok_6 (m - 192) (by omega)
      rwa [show 192 + (m - 192) = m by omega] at e
    by_cases c7 : m < 256
    · have e := ok_7 (m - 224) (by omega)
      rwa [show 224 + (m - 224) = m by omega] at e
    omega
  exact Bool.and_eq_true_iff.mp key
end Mine
namespace Mine
open PySem PySem.W PyProof.Rows PySem.Spec PySem.Calls PyProof.V PySem.SeqAt
theorem readsAll_of_strs {h : Heap} : ∀ {vs : List Value} {ts : List Str}, StrsAre vs ts → ReadsAll h vs (ts.map PyData.str) []
  | _, _, .nil => .nil
  | _, _, .cons k t r => by
    have := ReadsAll.cons (Reads.str (h := h) k t) (readsAll_of_strs (h := h) r)
    simpa using this
theorem reads_of_strs {h : Heap} {a : Addr} {vs : List Value} {ts : List Str} (hl : h.IsList a vs.toArray) (hi : StrsAre vs ts) : Reads h (.ref a) (.list (ts.map PyData.str)) [a] := by
  obtain ⟨o, ho, hc, n, hd⟩ := hl
  exact Reads.list ho hc hd (by simpa using readsAll_of_strs hi)
theorem canLayAll0_strs : ∀ ts : List Str, (∀ t ∈ ts, PyData.strOk t = true) → PyData.canLayAll0 (ts.map PyData.str) = true
  | [], _ => by simp [PyData.canLayAll0]
  | n :: r, h => by simp [PyData.canLayAll0, PyData.canLay0, canLayAll0_strs r fun t ht => h t (.tail _ ht), h n (.head _)]
theorem depthAll_strs : ∀ ts : List Str, PyData.depthAll (ts.map PyData.str) ≤ 1
  | [] => by simp [PyData.depthAll]
  | n :: r => by
    have := depthAll_strs r
    simp only [List.map_cons, PyData.depthAll, PyData.depth]
    omega
theorem shaped_strs (ts : List Str) (hok : ∀ t ∈ ts, PyData.strOk t = true) : shaped (.list (ts.map PyData.str)) = true := by
  have h1 := depthAll_strs ts
  have h2 : PyData.depth (.list (ts.map PyData.str)) ≤ 64 := by simp only [PyData.depth]; omega
  show (PyData.canLay0 (.list (ts.map PyData.str)) && decide (PyData.depth (.list (ts.map PyData.str)) ≤ 64)) = true
  rw [Bool.and_eq_true]
  exact ⟨by simp only [PyData.canLay0]; exact canLayAll0_strs ts hok, decide_eq_true h2⟩
theorem noMix_strs : ∀ ns ms : List Str, noMixAll (ns.map PyData.str) (ms.map PyData.str) = true
  | [], [] => by simp [noMixAll]
  | [], _ :: _ => by simp [noMixAll]
  | _ :: _, [] => by simp [noMixAll]
  | _ :: r, _ :: q => by simp [noMixAll, noMix, noMix_strs r q]
theorem same_strs : ∀ ns ms : List Str, PySem.Spec.sameAll (ns.map PyData.str) (ms.map PyData.str) = decide (ns = ms)
  | [], [] => by simp [PySem.Spec.sameAll]
  | [], _ :: _ => by simp [PySem.Spec.sameAll]
  | _ :: _, [] => by simp [PySem.Spec.sameAll]
  | n :: r, k :: q => by
    simp only [List.map_cons, PySem.Spec.sameAll, PySem.Spec.same, same_strs r q]
    by_cases h : n = k <;> simp [h]
theorem eq_strs {prog : Program} {w : World} {A : Around} {E : Value → Shared → Prop} {s : Shared} {a b : Addr} {vs us : List Value} {ns ms : List Str} {Q : Value → Shared → Prop} (hl : s.heap.IsList a vs.toArray) (hi : StrsAre vs ns) (hl' : s.heap.IsList b us.toArray) (hi' : StrsAre us ms) (hn : ∀ t ∈ ns, PyData.strOk t = true) (hm : ∀ t ∈ ms, PyData.strOk t = true) (hu : A.units + 64 < cLine)
    (h : Q (.bool (decide (ns = ms))) s) : wpAny (model prog w) A (compareOp .Eq (.ref a) (.ref b)) Q E s :=
  eq_dataH_same (reads_of_strs hl hi) (reads_of_strs hl' hi') (shaped_strs ns hn) (shaped_strs ms hm) hu (by simp only [noMix]; exact noMix_strs ns ms) (by simp only [PySem.Spec.same]; rw [same_strs]; exact h)
theorem strs_snoc9 : ∀ {vs : List Value} {ts : List Str} {x : Str} {t : Tok}, StrsAre vs ts → StrsAre (vs ++ [.str x t]) (ts ++ [x])
  | _, _, x, t, .nil => .cons x t .nil
  | _, _, x, t, .cons y u h => .cons y u (strs_snoc9 h)
theorem fs_yes {i : Nat} {α : Type} {xs : List α} {x : α} {ys : List Value} {t : Nat} {p : α → Bool} {f : α → Str} (h : StrsAre ys (((xs.take i).filter p).map f)) (e : xs[i]? = some x) (hp : p x = true) : StrsAre (ys ++ [.str (f x) t]) (((xs.take (i + 1)).filter p).map f) := by
  rw [List.take_add_one, e, List.filter_append]
  simp only [Option.toList_some, List.filter_cons, hp, if_true, List.filter_nil, List.map_append, List.map_cons, List.map_nil]
  exact strs_snoc9 h
theorem fs_no {i : Nat} {α : Type} {xs : List α} {x : α} {ys : List Value} {p : α → Bool} {f : α → Str} (h : StrsAre ys (((xs.take i).filter p).map f)) (e : xs[i]? = some x) (hp : p x = false) : StrsAre ys (((xs.take (i + 1)).filter p).map f) := by
  rw [List.take_add_one, e, List.filter_append]
  simpa [hp] using h
end Mine
namespace Mine
open PySem PySem.W PyProof.Rows PySem.Spec PySem.Calls
theorem clrD21 : True := by
  w_top off
  k_with_none
  trivial
local macro_rules | `(tactic| walk_at $s:str) => `(tactic| k_extra $s)
local macro_rules | `(tactic| walk_at "same") => `(tactic| repeat' (first | exact List.forall_mem_nil _ | refine List.forall_mem_cons.mpr ⟨by with_unfolding_all rfl, ?_⟩))
local macro_rules | `(tactic| walk_at "enterP") => `(tactic| k_dflt (refine' enterP ?kC0 ?kS0 ?k6 ?k7 ?k8 ?k9 ?kB ?_ ?c2 ?c3 ?c4 ?c5; (case kC0 => assumption); (case kS0 => assumption); (case k6 => k_is); (case k7 => k_is); (case k8 => decide); (case k9 => first | exact BindsTo.of_eq rfl | (refine' kp_binds ?kx ?ke; (case kx => exact Frag.In.keeps (Core.X (by assumption)) (by assumption)); (case ke => exact fun _ => rfl))); (case c5 => decide); (case kB => exact locs rfl); (case c2 => exact rfl); (case c3 => exact rfl); (case c4 => exact rfl); k_whole; intro L' h' X' T' C1' C2' F' N'; (try dsimp only); (try k_fold)))
local macro_rules | `(tactic| walk_at "enterX0") => `(tactic| k_dflt (refine' enterX0 ?kC0 ?kS0 ?ko ?kd ?k7 ?k8 ?k9 ?kB ?_ ?c2 ?c3 ?c4 ?c5; (case kC0 => assumption); (case kS0 => assumption); (case ko => assumption); (case kd => exact rfl); (case k7 => assumption); (case k8 => first | decide | (show _ < 1000; omega)); (case k9 => exact BindsTo.of_eq rfl); (case c5 => decide); (case kB => exact locs rfl); (case c2 => exact rfl); (case c3 => exact rfl); (case c4 => exact rfl); k_whole; intro L' h' X' T' C1' C2' F' N'; (try dsimp only); (try k_fold)))
local macro_rules | `(tactic| walk_at "enterC") => `(tactic| k_dflt (refine' enterC ?kC0 ?kS0 ?kn ?kt ?k6 ?k7 ?k8 ?k9 ?kB ?kD ?_ ?c2 ?c3 ?c4; (case kC0 => assumption); (case kS0 => assumption); (case kn => assumption); (case kt => assumption); (case k6 => k_is); (case k7 => k_is); (case k8 => decide); (case k9 => first | exact BindsTo.of_eq rfl | (refine' kp_binds ?kx ?ke; (case kx => exact Frag.In.keeps (Core.X (by assumption)) (by assumption)); (case ke => exact fun _ => rfl))); (case kB => exact rfl); (case kD => decide +kernel); (case c2 => exact rfl); (case c3 => exact rfl); (case c4 => exact rfl); k_whole; intro g' L' h' tk' cells' G' X' T' C1' C2' F' N' Y' l1; (try k_lt l1); k_cells Y'; (try simp only [List.cons_append, List.nil_append] at N'); (try dsimp only); (try k_fold)))
local macro_rules | `(tactic| walk_at "enterPt") => `(tactic| k_dflt (refine' enterPt ?kC0 ?kS0 ?kn ?kt ?k6 ?k7 ?k8 ?k9 ?kB ?_ ?c2 ?c3 ?c4 ?c5; (case kC0 => assumption); (case kS0 => assumption); (case kn => assumption); (case kt => assumption); (case k6 => k_is); (case k7 => k_is); (case k8 => decide); (case k9 => first | exact BindsTo.of_eq rfl | (refine' kp_binds ?kx ?ke; (case kx => exact Frag.In.keeps (Core.X (by assumption)) (by assumption)); (case ke => exact fun _ => rfl))); (case c5 => decide); (case kB => exact locs rfl); (case c2 => exact rfl); (case c3 => exact rfl); (case c4 => exact rfl); k_whole; intro g' L' h' G' X' T' C1' C2' F' N' l1; (try k_lt l1); (try dsimp only); (try k_fold)))


local macro_rules | `(tactic| k_room) => `(tactic| (show _ < 1000; exact (Nat.le_of_ble_eq_true rfl)))
local macro_rules | `(tactic| k_all) => `(tactic| assumption)
theorem fmod256 (x : Int) : 0 ≤ x.fmod 256 ∧ x.fmod 256 < 256 := by
  rw [Int.fmod_eq_emod_of_nonneg _ (by decide)]
  omega
theorem nf_cons {p : Addr × Obj} {l : List (Addr × Obj)} (h : ∀ vs, p.2.data ≠ .fields vs) (hl : NoFields l) : NoFields (p :: l) := List.forall_mem_cons.mpr ⟨h, hl⟩
theorem pick_mem {k : Int} (h : 0 ≤ k ∧ k < 8) : pick k ∈ words8 := by
  have key : ∀ n < 8, words8.getD n PySem.Str.empty ∈ words8 := by decide +kernel
  exact key k.toNat (by omega)
theorem chosen_mem {ns : List Int} {a : Str} (h : a ∈ chosenL ns) : a ∈ words8 := by
  obtain ⟨k, hk, rfl⟩ := List.mem_map.mp h
  exact pick_mem (sel_mem hk)
theorem chosen_len (ns : List Int) : (chosenL ns).length ≤ 8 := by
  rw [chosenL, List.length_map]; exact sel_len ns 1
theorem w_ok : ∀ a ∈ words8, PyData.strOk a = true := by decide +kernel
theorem w_small : ∀ x ∈ words8.map valw, 0 ≤ x ∧ x ≤ 10000 := by decide +kernel
theorem heavy_mem {sc : List Int} {a : Str} (h : a ∈ heavyL sc) : a ∈ words8 := (List.mem_filter.mp h).1
theorem words_open {g h : Heap} {L lw : Addr} {a : Addr × Obj} {rest : List (Addr × Obj)} {t0 t1 t2 t3 t4 t5 t6 t7 : Tok}
    (N : News g L h (a :: (lw, W.listOf #[.str (Str.ofString "abc") t0, .str (Str.ofString "Abc") t1, .str (Str.ofString "aBc") t2, .str (Str.ofString "ABc") t3, .str (Str.ofString "abC") t4, .str (Str.ofString "AbC") t5, .str (Str.ofString "aBC") t6, .str (Str.ofString "ABC") t7] 0) :: rest)) :
    ∃ wvs, StrsAre wvs words8 ∧ News g L h (a :: (lw, W.listOf (List.toArray wvs) 0) :: rest) :=
  ⟨[.str (Str.ofString "abc") t0, .str (Str.ofString "Abc") t1, .str (Str.ofString "aBc") t2, .str (Str.ofString "ABc") t3, .str (Str.ofString "abC") t4, .str (Str.ofString "AbC") t5, .str (Str.ofString "aBC") t6, .str (Str.ofString "ABC") t7],
    .cons _ _ (.cons _ _ (.cons _ _ (.cons _ _ (.cons _ _ (.cons _ _ (.cons _ _ (.cons _ _ .nil))))))), N⟩
theorem law_holds : PySem.Challenge.rw_sn0079_01.Holds := Mine.hd (by
  k_go0
  rename Frag.In _ _ => X0
  rename Top _ _ _ _ _ _ => T0
  rename Fr _ _ _ _ => F0
  rename News _ _ _ _ => N0
  rename IntsAre _ _ => hI
  rename_i w s0 s1 mg mb G Y fa oo pm cd doc ho hcd hg X1 V1 T1 B1 TE TW sc hs hlay0 hL1 hr1 hl2 as1 as2 la vs0 as3 hLa ra w1 r0 hr hco1 hco2 hDD h1 tk1 w3 w2 w1o lf1 lf2 rt X00 K9 hCd l0
  have C := Core.mk X0 T0 hCd codeHd (N0 (61, tabObj #[]) (by k_mem)).2.2 (N0 (54, tabObj #[]) (by k_mem)).2.2
  dsimp only at F0 N0 lf1 lf2 rt ⊢
  k_with_none
  k_with "call ref" => (show wpAny _ _ (call (.ref 272) _ _) _ _ _; refine Hold.mk ?_)
  k_steps
  show wpAny _ _ _ _ _ _
  rename Fr _ _ _ _ => F1
  rename News _ _ _ _ => N1
  rename_i g2 L2 hA B2 X2 T2 tkA lw hB F2 N2 l1A Tc kX hC oC1 dC1 Dsl wsl hD F3 N3 hIs hCs hLs l1B hE tkE tE
  obtain ⟨wvs, hww, N5⟩ := words_open N1
  clear N1
  obtain ⟨hm0, hm1⟩ := fmod256 (234 + (List.take 12 sc).sum)
  generalize (234 + (List.take 12 sc).sum).fmod 256 = m at hm0 hm1 ⊢
  refine fig_turn C m _ _ _ hm0 (nd1 hm0 hm1) (top := [_, _, _, _, _]) F1 N5 (fun b o e => e) rfl ?_ ?_ ?_ ?_
  · exact Nat.le_of_ble_eq_true rfl
  · exact Nat.le_of_ble_eq_true rfl
  · exact nf_cons (by intro vs e; cases e) (nf_cons (by intro vs e; cases e) (nf_cons (by intro vs e; rw [lf1] at e; cases e) (nf_cons (by intro vs e; rw [lf2] at e; cases e) (nf_cons (by intro vs e; rw [dC1] at e; cases e) (List.forall_mem_nil _)))))
  intro lm vm h4 tk4 tl4 F4 N4 FB4 off4 n61 ltm lt61 hIm
  simp only [List.cons_append, List.nil_append] at N4 off4 ltm
  have hlen := fig1_len hm0 hm1
  obtain ⟨hin, hlaw⟩ := ok_all hm0 hm1
  generalize fig 1 8 m = ns at hIm hlen hin hlaw
  have q3 : @LT.lt Nat _ (s1.heap.objs.size + 1 + 1 + 1) lm := ltm (_, w3) (by k_mem)
  have q2 : @LT.lt Nat _ (s1.heap.objs.size + 1 + 1) lm := ltm (_, w2) (by k_mem)
  have q1 : @LT.lt Nat _ (s1.heap.objs.size + 1) lm := ltm (_, oC1) (by k_mem)
  have o3 : ∀ q ∈ tl4, q.1 ≠ s1.heap.objs.size + 1 + 1 + 1 := fun q hq => Ne.symm (off4 (_, w3) (by k_mem) q hq)
  have o2 : ∀ q ∈ tl4, q.1 ≠ s1.heap.objs.size + 1 + 1 := fun q hq => Ne.symm (off4 (_, w2) (by k_mem) q hq)
  try clear F1
  try clear N5
  k_with_none
  k_with "exec Assign cons ListComp" => (k_dflt (refine LCt.Assign_ListComp_T (F₀ := by k_asm) (by rfl) (by with_unfolding_all rfl) (by with_unfolding_all rfl) (by decide) (by rfl) (by decide) (by rfl) (by rfl) (by rfl) ?_))
  k_with "CompSrcT" => (refine Hold.mk ?_)
  k_steps
  show LCt.CompSrcT _ _ _ _ _ _ _ _ _ _ _ _ _ _ _
  rename Fr _ _ _ _ => F0
  rename News _ _ _ _ => N0
  refine LCt.CompSrcT.range (n := 8) rfl F0 N0 (by assumption) (by decide) (by rfl) (by rw [sizeLine_eq]; omega) ?_
  intro gK
  refine rest_fixedT (fun i ys => StrsAre ys (((idx8.take i).filter fun k => ns.getD k.toNat 0 == 1).map pick)) 8 trivial ?_ ?_ 8 0 [] rfl .nil
  · intro i ys v I oI C1 oC D2 m₂ h tk E' hi8 hj hv hCo hx F N off ne
    obtain ⟨t, rfl⟩ := hv
    rw [Int.zero_add] at hx
    have hn := idx_at hi8
    clear F0 N0
    k_with_none
    k_with "subscriptTail" => refine Hold.mk ?_
    k_steps
    · show wpAny _ _ (subscriptTail _ _ (.ref lw) _) _ _ _
      rename News _ _ _ _ => N9
      refine KTb.item_list (ws := words8) (N9.isList (by k_mem)) hww ?_ ?_ ?_ ?_
      · omega
      · show (i : Int) < 8; omega
      · omega
      intro t1 h9
      k_steps
      exact fs_yes (f := pick) hj hn (beq_iff_eq.mpr (by first | assumption | omega))
    · exact fs_no hj hn (beq_eq_false_iff_ne.mpr (by first | assumption | omega))
  · intro ysC hch
    have hch : StrsAre ysC (chosenL ns) := hch
    clear F0 N0
    intro DC h tk F0 N0 offC
    k_with_none
    k_with "call ref" => (show wpAny _ _ (call (.ref 282) _ _) _ _ _; refine Hold.mk ?_)
    k_steps
    show wpAny _ _ _ _ _ _
    rename Fr _ _ _ _ => F1
    rename News _ _ _ _ => N1
    rename Obj.data _ = Data.cell (some (Value.ref lm)) => dC2
    refine tot_turn C DC ysC (chosenL ns) hch (fun a ha => chosen_mem ha) (chosen_len ns) (top := [_, _, _, _, _, _, _]) (own := tl4) F1 N1 (fun b o e => e) rfl ?_ ?_ [_] rfl ?_ ?_ n61 (N1.isList (.head _)) ?_
    · exact Nat.le_of_ble_eq_true rfl
    · exact Nat.le_of_ble_eq_true rfl
    · exact Heap.FunFrames.cons (by show ScopeKind.function ≠ ScopeKind.module; decide) rfl F1.ns rfl trivial
    · exact nf_cons (by intro vs e; cases e) (nf_cons (by intro vs e; cases e) (nf_cons (by intro vs e; cases e) (nf_cons (by intro vs e; cases e) (nf_cons (by intro vs e; rw [lf1] at e; cases e) (nf_cons (by intro vs e; rw [dC2] at e; cases e) (nf_cons (by intro vs e; rw [dC1] at e; cases e) (List.forall_mem_nil _)))))))
    intro t5 h5 tk5 tl5 F5 N5 T5 off5
    simp only [List.cons_append, List.nil_append] at N5
    try clear F1
    try clear N1
    rw [show ((chosenL ns).map valw).sum = totalL ns from rfl]
    simp only [inB, Bool.and_eq_true, decide_eq_true_eq, List.all_eq_true] at hin
    obtain ⟨⟨ht0, ht1⟩, hsc⟩ := hin
    unfold lawB at hlaw
    generalize totalL ns = tot at ht0 ht1 hsc hlaw ⊢
    k_with_none
    k_with "call ref" => (show wpAny _ _ (call (.ref 294) _ _) _ _ _; refine Hold.mk ?_)
    k_steps
    show wpAny _ _ _ _ _ _
    rename Fr _ _ _ _ => F1
    rename News _ _ _ _ => N1
    refine sc_turn C tot _ ht0 (by omega) (top := [_, _, _, _, _, _, _]) (tl := tl5) (own := tl4) F1 N1 (fun b o e => e) rfl ?_ ?_ ?_ n61 FB4 T5 ?_
    · exact Nat.le_of_ble_eq_true rfl
    · exact Nat.le_of_ble_eq_true rfl
    · exact nf_cons (by intro vs e; cases e) (nf_cons (by intro vs e; cases e) (nf_cons (by intro vs e; cases e) (nf_cons (by intro vs e; cases e) (nf_cons (by intro vs e; rw [lf1] at e; cases e) (nf_cons (by intro vs e; rw [dC2] at e; cases e) (nf_cons (by intro vs e; rw [dC1] at e; cases e) (List.forall_mem_nil _)))))))
    intro sl kk vsc h6 tk6 tl6 F6 N6 FB6 off6 offD6 hIs
    simp only [List.cons_append, List.nil_append] at N6
    try clear F1
    try clear N1
    try clear F5
    try clear N5
    obtain ⟨d0, d1, d2, d3, e6, _⟩ := fig4 ht0 (by omega : tot < 65536)
    obtain ⟨x0, x1, x2, x3, eS⟩ : ∃ x0 x1 x2 x3, scl tot = [x0, x1, x2, x3] := ⟨_, _, _, _, by rw [scl, e6]⟩
    rw [eS] at hIs hsc hlaw
    rcases hIs with _ | ⟨_, u0, hIs⟩
    rcases hIs with _ | ⟨_, u1, hIs⟩
    rcases hIs with _ | ⟨_, u2, hIs⟩
    rcases hIs with _ | ⟨_, u3, hIs⟩
    cases hIs
    have p1 : @Ne Nat sl (s1.heap.objs.size + 1 + 1 + 1) := Ne.symm (offD6 (_, w3) (by k_mem))
    have p2 : @Ne Nat DC (s1.heap.objs.size + 1 + 1 + 1) := Ne.symm offC.2.2.2.1
    have o6 : ∀ p ∈ tl6 ++ tl4, p.1 ≠ s1.heap.objs.size + 1 + 1 + 1 := by
      intro p hp
      rcases List.mem_append.mp hp with hp | hp
      · rcases off6 with off6 | e
        · exact Ne.symm (off6 (_, w3) (by k_mem) p hp)
        · exact Ne.symm (off5 (_, w3) (by k_mem) p (e ▸ hp))
      · exact o3 p hp
    have f61 : ∀ {h' : Heap}, Keep (ghostOf s1.heap [(65, 61), (58, 54)]) h' → (∀ p ∈ tl6, h'.get? p.1 = some p.2) → Full61 h' := fun k t => (FB6 _ k t).full
    have mtl : ∀ p ∈ tl6, p ∈ tl6 ++ tl4 := fun p hp => List.mem_append_left _ hp
    have m4 : ∀ p ∈ tl4, p ∈ tl6 ++ tl4 := fun p hp => List.mem_append_right _ hp
    generalize tl6 ++ tl4 = tt at N6 o6 mtl m4
    k_with_none
    k_with "exec Assign cons ListComp" => (k_dflt (refine LCt.Assign_ListComp_T (F₀ := by k_asm) (by rfl) (by with_unfolding_all rfl) (by with_unfolding_all rfl) (by decide) (by rfl) (by decide) (by rfl) (by rfl) (by rfl) ?_))
    k_with "CompSrcT" => (refine Hold.mk ?_)
    k_steps
    show LCt.CompSrcT _ _ _ _ _ _ _ _ _ _ _ _ _ _ _
    rename Fr _ _ _ _ => F0
    rename News _ _ _ _ => N0
    have hwl : wvs.toArray.size = 8 := by rw [List.size_toArray]; exact hww.length
    refine LCt.CompSrcT.ledger rfl F0 N0 (its := wvs.toArray) (k := 0) (by k_mem) (by rw [hwl, sizeLine_eq]; omega) ?_
    intro gH
    rw [hwl]
    refine rest_fixedT (fun i ys => StrsAre ys (((words8.take i).filter fun a => decide (0 < wgt a [x0, x1, x2, x3])).map id)) 8 (.inr ⟨_, by k_mem, rfl, _, rfl⟩) ?_ ?_ 8 0 [] rfl .nil
    · intro i ys v I oI C1 oC D2 m₂ h tk E' hi8 hj hv hCo hx F N off ne
      obtain ⟨a, ta, rfl, ha⟩ := strs_at hww hv
      have ha8 : a ∈ words8 := List.mem_of_getElem? ha
      have ha3 := w_len a ha8
      clear F0 N0
      k_with_none
      k_with "call ref" => (show wpAny _ _ (call (.ref 301) _ _) _ _ _; refine Hold.mk ?_)
      k_steps
      show wpAny _ _ _ _ _ _
      rename Fr _ _ _ _ => F1
      rename News _ _ _ _ => N1
      refine SpecP.use (wt_specP C a _ ha3 sl x0 x1 x2 x3 u0 u1 u2 u3 (fun x hx => hsc x hx)) F1 N1 (fun b o e => e) rfl ?_ ?_ (N1.isList (by k_mem)) ?_
      · exact Nat.le_of_ble_eq_true rfl
      · exact Nat.le_of_ble_eq_true rfl
      rintro r1 h1 tk1 kp1 F2 N2 ⟨t1, rfl⟩
      clear F1 N1
      dsimp only
      k_steps
      all_goals first | exact kp1 _ _ (by assumption) | exact fs_yes (f := id) hj ha (decide_eq_true (by first | assumption | omega)) | exact fs_no hj ha (decide_eq_false (by first | assumption | omega))
    · intro ysH hhv
      rw [List.map_id] at hhv
      have hhv : StrsAre ysH (heavyL [x0, x1, x2, x3]) := hhv
      clear F0 N0
      intro DH h tk F0 N0 offH
      k_with_none
      k_with "eval ListComp" => (k_dflt (refine LCg.ListComp_U (F₀ := by k_asm) (by with_unfolding_all rfl) (by decide) (by rfl) (by decide) (by rfl) ?_))
      k_with "CompSrc" => (refine Hold.mk ?_)
      k_steps
      show LCg.CompSrc _ _ _ _ _ _ _ _ _ _ _ _ _ _
      rename Fr _ _ _ _ => F0
      rename News _ _ _ _ => N0
      refine LCg.CompSrc.ledger rfl F0 N0 (its := wvs.toArray) (k := 0) (by k_mem) (by rw [hwl, sizeLine_eq]; omega) ?_
      intro gA
      rw [hwl]
      refine rest_fixed (fun i zs => IntsAre zs ((words8.take i).map valw)) 8 (.inr ⟨_, by k_mem, rfl, _, rfl⟩) ?_ ?_ 8 0 [] rfl .nil
      · intro i zs v I oI C1 oC D2 m₂ h tk E' hi8 hj hv hCo hx F N off ne
        obtain ⟨a, ta, rfl, ha⟩ := strs_at hww hv
        have ha8 : a ∈ words8 := List.mem_of_getElem? ha
        have ha3 := w_len a ha8
        clear F0 N0
        k_with_none
        k_with "call ref" => (show wpAny _ _ (call (.ref 277) _ _) _ _ _; refine Hold.mk ?_)
        k_steps
        show wpAny _ _ _ _ _ _
        rename Fr _ _ _ _ => F1
        rename News _ _ _ _ => N1
        refine SpecP.use (val_specP C a _ ha3) F1 N1 (fun b o e => e) rfl ?_ ?_ (f61 F1.keep fun p hp => (N1 p (by have hm9 := mtl p hp; repeat (first | exact hm9 | refine List.Mem.tail _ ?_))).1) ?_
        · exact Nat.le_of_ble_eq_true rfl
        · exact Nat.le_of_ble_eq_true rfl
        rintro r1 h1 tk1 kp1 F2 N2 ⟨t1, rfl⟩
        exact ⟨_, _, rfl, kp1, ints_mapS hj ha⟩
      · intro zs hz
        have hz : IntsAre zs (words8.map valw) := hz
        clear F0 N0
        intro DA h tk F0 N0 offA
        k_with_none
        k_with "call ref" => (show wpAny _ _ (call (.ref 306) _ _) _ _ _; refine Hold.mk ?_)
        k_steps
        show wpAny _ _ _ _ _ _
        rename Fr _ _ _ _ => F1
        rename News _ _ _ _ => N1
        refine SpecP.use (am_specP C DA tot _ zs (words8.map valw) hz rfl w_small ⟨ht0, by omega⟩) F1 N1 (fun b o e => e) rfl ?_ ?_ (N1.isList (.head _)) ?_
        · exact Nat.le_of_ble_eq_true rfl
        · exact Nat.le_of_ble_eq_true rfl
        rintro r1 h1 tk1 kp1 F2 N2 ⟨t1, rfl⟩
        clear F1 N1
        dsimp only
        unfold aloneB at hlaw
        generalize amany (words8.map valw) tot = am at hlaw ⊢
        k_with_none
        k_with "compareOp Eq ref ref" => refine Hold.mk ?_
        k_steps
        show wpAny _ _ (compareOp .Eq (.ref DH) (.ref DC)) _ _ _
        rename News _ _ _ _ => N1
        have hwd : (heavyL [x0, x1, x2, x3] == chosenL ns) = decide (heavyL [x0, x1, x2, x3] = chosenL ns) := by
          by_cases h9 : heavyL [x0, x1, x2, x3] = chosenL ns
          · rw [decide_eq_true h9]; exact beq_iff_eq.mpr h9
          · rw [decide_eq_false h9]; exact beq_eq_false_iff_ne.mpr h9
        rw [hwd] at hlaw
        refine eq_strs (vs := ysH) (us := ysC) (N1.isList (by k_mem)) hhv (N1.isList (by k_mem)) hch (fun t ht => w_ok t (heavy_mem ht)) (fun t ht => w_ok t (chosen_mem ht)) (by exact Nat.le_of_ble_eq_true rfl) ?_
        generalize decide (heavyL [x0, x1, x2, x3] = chosenL ns) = wd at hlaw ⊢
        k_with_none
        k_with "call ref" => (show wpAny _ _ (call (.ref 316) _ _) _ _ _; refine Hold.mk ?_)
        k_steps
        show wpAny _ _ _ _ _ _
        rename Fr _ _ _ _ => F1
        rename News _ _ _ _ => N3
        refine SpecP.use (box_specP C lw lm wvs words8 hww rfl w_len vm ns hIm hlen) F1 N3 (fun b o e => e) rfl ?_ ?_ ⟨N3.isList (by k_mem), N3.isList (by k_mem)⟩ ?_
        · exact Nat.le_of_ble_eq_true rfl
        · exact Nat.le_of_ble_eq_true rfl
        rintro r1 h1 tk1 kp1 F2 N2 rfl
        try clear N1
        clear F1 N3
        dsimp only
        generalize box (tabOf words8) ns = bx at hlaw ⊢
        k_with_none
        k_with "exec Return some" => refine Hold.mk ?_
        k_steps
        show wpAny _ _ _ _ _ _
        rename Fr _ _ _ _ => F1
        obtain ⟨e1, e2⟩ : (am == 1) = wd ∧ (!bx) = wd := by
          simp only [Bool.and_eq_true, beq_iff_eq] at hlaw
          exact ⟨hlaw.1, hlaw.2.symm⟩
        rw [e1, e2] at F1
        clear e1 e2 hlaw hwd hsc hhv hch hz hIm hww offC offH offA off4 off5 off6 offD6 o2 o3 o6 T5 n61 ltm
        k_with_none
        k_with "compareOp Eq bool bool" => (refine eq_bool ?_; first | rw [show ((false : Bool) == false) = true from rfl] | rw [show ((true : Bool) == true) = true from rfl])
        k_with "And" => refine Hold.mk ?_
        cases wd
        all_goals
          k_steps
          refine Hold.mk ?_
          dsimp only
          rename Fr _ _ _ _ => F7
          rename News _ _ _ _ => N7
          have g61 := f61 F7.keep fun p hp => (N7 p (by have hm9 := mtl p hp; repeat (first | exact hm9 | refine List.Mem.tail _ ?_))).1
          have g54 := FB4 _ F7.keep fun p hp => (N7 p (by have hm9 := m4 p hp; repeat (first | exact hm9 | refine List.Mem.tail _ ?_))).1
          obtain ⟨c61, e61, _⟩ := g61
          obtain ⟨c54, e54, _⟩ := g54
          refine And.intro ?_ (And.intro ⟨_, e61⟩ (And.intro ⟨_, e54⟩ True.intro))
          refine ⟨.inl ⟨.bool true, .bool true, [], rfl, fun _ => rfl, .bool true, ?_, fun _ => ⟨List.nodup_nil, fun a ha => by cases ha⟩⟩, F7.keep, rfl, hg⟩
          first | rfl | (with_unfolding_all rfl)
  )
end Mine
theorem PySem.Challenge.cw_sn0079_01_holds : PySem.Challenge.rw_sn0079_01.Holds := by
  exact Mine.law_holds
