import PyProof.Rows.All
import Wide.All
import OpenK.AllK
import Wide.FinOn
import PySem.Challenge.RW_ph0168_01
open PySem PySem.W PyProof.Rows
set_option Elab.async false
set_option maxRecDepth 100000
namespace Mine
def kept : Stmt → Bool
  | .Assign _ (.Constant (.str _) _ _) _ => false
  | _ => true
def view : Program := { PySem.Challenge.pw_ph0168_01 with main := { PySem.Challenge.pw_ph0168_01.main with body := PySem.Challenge.pw_ph0168_01.main.body.filter kept } }
abbrev XtV (s : Shared) : Bool := xlAt view [] s && recOk (RowW.records (OpenRow.toRowW PySem.Challenge.rw_ph0168_01.row)) s
theorem left_ways {p q : Program} {loose : List Str} {Xt : Shared → Bool} {α : Type} {Yf : Shared → α} {Ya : World → α} {N : Nat} {os} {tt} (e1 : openSeen = os) (e2 : treeTable = tt) (row : String)
    (h1 : ∀ w : World, (openEnds tt p (w.withFollow row false) N).map (fun s => (os q loose (importedModules p.main.body) Xt true s, Yf s)) = some (openGood q loose, Ya (w.withFollow row false)))
    (h2 : ∀ w : World, (openEnds tt p (w.withFollow row true) N).map (fun s => (os q loose (importedModules p.main.body) Xt true s, Yf s)) = some (openGood q loose, Ya (w.withFollow row true))) :
    LeftO p q loose Xt Yf Ya N true := by
  subst e1 e2
  exact byRow2 row (P := fun w => (openEnds treeTable p w N).map (fun s => (openSeen q loose (importedModules p.main.body) Xt true s, Yf s)) = some (openGood q loose, Ya w)) h1 h2
theorem lawSaid : OpenLaw.wellSaid PySem.Challenge.rw_ph0168_01 = true := by kernel_rfl
section
local macro_rules | `(tactic| o_head $_) => `(tactic| assumption)
/-- lays the written part of the top's heap (Mine.part.heap_1), no more -/
theorem part (_ : (OpenLaw.row PySem.Challenge.rw_ph0168_01).Holds) : (OpenLaw.row PySem.Challenge.rw_ph0168_01).Holds := by k_head
end
noncomputable def hookK : Hook := kmHook part.heap_1 [2, 3, 15, 17, 18, 20, 21, 22, 24, 25, 27, 28, 29, 31, 32, 34, 35, 36, 38, 39, 41, 42, 43, 45, 46, 48, 49, 50, 52, 53, 55, 56, 57, 59, 60, 62, 63, 64, 66, 67, 69, 70, 71, 73, 74, 76, 77, 78, 80, 81, 83, 84, 95, 97, 98, 100, 101, 102, 104, 105, 107, 108, 109, 111, 112, 114, 115, 116, 118, 119, 121, 122, 123, 125, 126, 128, 129, 130, 132, 133, 135, 136, 137, 139, 140, 142, 143, 144, 145, 146, 147, 148, 151, 154, 155, 156, 158, 159, 161, 162, 163, 165, 166, 168, 169, 170, 172, 173, 175, 176, 177, 180, 181] (fun _ => by kernel_rfl) [65, 58]
theorem left_f : ∀ w : World, (openEnds PySem.W.Fast.tw14364793385576792824 PySem.Challenge.pw_ph0168_01 (w.withFollow "special-get-raises" false) 2186).map (fun s => (PySem.W.Fast.tw4187177175401517315 view [PySem.Str.ofString "Whitespace"] (importedModules PySem.Challenge.pw_ph0168_01.main.body) XtV true s, Hook.obs hookK s)) =
    some (openGood view [PySem.Str.ofString "Whitespace"], Hook.val hookK (w.withFollow "special-get-raises" false)) := fun w => by kernel_rfl
theorem left_t : ∀ w : World, (openEnds PySem.W.Fast.tw14364793385576792824 PySem.Challenge.pw_ph0168_01 (w.withFollow "special-get-raises" true) 2186).map (fun s => (PySem.W.Fast.tw4187177175401517315 view [PySem.Str.ofString "Whitespace"] (importedModules PySem.Challenge.pw_ph0168_01.main.body) XtV true s, Hook.obs hookK s)) =
    some (openGood view [PySem.Str.ofString "Whitespace"], Hook.val hookK (w.withFollow "special-get-raises" true)) := fun w => by kernel_rfl
theorem left_all : LeftO PySem.Challenge.pw_ph0168_01 view [PySem.Str.ofString "Whitespace"] XtV (Hook.obs hookK) (Hook.val hookK) 2186 true :=
  left_ways PySem.W.Fast.te4187177175401517315 PySem.W.Fast.te14364793385576792824 "special-get-raises" left_f left_t
end Mine
local macro_rules | `(tactic| o_law) => `(tactic| refine holds_law Mine.lawSaid fun said => ?_)
local macro_rules | `(tactic| k_head) => `(tactic|
  refine holds_open (q := Mine.view) (loose := [PySem.Str.ofString "Whitespace"]) (Xt := Mine.XtV) (XP := XL Mine.view []) (Yf := Hook.obs Mine.hookK) (Ya := Hook.val Mine.hookK) (YP := Hook.says (kmHook Mine.part.heap_1 [2, 3, 15, 17, 18, 20, 21, 22, 24, 25, 27, 28, 29, 31, 32, 34, 35, 36, 38, 39, 41, 42, 43, 45, 46, 48, 49, 50, 52, 53, 55, 56, 57, 59, 60, 62, 63, 64, 66, 67, 69, 70, 71, 73, 74, 76, 77, 78, 80, 81, 83, 84, 95, 97, 98, 100, 101, 102, 104, 105, 107, 108, 109, 111, 112, 114, 115, 116, 118, 119, 121, 122, 123, 125, 126, 128, 129, 130, 132, 133, 135, 136, 137, 139, 140, 142, 143, 144, 145, 146, 147, 148, 151, 154, 155, 156, 158, 159, 161, 162, 163, 165, 166, 168, 169, 170, 172, 173, 175, 176, 177, 180, 181] (fun _ => by kernel_rfl) [65, 58])) (N := 2186) Mine.left_all (Hook.of Mine.hookK) (Hook.keeps Mine.hookK) (fun s e => xl_of s (Bool.and_eq_true_iff.mp e).1) XL.keeps (by rfl) (by rfl) (by rfl) (fun s e => recFacts_of (Bool.and_eq_true_iff.mp e).2) (by rfl) (by first | assumption | decide +kernel) (by decide +kernel) ⟨rfl, rfl, rfl, rfl, rfl, by decide +kernel⟩ ?hw ?hc)
set_option maxHeartbeats 8000000 in
open_top hd for PySem.Challenge.rw_ph0168_01
set_option maxRecDepth 100000
open PySem PySem.W PyProof.Rows PySem.Calls PyProof.V
namespace Mine
section
theorem gentk {M : Model} {A : Around} {α : Type} {t : Sem α} {Q : α → Shared → Prop} {E : Value → Shared → Prop} {h : Heap} {g} {d} {a b : Nat} {o} (k : ∀ tk : Nat, wpAny M A t Q E ⟨h, g, d, tk, o⟩) : wpAny M A t Q E ⟨h, g, d, a + b, o⟩ := k _
def AA (d u : Nat) : Around := { handled := none, depth := d, frames := none, guards := none, units := u }

theorem AA_in {Γ : Ctx} {A : Around} {d u : Nat} (h : Γ.In A) (hh : A.handled = none) (hde : A.depth ≤ d) (hu : A.units ≤ u) : Γ.In (AA d u) :=
  ⟨h.1.trans hh, Nat.le_trans h.2.1 hde, (fun l hl => by cases hl), (fun l hl => by cases hl), Nat.le_trans h.2.2.2.2 hu⟩
theorem AA_below {Γ : Ctx} {A : Around} {d u : Nat} (h : Γ.Below A) (hh : A.handled = none) (hde : A.depth ≤ d) (hu : A.units ≤ u) : Γ.Below (AA d u) :=
  ⟨h.1.trans hh, Nat.le_trans h.2.1 hde, (fun l hl => by cases hl), (fun l hl => by cases hl), Nat.le_trans h.2.2.2.2 hu⟩
theorem AA_use {α : Type} {M : Model} {A : Around} {t : Sem α} {Q : α → Shared → Prop} {E : Value → Shared → Prop} {s : Shared} (d u : Nat)
    (h : wpAny M (AA d u) t Q E s) (hh : A.handled = none) (hde : A.depth ≤ d) (hu : A.units ≤ u) : wpAny M A t Q E s :=
  fun Γ p hΓ => h Γ p (AA_in hΓ hh hde hu)
theorem AA_code {M : Model} {A : Around} {c : Code} {R : Result → Shared → Prop} {s : Shared} (d u : Nat)
    (h : codeAny M (AA d u) c R s) (hh : A.handled = none) (hde : A.depth ≤ d) (hu : A.units ≤ u) : codeAny M A c R s :=
  fun Γ p hc hΓ => h Γ p hc (AA_below hΓ hh hde hu)

/-- what stands besides `sel` stays -/
def Stay (h h' : Heap) (sel : List Addr) : Prop := ∀ b o, h.get? b = some o → b ∉ sel → h'.get? b = some o

/-- the law of a def: called with `args`, the objects `sel` as said, all else kept -/
def SpecF (w : World) (f : Addr) (d u : Nat) (args : List Value) (sel : List (Addr × Obj)) (Post : Value → Heap → Heap → Prop) : Prop :=
  ∀ (p : Program) (loose : List Str) (mean : ExcName → Option Value) (mg mb : Str → Option Value) (h₀ : Heap) (s : Shared) (R : Result → Shared → Prop),
    (Mine.part.heap_1 w.params).In h₀ → Top p loose mean mg mb h₀ → h₀.StaysIn s.heap → (∀ q ∈ sel, s.heap.get? q.1 = some q.2 ∧ h₀.get? q.1 = none) →
    (∀ r h' tk', Stay s.heap h' (sel.map (·.1)) → Post r s.heap h' → R (.ok (.ret r)) { s with heap := h', toks := tk' }) →
    codeAny (model PySem.Challenge.rw_ph0168_01.row.prog w) (AA d u) (.call (.ref f) ⟨args, []⟩) R s

def LeaveS (g : Heap) (R : Result → Shared → Prop) (v : Value) (s' : Shared) : Prop :=
  ∃ L' m' news', Fr g L' s'.heap m' ∧ News g L' s'.heap news' ∧ ((∀ b o, g.get? b = some o → s'.heap.get? b = some o) → (∀ q ∈ news', s'.heap.get? q.1 = some q.2 ∧ g.get? q.1 = none) → R (.ok (.ret v)) s')
theorem leaveS {g : Heap} {L' : Addr} {m' : Str → Option Value} {news' : List (Addr × Obj)} {R : Result → Shared → Prop} {v : Value} {s' : Shared} (F' : Fr g L' s'.heap m') (N' : News g L' s'.heap news')
    (k : (∀ b o, g.get? b = some o → s'.heap.get? b = some o) → (∀ q ∈ news', s'.heap.get? q.1 = some q.2 ∧ g.get? q.1 = none) → R (.ok (.ret v)) s') : LeaveS g R v s' := ⟨L', m', news', F', N', k⟩

section
variable {prog : Program} {w : World} {s : Shared} {h₀ : Heap} {K : Frag} {p : Program} {loose : List Str} {mean : ExcName → Option Value} {mg mb : Str → Option Value}
  {R : Result → Shared → Prop} {name qual : Str} {params : Arguments} {body : List Stmt} {scope : Scope} {dV kV doc pm cdv ct oc : Value} {an od : Option Addr} {osl : Array (Option Value)} {f : Addr} {args : Args} {binds : List (Str × Value)}
  {sel : List (Addr × Obj)} {d u : Nat}

theorem enterS (X : K.In h₀) (T : Top p loose mean mg mb h₀) (hk : h₀.StaysIn s.heap) (hs : ∀ q ∈ sel, s.heap.get? q.1 = some q.2 ∧ h₀.get? q.1 = none)
    (ho : K.lookup f = some ⟨oc, od, .func (fnOf name qual params body scope dV kV doc pm an cdv ct), osl⟩) (hcd : codeIn K cdv qual = true) (hroom : d < recursionLimit)
    (hbind : BindsTo s (fnOf name qual params body scope dV kV doc pm an cdv ct) args binds) (hloc : ∀ y ∈ binds, scope.names.lookup y.1 = some .local)
    (h : ∀ g L' h₁, Fr g L' h₁ (fun y => binds.reverse.lookup y) → News g L' h₁ sel → K.In g → Top p loose mean mg mb g → (∀ q ∈ sel, q.1 < L') →
      Stay s.heap g (sel.map (·.1)) → g.StaysIn s.heap →
      wpAny (model prog w) (AA (d + 1) (u + 3)) (execs body (envOf qual scope L' f cdv)) (fun fl s' => LeaveS g R (match fl with | .ret v => v | _ => .none) s') (fun _ _ => False)
        { s with heap := h₁, toks := s.toks + binds.length })
    (hco : scope.isCoroutine = false) (hgen : scope.isGenerator = false) (hkk : scope.kind = .function)
    (hcell : ∀ x ∈ scope.names, x.2 ≠ .cell) : codeAny (model prog w) (AA d u) (.call (.ref f) args) R s := by
  have nm : ∀ b o, h₀.get? b = some o → b ∉ sel.map (·.1) := fun b o e q => by
    obtain ⟨p, hp, rfl⟩ := List.mem_map.mp q
    rw [(hs p hp).2] at e; cases e
  have st : h₀.StaysIn (hideAll s.heap (sel.map (·.1))) := fun b o e => hideAll_get _ (hk b o e) (nm b o e)
  refine codeAny_call_def (fd := fnOf name qual params body scope dV kV doc pm an cdv ct) (body := body) (binds := binds) hroom (hk _ _ (X _ _ ho)) rfl (T.nolimit.keeps hk) (codeRec_of (X.keeps hk) hcd) rfl hbind hcell hloc (fun h₁ hns hk₁ => ?_) hco hgen hkk
  refine wpAny_mono (h (hideAll s.heap (List.map (fun q : Addr × Obj => q.1) sel)) s.heap.objs.size h₁ ⟨hns, fun b o e => hk₁ b o (of_hideAll _ e), Nat.le_of_eq (hideAll_size _ _)⟩
    (fun q hq => ⟨hk₁ _ _ (hs q hq).1, Nat.ne_of_lt (Heap.lt_size (hs q hq).1), hideAll_none _ (List.mem_map_of_mem hq)⟩) (X.keeps st) (T.keeps st) (fun q hq => Heap.lt_size (hs q hq).1)
    (fun b o e n => hideAll_get _ e n) (fun b o e => of_hideAll _ e)) (fun fl s' hl => ?_) fun _ _ y => y.elim
  obtain ⟨L', m', news', F', N', k⟩ := hl
  exact k F'.keep fun q hq => ⟨(N' q hq).1, (N' q hq).2.2⟩

theorem enterC (X : K.In h₀) (T : Top p loose mean mg mb h₀) (hk : h₀.StaysIn s.heap) (hs : ∀ q ∈ sel, s.heap.get? q.1 = some q.2 ∧ h₀.get? q.1 = none)
    (ho : K.lookup f = some ⟨oc, od, .func (fnOf name qual params body scope dV kV doc pm an cdv ct), osl⟩) (hcd : codeIn K cdv qual = true) (hroom : d < recursionLimit)
    (hbind : BindsTo s (fnOf name qual params body scope dV kV doc pm an cdv ct) args binds) (hkind : (binds.all fun y => scope.names.lookup y.1 == some .local || scope.names.lookup y.1 == some .cell) = true)
    (hnd : ((cellsFrom 0 scope.names []).map (·.1)).Nodup)
    (h : ∀ g L' h₁ tk cells, Fr g L' h₁ (bindL (envOfC qual scope L' f cdv).kindOf binds fun _ => none) → News g L' h₁ (cells ++ sel) →
      CellsAre (bindC (envOfC qual scope L' f cdv).kindOf binds fun _ => none) (cellsFrom (L' + 1) scope.names []) cells → K.In g → Top p loose mean mg mb g → (∀ q ∈ sel, q.1 < L') →
      Stay s.heap g (sel.map (·.1)) → g.StaysIn s.heap →
      wpAny (model prog w) (AA (d + 1) (u + 3)) (execs body (envOfC qual scope L' f cdv)) (fun fl s' => LeaveS g R (match fl with | .ret v => v | _ => .none) s') (fun _ _ => False)
        { s with heap := h₁, toks := tk })
    (hco : scope.isCoroutine = false) (hgen : scope.isGenerator = false) (hkk : scope.kind = .function) : codeAny (model prog w) (AA d u) (.call (.ref f) args) R s := by
  have nm : ∀ b o, h₀.get? b = some o → b ∉ sel.map (·.1) := fun b o e q => by
    obtain ⟨p, hp, rfl⟩ := List.mem_map.mp q
    rw [(hs p hp).2] at e; cases e
  have st : h₀.StaysIn (hideAll s.heap (sel.map (·.1))) := fun b o e => hideAll_get _ (hk b o e) (nm b o e)
  refine codeAny_call_function hroom (hk _ _ (X _ _ ho)) rfl hco hgen rfl (codeRec_of (X.keeps hk) hcd) (hbind _ _ _ _ ?_)
  refine wpAny_newFunctionEnv_cells hkk (kindsX hkind _) fun env' he s' x => ?_
  subst he
  refine ⟨(T.nolimit.keeps hk).keeps x.toInCall.keep, codeAny_func ?_⟩
  obtain ⟨h₁, tk, rfl, _⟩ := x.done
  have hk₁ := x.toInCall.keep
  obtain ⟨cells, NC, Y⟩ := Cl.news (h₀ := s.heap) (Nat.le_refl _) fun n c hm => ⟨x.cell n c (lookup_of_mem_nodup (cellsFrom_names scope.names 0 (s.heap.objs.size + 1) [] [] rfl ▸ hnd) hm), x.above n c hm⟩
  refine wpAny_mono (h (hideAll s.heap (List.map (fun q : Addr × Obj => q.1) sel)) s.heap.objs.size h₁ tk cells ⟨x.toInCall.ns, fun b o e => hk₁ b o (of_hideAll _ e), Nat.le_of_eq (hideAll_size _ _)⟩
    (fun q hq => ?_) Y (X.keeps st) (T.keeps st) (fun q hq => Heap.lt_size (hs q hq).1)
    (fun b o e n => hideAll_get _ e n) (fun b o e => of_hideAll _ e)) (fun fl s' hl => ?_) fun _ _ y => y.elim
  · rcases List.mem_append.mp hq with hq | hq
    · refine ⟨(NC q hq).1, (NC q hq).2.1, ?_⟩
      cases z : (hideAll s.heap (List.map (fun q : Addr × Obj => q.1) sel)).get? q.1 with
      | none => rfl
      | some o => have := of_hideAll _ z; rw [(NC q hq).2.2] at this; cases this
    · exact ⟨hk₁ _ _ (hs q hq).1, Nat.ne_of_lt (Heap.lt_size (hs q hq).1), hideAll_none _ (List.mem_map_of_mem hq)⟩
  · obtain ⟨L', m', news', F', N', k⟩ := hl
    exact k F'.keep fun q hq => ⟨(N' q hq).1, (N' q hq).2.2⟩

theorem enterX {cl : List (Str × Addr)} {fo : Obj} (X : K.In h₀) (T : Top p loose mean mg mb h₀) (hk : h₀.StaysIn s.heap) (hs : ∀ q ∈ sel, s.heap.get? q.1 = some q.2 ∧ h₀.get? q.1 = none)
    (hm : (f, fo) ∈ sel) (hdat : fo.data = .func (fnX name qual params body scope cl dV kV doc pm an cdv ct)) (hcd : s.heap.CodeRec cdv qual) (hroom : d < recursionLimit)
    (hbind : BindsTo s (fnX name qual params body scope cl dV kV doc pm an cdv ct) args binds) (hloc : ∀ y ∈ binds, scope.names.lookup y.1 = some .local)
    (h : ∀ g L' h₁, Fr g L' h₁ (fun y => binds.reverse.lookup y) → News g L' h₁ sel → K.In g → Top p loose mean mg mb g → (∀ q ∈ sel, q.1 < L') →
      Stay s.heap g (sel.map (·.1)) → g.StaysIn s.heap →
      wpAny (model prog w) (AA (d + 1) (u + 3)) (execs body (envX qual scope L' f cdv cl)) (fun fl s' => LeaveS g R (match fl with | .ret v => v | _ => .none) s') (fun _ _ => False)
        { s with heap := h₁, toks := s.toks + binds.length })
    (hco : scope.isCoroutine = false) (hgen : scope.isGenerator = false) (hkk : scope.kind = .function)
    (hcell : ∀ x ∈ scope.names, x.2 ≠ .cell) : codeAny (model prog w) (AA d u) (.call (.ref f) args) R s := by
  have nm : ∀ b o, h₀.get? b = some o → b ∉ sel.map (·.1) := fun b o e q => by
    obtain ⟨p, hp, rfl⟩ := List.mem_map.mp q
    rw [(hs p hp).2] at e; cases e
  have st : h₀.StaysIn (hideAll s.heap (sel.map (·.1))) := fun b o e => hideAll_get _ (hk b o e) (nm b o e)
  refine codeAny_call_def (fd := fnX name qual params body scope cl dV kV doc pm an cdv ct) (body := body) (binds := binds) hroom (hs _ hm).1 hdat (T.nolimit.keeps hk) hcd rfl hbind hcell hloc (fun h₁ hns hk₁ => ?_) hco hgen hkk
  refine wpAny_mono (h (hideAll s.heap (List.map (fun q : Addr × Obj => q.1) sel)) s.heap.objs.size h₁ ⟨hns, fun b o e => hk₁ b o (of_hideAll _ e), Nat.le_of_eq (hideAll_size _ _)⟩
    (fun q hq => ⟨hk₁ _ _ (hs q hq).1, Nat.ne_of_lt (Heap.lt_size (hs q hq).1), hideAll_none _ (List.mem_map_of_mem hq)⟩) (X.keeps st) (T.keeps st) (fun q hq => Heap.lt_size (hs q hq).1)
    (fun b o e n => hideAll_get _ e n) (fun b o e => of_hideAll _ e)) (fun fl s' hl => ?_) fun _ _ y => y.elim
  obtain ⟨L', m', news', F', N', k⟩ := hl
  exact k F'.keep fun q hq => ⟨(N' q hq).1, (N' q hq).2.2⟩
end

/-- a def's law, used at a call -/
theorem useS {w : World} {f : Addr} {d u : Nat} {args : List Value} {sel : List (Addr × Obj)} {Post : Value → Heap → Heap → Prop} (C : SpecF w f d u args sel Post)
    {A : Around} {p : Program} {loose : List Str} {mean : ExcName → Option Value} {mg mb : Str → Option Value} {h₀ : Heap} {L : Addr} {m : Str → Option Value} {s : Shared} {news : List (Addr × Obj)} {Q E : Value → Shared → Prop}
    (hh : A.handled = none) (hde : A.depth ≤ d) (hu : A.units ≤ u)
    (F : Fr h₀ L s.heap m) (X : (Mine.part.heap_1 w.params).In h₀) (N : News h₀ L s.heap news) (T : Top p loose mean mg mb h₀) (hsel : ∀ q ∈ sel, q ∈ news)
    (h : ∀ r h' tk', Stay s.heap h' (sel.map (·.1)) → Post r s.heap h' → (Fr h₀ L h' m) → (∀ q ∈ news, q.1 ∉ sel.map (·.1) → h'.get? q.1 = some q.2 ∧ q.1 ≠ L ∧ h₀.get? q.1 = none) → Q r { s with heap := h', toks := tk' }) :
    wpAny (model PySem.Challenge.rw_ph0168_01.row.prog w) A (call (.ref f) args) Q E s := by
  refine wpAny_call (AA_code d u (C p loose mean mg mb h₀ s _ X T F.keep (fun q hq => ⟨(N q (hsel q hq)).1, (N q (hsel q hq)).2.2⟩) fun r h' tk' st po => ?_) hh hde hu)
  have nm : ∀ b o, h₀.get? b = some o → b ∉ sel.map (·.1) := fun b o e q => by
    obtain ⟨p, hp, rfl⟩ := List.mem_map.mp q
    rw [(N p (hsel p hp)).2.2] at e; cases e
  have nL : L ∉ sel.map (·.1) := fun q => by
    obtain ⟨p, hp, e⟩ := List.mem_map.mp q
    exact (N p (hsel p hp)).2.1 e
  obtain ⟨oL, es, ep, hL, hLd, hLk, hLf⟩ := F.ns
  exact h r h' tk' st po ⟨⟨oL, es, ep, st _ _ hL nL, hLd, hLk, hLf⟩, fun b o e => st b o (F.keep b o e) (nm b o e), F.above⟩ fun q hq n => ⟨st _ _ (N q hq).1 n, (N q hq).2.1, (N q hq).2.2⟩

/-- a pure def (nothing changed): the ledger stands -/
theorem useS0 {w : World} {f : Addr} {d u : Nat} {args : List Value} {Post : Value → Heap → Heap → Prop} (C : SpecF w f d u args [] Post)
    {A : Around} {p : Program} {loose : List Str} {mean : ExcName → Option Value} {mg mb : Str → Option Value} {h₀ : Heap} {L : Addr} {m : Str → Option Value} {s : Shared} {news : List (Addr × Obj)} {Q E : Value → Shared → Prop}
    (hh : A.handled = none) (hde : A.depth ≤ d) (hu : A.units ≤ u)
    (F : Fr h₀ L s.heap m) (X : (Mine.part.heap_1 w.params).In h₀) (N : News h₀ L s.heap news) (T : Top p loose mean mg mb h₀)
    (h : ∀ r h' tk', Post r s.heap h' → Fr h₀ L h' m → News h₀ L h' news → Q r { s with heap := h', toks := tk' }) :
    wpAny (model PySem.Challenge.rw_ph0168_01.row.prog w) A (call (.ref f) args) Q E s :=
  useS C hh hde hu F X N T (fun _ hq => nomatch hq) fun r h' tk' _ po F' N' => h r h' tk' po F' fun q hq => N' q hq (fun z => nomatch z)
theorem rep0 {prog : Program} {w : World} {A : Around} {E : Value → Shared → Prop} {s : Shared} {h₀ : Heap} {L : Addr} {m : Str → Option Value} {news : List (Addr × Obj)} {l : Addr} {a : Int} {t : Tok} {x : Int} {u : Tok} {Q : Value → Shared → Prop}
    (Fm : Fr h₀ L s.heap m) (N : News h₀ L s.heap news) (hl : s.heap.IsList l [Value.int a t].toArray) (hlo : 0 ≤ x) (hhi : x ≤ 256)
    (h : ∀ D h' us, Fr h₀ L h' m → News h₀ L h' ((D, W.listOf us.toArray 0) :: news) → (∀ p ∈ news, p.1 < D) → IntsAre us (List.replicate x.toNat a) → Q (.ref D) { s with heap := h' }) :
    wpAny (model prog w) A (binaryOp .Mult (.ref l) (.int x u)) Q E s := by
  have len : ∀ n : Nat, IntsAre (List.replicate n [Value.int a t]).flatten (List.replicate n a) := by
    intro n
    induction n with
    | zero => exact .nil
    | succ n ih => rw [List.replicate_succ, List.flatten_cons, List.replicate_succ]; exact .cons a t ih
  exact KMa.mul Fm N hl (by omega) (by omega) (by simp only [List.length_cons, List.length_nil]; omega) rfl fun D h' F' N' l => h D h' _ F' N' l (len _)
/-- the law of a def in its usual shape: a witness `a`; what it says of the value; the objects of `sel` as they are then; the new ones -/
abbrev PostG {α : Type} (P : α → Value → Prop) (upd new : α → List (Addr × Obj)) (r : Value) (h h' : Heap) : Prop :=
  ∃ a : α, P a r ∧ (∀ q ∈ upd a, h'.get? q.1 = some q.2) ∧ ∀ q ∈ new a, h'.get? q.1 = some q.2 ∧ h.get? q.1 = none

theorem stay_of {h g h' : Heap} {sel : List Addr} (st : Stay h g sel) (k : ∀ b o, g.get? b = some o → h'.get? b = some o) : Stay h h' sel := fun b o e n => k b o (st b o e n)

theorem leaveG {α : Type} {P : α → Value → Prop} {upd new : α → List (Addr × Obj)} {sel : List (Addr × Obj)} {s : Shared} {g h' : Heap} {tk' : Nat} {L' : Addr} {m' : Str → Option Value} {news' : List (Addr × Obj)} {R : Result → Shared → Prop} {v : Value}
    (st1 : Stay s.heap g (sel.map (·.1))) (F' : Fr g L' h' m') (N' : News g L' h' news') (a : α) (hP : P a v) (hu : ∀ q ∈ upd a, q ∈ news') (hn : ∀ q ∈ new a, q ∈ news' ∧ ∀ p ∈ sel, p.1 ≠ q.1)
    (hret : ∀ r h' tk', Stay s.heap h' (sel.map (·.1)) → PostG P upd new r s.heap h' → R (.ok (.ret r)) { s with heap := h', toks := tk' }) :
    LeaveS g R v { s with heap := h', toks := tk' } := by
  refine leaveS F' N' fun k1 k2 => hret _ _ _ (stay_of st1 k1) ⟨a, hP, fun q hq => (k2 q (hu q hq)).1, fun q hq => ⟨(k2 q (hn q hq).1).1, ?_⟩⟩
  cases e : s.heap.get? q.1 with
  | none => rfl
  | some o => have e2 := st1 _ _ e (fun z => by obtain ⟨p, hp, e⟩ := List.mem_map.mp z; exact (hn q hq).2 p hp e); rw [(k2 q (hn q hq).1).2] at e2; cases e2

/-- a law in the usual shape, used at a call -/
theorem useG {α : Type} {P : α → Value → Prop} {upd new : α → List (Addr × Obj)} {w : World} {f : Addr} {d u : Nat} {args : List Value} {sel rest : List (Addr × Obj)} (C : SpecF w f d u args sel (PostG P upd new))
    {A : Around} {p : Program} {loose : List Str} {mean : ExcName → Option Value} {mg mb : Str → Option Value} {h₀ : Heap} {L : Addr} {m : Str → Option Value} {s : Shared} {Q E : Value → Shared → Prop}
    (hh : A.handled = none) (hde : A.depth ≤ d) (hu : A.units ≤ u)
    (F : Fr h₀ L s.heap m) (X : (Mine.part.heap_1 w.params).In h₀) (N : News h₀ L s.heap (sel ++ rest)) (T : Top p loose mean mg mb h₀) (hoff : ∀ q ∈ rest, ∀ p ∈ sel, p.1 ≠ q.1) (hadr : ∀ a, ∀ q ∈ upd a, q.1 ∈ sel.map (·.1))
    (h : ∀ a r h' tk', P a r → Fr h₀ L h' m → News h₀ L h' (new a ++ (upd a ++ rest)) → (∀ q ∈ new a, ∀ p ∈ sel ++ rest, @Ne Nat p.1 q.1) → Q r { s with heap := h', toks := tk' }) :
    wpAny (model PySem.Challenge.rw_ph0168_01.row.prog w) A (call (.ref f) args) Q E s := by
  refine useS C hh hde hu F X N T (fun q hq => List.mem_append_left _ hq) fun r h' tk' st po F' N' => ?_
  obtain ⟨a, hP, h1, h2⟩ := po
  have hL : ∀ q ∈ new a, q.1 ≠ L := fun q hq e => by
    obtain ⟨oL, _, _, hL, _⟩ := F.ns
    rw [← e, (h2 q hq).2] at hL; cases hL
  refine h a r h' tk' hP F' (fun q hq => ?_) fun q hq p hp e => ?_
  · rcases List.mem_append.mp hq with hq | hq
    · refine ⟨(h2 q hq).1, hL q hq, ?_⟩
      cases e : h₀.get? q.1 with
      | none => rfl
      | some o => have := F.keep _ _ e; rw [(h2 q hq).2] at this; cases this
    · rcases List.mem_append.mp hq with hq | hq
      · obtain ⟨p, hp, e⟩ := List.mem_map.mp (hadr a q hq)
        have n := N p (List.mem_append_left _ hp)
        rw [← e]
        exact ⟨by rw [e]; exact h1 q hq, n.2⟩
      · exact N' q (List.mem_append_right _ hq) (fun z => by obtain ⟨p, hp, e⟩ := List.mem_map.mp z; exact hoff q hq p hp e)
  · have n := (N p hp).1
    rw [e, (h2 q hq).2] at n; cases n
theorem lenL {prog : Program} {w : World} {A : Around} {E : Value → Shared → Prop} {s : Shared} {h₀ : Heap} {L : Addr} {news : List (Addr × Obj)} {D : Addr} {us : List Value} {ns : List Int} {c : Nat} {Q : Value → Shared → Prop}
    (N : News h₀ L s.heap news) (hm : (D, W.listOf us.toArray c) ∈ news) (hi : IntsAre us ns) (hf : ns.length < 2 ^ 62) (h : Q (.int (ns.length : Nat) (s.toks + 1)) { s with toks := s.toks + 1 + 1 }) :
    wpAny (model prog w) A (call (.builtin "len") [.ref D]) Q E s :=
  Calls.call_len_list (News.isList N hm) (by have := hi.length; simp only [List.size_toArray]; omega) (by rw [List.size_toArray, hi.length]; exact h)
theorem news_pick {h₀ h : Heap} {L : Addr} {l : List (Addr × Obj)} (N : News h₀ L h l) (is : List Nat) : News h₀ L h (is.filterMap fun i => l[i]?) := fun q hq => by
  obtain ⟨i, _, e⟩ := List.mem_filterMap.mp hq
  exact N q (List.mem_of_getElem? e)
def Hold (P : Prop) : Prop := P
theorem Hold.mk {P : Prop} (h : Hold P) : P := h
theorem Hold.out {P : Prop} (h : P) : Hold P := h
/-- a def that hands back its newest object -/
theorem leaveT {α : Type} {P : α → Value → Prop} {upd new : α → List (Addr × Obj)} {sel : List (Addr × Obj)} {s : Shared} {g h' : Heap} {tk' : Nat} {L' : Addr} {m' : Str → Option Value} {news' : List (Addr × Obj)} {R : Result → Shared → Prop} {t : Addr} {o : Obj}
    (st1 : Stay s.heap g (sel.map (·.1))) (F' : Fr g L' h' m') (N' : News g L' h' ((t, o) :: news')) (mk : Addr → α) (hP : P (mk t) (.ref t)) (hu : ∀ q ∈ upd (mk t), q ∈ (t, o) :: news') (hn : ∀ q ∈ new (mk t), q ∈ (t, o) :: news' ∧ ∀ p ∈ sel, p.1 ≠ q.1)
    (hret : ∀ r h' tk', Stay s.heap h' (sel.map (·.1)) → PostG P upd new r s.heap h' → R (.ok (.ret r)) { s with heap := h', toks := tk' }) :
    LeaveS g R (.ref t) { s with heap := h', toks := tk' } := leaveG st1 F' N' (mk t) hP hu hn hret
theorem news_abs {h₀ h : Heap} {L : Addr} {o : Obj} {b : Addr} {pre post : List (Addr × Obj)} (N : News h₀ L h (pre ++ (b, o) :: post)) : ∃ od, od = o ∧ News h₀ L h (pre ++ (b, od) :: post) := ⟨o, rfl, N⟩
/-- chosen entries of a written list, computed by dsimp alone -/
def pickAt {α : Type} : List α → Nat → List α
  | [], _ => []
  | a :: _, 0 => [a]
  | _ :: l, n + 1 => pickAt l n
def picks {α : Type} (l : List α) : List Nat → List α
  | [] => []
  | i :: r => pickAt l i ++ picks l r
theorem pickAt_mem {α : Type} {x : α} : ∀ {l : List α} {i : Nat}, x ∈ pickAt l i → x ∈ l
  | [], _, h => by cases h
  | a :: _, 0, h => by rw [List.mem_singleton.mp h]; exact .head _
  | _ :: _, _ + 1, h => .tail _ (pickAt_mem h)
theorem picks_mem {α : Type} {x : α} {l : List α} : ∀ {is : List Nat}, x ∈ picks l is → x ∈ l
  | [], h => by cases h
  | _ :: _, h => (List.mem_append.mp h).elim pickAt_mem picks_mem
theorem news_pick2 {h₀ h : Heap} {L : Addr} {l : List (Addr × Obj)} (N : News h₀ L h l) (is : List Nat) : News h₀ L h (picks l is) := fun q hq => N q (picks_mem hq)
/-- a fact of each entry, as a chain -/
def AllL {α : Type} (P : α → Prop) : List α → Prop
  | [] => True
  | [a] => P a
  | a :: b :: l => P a ∧ AllL P (b :: l)
theorem AllL.one {α : Type} {P : α → Prop} : ∀ {l : List α}, (∀ q ∈ l, P q) → AllL P l
  | [], _ => trivial
  | [_], h => h _ (.head _)
  | _ :: _ :: _, h => ⟨h _ (.head _), AllL.one fun q hq => h q (.tail _ hq)⟩
theorem AllL.two {α β : Type} {R : α → β → Prop} {A : List α} {B : List β} (h : ∀ q ∈ A, ∀ p ∈ B, R q p) : AllL (fun q => AllL (fun p => R q p) B) A := AllL.one fun q hq => AllL.one (h q hq)
end
section
def LEnd (h₀ : Heap) (L : Addr) (s : Shared) (I : Addr) (it : Obj) {σ : Type} (Led : σ → List (Addr × Obj)) (ps : σ → List (Str × Value)) (stored : List Str) (m₀ : Str → Option Value) (P : σ → Prop) (s₂ : Shared) : Prop :=
  ∃ (c' : σ) (h' : Heap) (tk : Nat) (m' : Str → Option Value) (news' : List (Addr × Obj)), s₂ = { s with heap := h', toks := tk } ∧ Fr h₀ L h' m' ∧ News h₀ L h' news' ∧ (I, it) ∈ news' ∧ (∀ p ∈ Led c', p ∈ news' ∧ @Ne Nat p.1 I) ∧
    (∀ p ∈ ps c', m' p.1 = some p.2) ∧ (∀ z, (∀ p ∈ ps c', z ≠ p.1) → stored.contains z = false → m' z = m₀ z) ∧ P c'
def LPost (h₀ : Heap) (L : Addr) (s : Shared) (I : Addr) (it : Obj) {σ : Type} (Led : σ → List (Addr × Obj)) (ps : σ → List (Str × Value)) (stored : List Str) (m₀ : Str → Option Value) (P : σ → Prop) (Q : Flow → Shared → Prop) (f : Flow) (s₂ : Shared) : Prop :=
  match f with
  | .ret v => Q (.ret v) s₂
  | .brk => Q .next s₂
  | _ => LEnd h₀ L s I it Led ps stored m₀ P s₂
theorem lend {h₀ : Heap} {L : Addr} {s : Shared} {I : Addr} {it : Obj} {σ : Type} {Led : σ → List (Addr × Obj)} {ps : σ → List (Str × Value)} {stored : List Str} {m₀ : Str → Option Value} {P : σ → Prop} {h' : Heap} {tk : Nat} {m' : Str → Option Value} {news' : List (Addr × Obj)}
    (c' : σ) (F : Fr h₀ L h' m') (N : News h₀ L h' news') (hI : (I, it) ∈ news') (hl : ∀ p ∈ Led c', p ∈ news' ∧ @Ne Nat p.1 I) (hk : ∀ p ∈ ps c', m' p.1 = some p.2) (hr : ∀ z, (∀ p ∈ ps c', z ≠ p.1) → stored.contains z = false → m' z = m₀ z) (hp : P c') :
    LEnd h₀ L s I it Led ps stored m₀ P { s with heap := h', toks := tk } := ⟨c', h', tk, m', news', rfl, F, N, hI, hl, hk, hr, hp⟩
theorem map_eq {ps : List (Str × Value)} {stored : List Str} {m₀ m₁ : Str → Option Value} (h1 : ∀ p ∈ ps, m₁ p.1 = some p.2) (h2 : ∀ z, (∀ p ∈ ps, z ≠ p.1) → stored.contains z = false → m₁ z = m₀ z) :
    kstB (fun z => if stored.contains z then m₁ z else m₀ z) ps = m₁ := by
  funext y
  refine kstB_eq h1 fun hn => ?_
  show (if stored.contains y = true then m₁ y else m₀ y) = m₁ y
  cases h3 : stored.contains y with
  | true => simp
  | false => simp only [Bool.false_eq_true, if_false]; exact (h2 y hn h3).symm

theorem offI_of {I : Addr} {it : Obj} : ∀ {l : List (Addr × Obj)}, (∀ p ∈ l, @Ne Nat p.1 I) → OffI I it l
  | [], _ => trivial
  | p :: _, h => ⟨.inl (h p (.head _)), offI_of fun q hq => h q (.tail _ hq)⟩
section
variable {prog : Program} {w : World} {A : Around} {E : Value → Shared → Prop} {s : Shared} {env : Env} {h₀ : Heap} {x : Str} {body : List Stmt} {Q : Flow → Shared → Prop}
  {σ : Type} {Led : σ → List (Addr × Obj)} {ps : σ → List (Str × Value)} {stored : List Str} {m₀ : Str → Option Value} {I : Addr} {lp : Addr × Obj}

theorem post_unr {s' : Shared} {it : Obj} {P : σ → Prop} {rest : (Str → Option Value) → List (Addr × Obj) → Prop}
    (h : ∀ c m, P c → (∀ p ∈ Led c, @Ne Nat p.1 I) → (∀ p ∈ ps c, m p.1 = some p.2) → (∀ z, (∀ p ∈ ps c, z ≠ p.1) → stored.contains z = false → m z = m₀ z) → rest m (Led c))
    (f : Flow) (s₂ : Shared) (q : LPost h₀ env.locals s' I it Led ps stored m₀ P Q f s₂) : UnrPost h₀ env.locals s' I it rest Q f s₂ := by
  have fin : LEnd h₀ env.locals s' I it Led ps stored m₀ P s₂ → UnrEnd h₀ env.locals s' I it rest s₂ := by
    rintro ⟨c', h', tk, m', news', e, F, N, hI, hl, hk, hr, hp⟩
    exact ⟨h', tk, m', Led c', e, F, fun p hp => by
      rcases List.mem_cons.mp hp with rfl | hp
      · exact N _ hI
      · exact N _ (hl p hp).1, fun p hp => (hl p hp).2, h c' m' hp (fun p hp => (hl p hp).2) hk hr⟩
  cases f with
  | ret v => exact q
  | brk => exact q
  | next => exact fin q
  | cont => exact fin q

theorem rev_ind (P : List Value → σ → Prop) (hlp : ∀ c, lp ∈ Led c)
    (turn : ∀ v r c (u : Str → Option Value) it h tk, P (v :: r) c → (∀ p ∈ Led c, @Ne Nat p.1 I) → Fr h₀ env.locals h (fun y => if y = x then some v else kstB (fun z => if stored.contains z then u z else m₀ z) (ps c) y) → News h₀ env.locals h ((I, it) :: Led c) →
      wpAny (model prog w) A (execs body env) (LPost h₀ env.locals { s with heap := h, toks := tk } I it Led ps stored m₀ (P r) Q) E { s with heap := h, toks := tk })
    (done : ∀ c (u : Str → Option Value) h tk, P [] c → Fr h₀ env.locals h (kstB (fun z => if stored.contains z then u z else m₀ z) (ps c)) → News h₀ env.locals h (Led c) → Q .next { s with heap := h, toks := tk }) :
    ∀ (l : List Value) (c : σ) (m : Str → Option Value), P l c → (∀ p ∈ Led c, @Ne Nat p.1 I) → (∀ p ∈ ps c, m p.1 = some p.2) → (∀ z, (∀ p ∈ ps c, z ≠ p.1) → stored.contains z = false → m z = m₀ z) → RevRest prog w A E h₀ env x body Q s I lp l m (Led c)
  | [], c, m, hp, _, h1, h2 => RevRest.zero fun h tk F N => done c m h tk hp (by rw [map_eq h1 h2]; exact F) N
  | v :: r, c, m, hp, ho, h1, h2 => RevRest.succ fun it h tk _ F N => wpAny_mono (turn v r c m it h tk hp ho (by rw [map_eq h1 h2]; exact F) N)
      (fun f s₂ q => post_unr (fun c' m' hp' ho' h1' h2' => ⟨hlp c', rev_ind P hlp turn done r c' m' hp' ho' h1' h2'⟩) f s₂ q) fun _ _ e => e
theorem list_ind (P : List Value → σ → Prop) (hlp : ∀ c, lp ∈ Led c)
    (turn : ∀ v r c (u : Str → Option Value) it h tk, P (v :: r) c → (∀ p ∈ Led c, @Ne Nat p.1 I) → Fr h₀ env.locals h (fun y => if y = x then some v else kstB (fun z => if stored.contains z then u z else m₀ z) (ps c) y) → News h₀ env.locals h ((I, it) :: Led c) →
      wpAny (model prog w) A (execs body env) (LPost h₀ env.locals { s with heap := h, toks := tk } I it Led ps stored m₀ (P r) Q) E { s with heap := h, toks := tk })
    (done : ∀ c (u : Str → Option Value) h tk, P [] c → Fr h₀ env.locals h (kstB (fun z => if stored.contains z then u z else m₀ z) (ps c)) → News h₀ env.locals h (Led c) → Q .next { s with heap := h, toks := tk }) :
    ∀ (l : List Value) (c : σ) (m : Str → Option Value), P l c → (∀ p ∈ Led c, @Ne Nat p.1 I) → (∀ p ∈ ps c, m p.1 = some p.2) → (∀ z, (∀ p ∈ ps c, z ≠ p.1) → stored.contains z = false → m z = m₀ z) → ListRest prog w A E h₀ env x body Q s I lp l m (Led c)
  | [], c, m, hp, _, h1, h2 => ListRest.zero fun h tk F N => done c m h tk hp (by rw [map_eq h1 h2]; exact F) N
  | v :: r, c, m, hp, ho, h1, h2 => ListRest.succ fun it h tk _ F N => wpAny_mono (turn v r c m it h tk hp ho (by rw [map_eq h1 h2]; exact F) N)
      (fun f s₂ q => post_unr (fun c' m' hp' ho' h1' h2' => ⟨hlp c', list_ind P hlp turn done r c' m' hp' ho' h1' h2'⟩) f s₂ q) fun _ _ e => e
theorem str_ind (P : List Str → σ → Prop)
    (turn : ∀ v r c (u : Str → Option Value) t it h tk, P (v :: r) c → (∀ p ∈ Led c, @Ne Nat p.1 I) → Fr h₀ env.locals h (fun y => if y = x then some (.str v t) else kstB (fun z => if stored.contains z then u z else m₀ z) (ps c) y) → News h₀ env.locals h ((I, it) :: Led c) →
      wpAny (model prog w) A (execs body env) (LPost h₀ env.locals { s with heap := h, toks := tk } I it Led ps stored m₀ (P r) Q) E { s with heap := h, toks := tk })
    (done : ∀ c (u : Str → Option Value) h tk, P [] c → Fr h₀ env.locals h (kstB (fun z => if stored.contains z then u z else m₀ z) (ps c)) → News h₀ env.locals h (Led c) → Q .next { s with heap := h, toks := tk }) :
    ∀ (l : List Str) (c : σ) (m : Str → Option Value), P l c → (∀ p ∈ Led c, @Ne Nat p.1 I) → (∀ p ∈ ps c, m p.1 = some p.2) → (∀ z, (∀ p ∈ ps c, z ≠ p.1) → stored.contains z = false → m z = m₀ z) → StrRest prog w A E h₀ env x body Q s I l m (Led c)
  | [], c, m, hp, _, h1, h2 => StrRest.zero fun h tk F N => done c m h tk hp (by rw [map_eq h1 h2]; exact F) N
  | v :: r, c, m, hp, ho, h1, h2 => StrRest.succ fun t it h tk F N => wpAny_mono (turn v r c m t it h tk hp ho (by rw [map_eq h1 h2]; exact F) N)
      (fun f s₂ q => post_unr (fun c' m' hp' ho' h1' h2' => str_ind P turn done r c' m' hp' ho' h1' h2') f s₂ q) fun _ _ e => e

/-- for x in reversed(list) -/
theorem rev_loop {ax : Addr} {lo : Obj} {vs : List Value} {n : Nat} {news : List (Addr × Obj)} (Led : σ → List (Addr × Obj)) (ps : σ → List (Str × Value)) (stored : List Str) (P : List Value → σ → Prop) (c₀ : σ)
    (hh : A.handled = none) (F : Fr h₀ env.locals s.heap m₀) (N : News h₀ env.locals s.heap ((I, revObj ax ((vs.length : Int) - 1)) :: news)) (hof : ∀ p ∈ news, @Ne Nat p.1 I) (hc : lo.cls = .type "list") (hd : lo.data = .seq vs.toArray n)
    (hL : ∀ p ∈ Led c₀, p ∈ news) (hk : ∀ p ∈ ps c₀, m₀ p.1 = some p.2) (hp : P vs.reverse c₀) (hlp : ∀ c, (ax, lo) ∈ Led c)
    (turn : ∀ v r c (u : Str → Option Value) it h tk, P (v :: r) c → (∀ p ∈ Led c, @Ne Nat p.1 I) → Fr h₀ env.locals h (fun y => if y = x then some v else kstB (fun z => if stored.contains z then u z else m₀ z) (ps c) y) → News h₀ env.locals h ((I, it) :: Led c) →
      wpAny (model prog w) A (execs body env) (LPost h₀ env.locals { s with heap := h, toks := tk } I it Led ps stored m₀ (P r) Q) E { s with heap := h, toks := tk })
    (done : ∀ c (u : Str → Option Value) h tk, P [] c → Fr h₀ env.locals h (kstB (fun z => if stored.contains z then u z else m₀ z) (ps c)) → News h₀ env.locals h (Led c) → Q .next { s with heap := h, toks := tk }) :
    wpAny (model prog w) A (pyIter (.ref I)) (fun it s₂ => LoopAtV prog w A h₀ env x body Q E it s₂) E s := by
  have N' : News h₀ env.locals s.heap ((I, revObj ax ((vs.length : Int) - 1)) :: Led c₀) := fun p hp => by
    rcases List.mem_cons.mp hp with rfl | hp
    · exact N _ (.head _)
    · exact N _ (.tail _ (hL p hp))
  refine iter_revUnr hh F N' (offI_of fun p hp => hof p (hL p hp)) (hlp c₀) hc hd (rev_ind P hlp turn done vs.reverse c₀ m₀ hp (fun p hp => hof p (hL p hp)) hk fun _ _ _ => rfl)
/-- for x in list -/
theorem list_loop {ax : Addr} {lo : Obj} {vs : List Value} {n : Nat} {news : List (Addr × Obj)} (Led : σ → List (Addr × Obj)) (ps : σ → List (Str × Value)) (stored : List Str) (P : List Value → σ → Prop) (c₀ : σ)
    (hh : A.handled = none) (F : Fr h₀ env.locals s.heap m₀) (N : News h₀ env.locals s.heap news) (hc : lo.cls = .type "list") (hd : lo.data = .seq vs.toArray n)
    (hL : ∀ p ∈ Led c₀, p ∈ news) (hk : ∀ p ∈ ps c₀, m₀ p.1 = some p.2) (hp : P vs c₀) (hlp : ∀ c, (ax, lo) ∈ Led c)
    (turn : ∀ I, (∀ p ∈ Led c₀, p.1 < I) → ∀ v r c (u : Str → Option Value) it h tk, P (v :: r) c → (∀ p ∈ Led c, @Ne Nat p.1 I) → Fr h₀ env.locals h (fun y => if y = x then some v else kstB (fun z => if stored.contains z then u z else m₀ z) (ps c) y) → News h₀ env.locals h ((I, it) :: Led c) →
      wpAny (model prog w) A (execs body env) (LPost h₀ env.locals { s with heap := h, toks := tk } I it Led ps stored m₀ (P r) Q) E { s with heap := h, toks := tk })
    (done : ∀ c (u : Str → Option Value) h tk, P [] c → Fr h₀ env.locals h (kstB (fun z => if stored.contains z then u z else m₀ z) (ps c)) → News h₀ env.locals h (Led c) → Q .next { s with heap := h, toks := tk }) :
    wpAny (model prog w) A (pyIter (.ref ax)) (fun it s₂ => LoopAtV prog w A h₀ env x body Q E it s₂) E s :=
  iter_listUnr hh F (fun p hp => N p (hL p hp)) (hlp c₀) hc hd fun I hI => list_ind P hlp (turn I hI) done vs c₀ m₀ hp (fun p hp => Nat.ne_of_lt (hI p hp)) hk fun _ _ _ => rfl
/-- for x in text -/
theorem str_loop {tx : Str} {t : Tok} {news : List (Addr × Obj)} (Led : σ → List (Addr × Obj)) (ps : σ → List (Str × Value)) (stored : List Str) (P : List Str → σ → Prop) (c₀ : σ)
    (hh : A.handled = none) (F : Fr h₀ env.locals s.heap m₀) (N : News h₀ env.locals s.heap news)
    (hL : ∀ p ∈ Led c₀, p ∈ news) (hk : ∀ p ∈ ps c₀, m₀ p.1 = some p.2) (hp : P (tx.cps.toList.map (fun c => (⟨#[c]⟩ : Str))) c₀)
    (turn : ∀ I, (∀ p ∈ Led c₀, p.1 < I) → ∀ v r c (u : Str → Option Value) t it h tk, P (v :: r) c → (∀ p ∈ Led c, @Ne Nat p.1 I) → Fr h₀ env.locals h (fun y => if y = x then some (.str v t) else kstB (fun z => if stored.contains z then u z else m₀ z) (ps c) y) → News h₀ env.locals h ((I, it) :: Led c) →
      wpAny (model prog w) A (execs body env) (LPost h₀ env.locals { s with heap := h, toks := tk } I it Led ps stored m₀ (P r) Q) E { s with heap := h, toks := tk })
    (done : ∀ c (u : Str → Option Value) h tk, P [] c → Fr h₀ env.locals h (kstB (fun z => if stored.contains z then u z else m₀ z) (ps c)) → News h₀ env.locals h (Led c) → Q .next { s with heap := h, toks := tk }) :
    wpAny (model prog w) A (pyIter (.str tx t)) (fun it s₂ => LoopAtV prog w A h₀ env x body Q E it s₂) E s :=
  iter_strUnr hh F (fun p hp => N p (hL p hp)) rfl fun I hI => str_ind P (turn I hI) done _ c₀ m₀ hp (fun p hp => Nat.ne_of_lt (hI p hp)) hk fun _ _ _ => rfl
end
end
section
def innerOf : Option Obj → Option (Arguments × List Stmt × Scope)
  | some ⟨_, _, .func fd, _⟩ => (match fd.body with
      | .stmts (_ :: .FunctionDef _ a b _ _ _ sc _ _ _ :: _) => some (a, b, sc)
      | .stmts (.FunctionDef _ a b _ _ _ sc _ _ _ :: _) => some (a, b, sc)
      | _ => none)
  | _ => none
def fill (n : Int) : Nat → Int → Int → Int → List Int → List Int
  | 0, _, _, _, ns => ns
  | f + 1, x, L, R, ns => if L + 1 = R then ns.set L.toNat x else
      let mid := (L + R).fdiv (2 ^ Int.toNat 1)
      let sh := ((mid - L) * n).toNat
      fill n f (x.fdiv (2 ^ sh)) mid R (fill n f (Builtin.bitXor x (x.fdiv (2 ^ sh) * 2 ^ sh)) L mid ns)
theorem and_low (x k : Nat) : x &&& (x / 2 ^ k * 2 ^ k) = x / 2 ^ k * 2 ^ k := by
  apply Nat.eq_of_testBit_eq
  intro i
  rw [← Nat.shiftRight_eq_div_pow, ← Nat.shiftLeft_eq]
  simp only [Nat.testBit_and, Nat.testBit_shiftLeft, Nat.testBit_shiftRight]
  by_cases h : k ≤ i
  · simp [h]
  · simp [h]
theorem and_cast (a b : Nat) : Builtin.bitAnd (a : Int) (b : Int) = ((a &&& b : Nat) : Int) := by simp [Builtin.bitAnd]
theorem xor_low (x : Int) (k : Nat) (hx : 0 ≤ x) : Builtin.bitXor x (x.fdiv (2 ^ k) * 2 ^ k) = x % 2 ^ k := by
  obtain ⟨n, rfl⟩ := Int.eq_ofNat_of_zero_le hx
  have hp : (0 : Int) ≤ 2 ^ k := Int.pow_nonneg (by decide)
  have e : (n : Int).fdiv (2 ^ k) * 2 ^ k = ((n / 2 ^ k * 2 ^ k : Nat) : Int) := by
    rw [Int.fdiv_eq_ediv_of_nonneg _ hp]; push_cast; rfl
  rw [e, bitXor_and]
  have e2 : Builtin.bitAnd (n : Int) ((n / 2 ^ k * 2 ^ k : Nat) : Int) = ((n &&& (n / 2 ^ k * 2 ^ k) : Nat) : Int) := by
    exact and_cast ..
  rw [e2, and_low]
  have := Nat.div_add_mod n (2 ^ k)
  have e3 : ((n : Int) % 2 ^ k) = ((n % 2 ^ k : Nat) : Int) := by push_cast; rfl
  rw [e3]
  have e4 : 2 ^ k * (n / 2 ^ k) = n / 2 ^ k * 2 ^ k := Nat.mul_comm ..
  omega
theorem low_le (x : Int) (k : Nat) (hx : 0 ≤ x) : 0 ≤ x % 2 ^ k ∧ x % 2 ^ k ≤ x := by
  have hp : (0 : Int) < 2 ^ k := Int.pow_pos (by decide)
  refine ⟨Int.emod_nonneg _ (by omega), ?_⟩
  have h1 := Int.emod_def x (2 ^ k)
  have h2 : 0 ≤ 2 ^ k * (x / 2 ^ k) := Int.mul_nonneg (by omega) (Int.ediv_nonneg hx (by omega))
  omega
theorem up_le (x : Int) (k : Nat) (hx : 0 ≤ x) : 0 ≤ x.fdiv (2 ^ k) ∧ x.fdiv (2 ^ k) ≤ x := by
  have hp : (0 : Int) ≤ 2 ^ k := Int.pow_nonneg (by decide)
  rw [Int.fdiv_eq_ediv_of_nonneg _ hp]
  exact ⟨Int.ediv_nonneg hx hp, Int.ediv_le_self _ hx⟩
theorem fill_length (n : Int) : ∀ (f : Nat) (x L R : Int) (ns : List Int), (fill n f x L R ns).length = ns.length
  | 0, _, _, _, _ => rfl
  | f + 1, x, L, R, ns => by
    rw [fill]
    split
    · exact List.length_set ..
    · exact (fill_length n f _ _ _ _).trans (fill_length n f _ _ _ _)
local macro_rules | `(tactic| walk_at "eval Name") => `(tactic| (kc_free; k_dflt (refine' nameX_F ?N ?c ?m ?d ?_ ?a ?b ?e ?f; (case N => k_asm); (case c => exact rfl); (case m => k_mem); (case d => assumption); (case a => exact rfl); (case b => exact rfl); (case e => decide); (case f => decide)); walk_say "MY FREE"))
local macro_rules | `(tactic| walk_at $s:str) => `(tactic| k_extra $s)
set_option maxHeartbeats 2000000 in
theorem spec_inner (w : World) (n : Int) (tn : Tok) (hn : n = 1 ∨ n = 2 ∨ n = 3) (fi D c1 c2 c3 cc : Addr) (name qual : Str) (a2 : Arguments) (b2 : List Stmt) (sc2 : Scope) (doc pm ctv : Value) (o1 o2 o3 oc : Obj) (vs : Array Value) (tq : Tok)
    (hI : innerOf (List.lookup 63 (Mine.part.heap_1 w.params)) = some (a2, b2, sc2))
    (d1 : o1.data = .cell (some (.ref D))) (d2 : o2.data = .cell (some (.ref fi))) (d3 : o3.data = .cell (some (.int n tn))) (e1 : oc.data = .fields vs) (e2 : vs[1]? = some (.str qual tq))
    (o : @LT.lt Nat _ c1 D ∧ @LT.lt Nat _ c2 D ∧ @LT.lt Nat _ c3 D ∧ @Ne Nat D cc ∧ @LT.lt Nat _ D fi)
    (f : Nat) : ∀ (dd uu : Nat) (x L R : Int) (tx tl tr : Tok) (us : List Value) (ns : List Int) (nn : Nat), 0 ≤ L → L < R → R - L ≤ f → R ≤ ns.length → ns.length ≤ 10 → 0 ≤ x → x < 1000000 → IntsAre us ns → dd + f ≤ 980 → uu + 10 * f ≤ 9000 →
    SpecF w fi dd uu [.int x tx, .int L tl, .int R tr] [(fi, fnMade name qual a2 b2 sc2 [("n", c3), ("inner", c2), ("a_digits", c1)] doc pm cc ctv), (cc, oc), (D, W.listOf us.toArray nn), (c2, o2), (c1, o1), (c3, o3)]
      (PostG (α := List Value × Nat) (fun a _ => IntsAre a.1 (fill n f x L R ns)) (fun a => [(fi, fnMade name qual a2 b2 sc2 [("n", c3), ("inner", c2), ("a_digits", c1)] doc pm cc ctv), (cc, oc), (D, W.listOf a.1.toArray a.2), (c2, o2), (c1, o1), (c3, o3)]) (fun _ => [])) := by
  k_with_none
  w_top off
  have kf : SpecF w 0 0 0 [] [] (fun _ _ _ => True) → True := by unfold SpecF; k_fill; intro _; trivial
  clear kf
  rw [show List.lookup 63 (Mine.part.heap_1 w.params) = some _ by k_is] at hI
  simp only [innerOf, Option.some.injEq, Prod.mk.injEq] at hI
  obtain ⟨rfl, rfl, rfl⟩ := hI
  induction f with
  | zero => intros; omega
  | succ f ih =>
    intro dd uu x L R tx tl tr us ns nn hL hLR hf hR hnl hx hx2 hi hdd huu p loose mean mg mb h₀ s R' X T hk hs hret
    refine' enterX (binds := [("x", .int x tx), ("L", .int L tl), ("R", .int R tr)]) ?kX ?kT ?kk ?ks ?ko ?kd ?kc ?kr ?kb ?kl ?_ ?c1 ?c2 ?c3 ?c4; (case kX => assumption); (case kT => assumption); (case kk => assumption); (case ks => assumption); (case ko => exact .head _); (case kd => exact rfl); (case kc => exact ⟨cc, oc, vs, tq, rfl, (hs _ (.tail _ (.head _))).1, e1, e2⟩); (case kr => (first | decide | (simp only [recursionLimit]; omega))); (case kb => exact BindsTo.of_eq rfl); (case kl => exact locs rfl); (case c1 => exact rfl); (case c2 => exact rfl); (case c3 => exact rfl); (case c4 => decide); k_whole
    intro g L' h' F' N' X' T' l1 st1 st2
    k_lt l1
    (try dsimp only)
    (try k_fold)
    have hlen := hi.length
    have codeHd : CodeHd g 62 58 := codeHd_of_K X' (by rfl)
    have hmid : (L + R).fdiv (2 ^ Int.toNat 1) = (L + R) / 2 := by rw [Int.fdiv_eq_ediv_of_nonneg _ (by decide)]; rfl
    have hsh : 0 ≤ ((L + R).fdiv (2 ^ Int.toNat 1) - L) * n ∧ ((L + R).fdiv (2 ^ Int.toNat 1) - L) * n ≤ 30 := by
      rw [hmid]; rcases hn with rfl | rfl | rfl <;> constructor <;> omega
    have hlo := xor_low x (((L + R).fdiv (2 ^ Int.toNat 1) - L) * n).toNat hx
    have hlo0 : 0 ≤ x % 2 ^ (((L + R).fdiv (2 ^ Int.toNat 1) - L) * n).toNat ∧ x % 2 ^ (((L + R).fdiv (2 ^ Int.toNat 1) - L) * n).toNat ≤ x := low_le x _ hx
    have hup0 : 0 ≤ x.fdiv (2 ^ (((L + R).fdiv (2 ^ Int.toNat 1) - L) * n).toNat) ∧ x.fdiv (2 ^ (((L + R).fdiv (2 ^ Int.toNat 1) - L) * n).toNat) ≤ x := up_le x _ hx
    k_with "call ref" => (refine' useG (rest := []) (ih (dd+1) (uu+3) _ _ _ _ _ _ _ _ _ ?a1 ?a2 ?a3 ?a4 ?a5 ?a6 ?a7 ?a8 ?a9 ?a10) ?hh ?hd ?hu ?F ?X ?N ?T ?off ?adr ?_; (case F => k_asm); (case N => (simp only [List.append_nil]; k_asm)); (case X => k_asm); (case T => k_asm); (case hh => exact rfl); (case hd => exact Nat.le_refl _); (case hu => exact Nat.le_refl _); (case off => exact List.forall_mem_nil _); (case adr => (intro a q hq; exact List.mem_map_of_mem (f := fun x => x.1) hq)); (case a9 => omega); (case a10 => omega); (case a8 => assumption); (case a1 => omega); (case a2 => omega); (case a3 => omega); (case a4 => first | omega | (rw [fill_length]; omega)); (case a5 => first | omega | (rw [fill_length]; omega)); (case a6 => first | omega | (rw [hlo]; omega)); (case a7 => first | omega | (rw [hlo]; omega)); intro a r h' tk hP F' N' hne; (simp only [List.append_nil, List.nil_append] at N'); (try dsimp only at hP))
    k_steps
    · show LeaveS _ _ _ _
      refine leaveG (s := s) st1 (by assumption) (by assumption) (us.set L.toNat (.int x tx), nn) ?_ (fun q hq => hq) (List.forall_mem_nil _) hret
      show IntsAre _ (fill n (f + 1) x L R ns)
      rw [fill, if_pos (by assumption)]
      assumption
    · show LeaveS _ _ _ _
      refine leaveG (s := s) st1 (by assumption) (by assumption) ?w ?_ (fun q hq => hq) (List.forall_mem_nil _) hret
      show IntsAre _ (fill n (f + 1) x L R ns)
      rw [fill, if_neg (by assumption)]
      assumption
end
section
local macro_rules | `(tactic| walk_at $s:str) => `(tactic| k_extra $s)
theorem news_drop4 {h₀ h : Heap} {L : Addr} {a b c j : Addr × Obj} {r : List (Addr × Obj)} (N : News h₀ L h (a :: b :: c :: j :: r)) : News h₀ L h (a :: b :: c :: r) := fun q hq => N q (by
  rcases List.mem_cons.mp hq with rfl | hq
  · exact .head _
  · rcases List.mem_cons.mp hq with rfl | hq
    · exact .tail _ (.head _)
    · rcases List.mem_cons.mp hq with rfl | hq
      · exact .tail _ (.tail _ (.head _))
      · exact .tail _ (.tail _ (.tail _ (.tail _ hq))))
def cnt (a n : Int) : Int := ((Builtin.Int.intBits a : Int) + n - 1).fdiv n
theorem cnt_le {a n : Int} (h1 : 0 ≤ a) (h2 : a < 64) (hn : n = 1 ∨ n = 2 ∨ n = 3) : 0 ≤ cnt a n ∧ cnt a n ≤ 6 ∧ (a ≠ 0 → 0 < cnt a n) := by
  have hb : Builtin.Int.intBits a ≤ 6 := intBits_le (by omega)
  have h0 : a ≠ 0 → 0 < Builtin.Int.intBits a := fun h => by
    unfold Builtin.Int.intBits
    rw [if_neg (by simpa using h)]; omega
  unfold cnt
  rw [Int.fdiv_eq_ediv_of_nonneg _ (by omega)]
  rcases hn with rfl | rfl | rfl <;> (refine ⟨by omega, by omega, fun h => ?_⟩; have := h0 h; omega)
def i2d (a n : Int) : List Int := if a = 0 then List.replicate (cnt a n).toNat 0 else fill n 7 a 0 (cnt a n) (List.replicate (cnt a n).toNat 0)
def qI : Str := Str.ofString "_int2digits.<locals>.inner"
def CodeOK (q : Str) (oc : Obj) : Prop := ∃ vs t, oc.data = .fields vs ∧ vs[1]? = some (.str q t)
set_option maxHeartbeats 4000000 in
theorem spec_i2d (w : World) (a n : Int) (ta tn : Tok) (h1 : 0 ≤ a) (h2 : a < 64) (hn : n = 1 ∨ n = 2 ∨ n = 3) :
    SpecF w 63 900 8000 [.int a ta, .int n tn] [(58, tabObj #[])]
      (PostG (α := Addr × List Value × Nat × Addr × Obj) (fun a' r => r = .ref a'.1 ∧ IntsAre a'.2.1 (i2d a n) ∧ CodeOK qI a'.2.2.2.2 ∧ @LT.lt Nat _ a'.1 a'.2.2.2.1)
        (fun a' => [(58, tabObj #[rawInt 58, rawInt 4, .ref a'.2.2.2.1])]) (fun a' => [(a'.1, W.listOf a'.2.1.toArray a'.2.2.1), (a'.2.2.2.1, a'.2.2.2.2)])) := by
  k_with_none
  w_top off
  have kf : SpecF w 0 0 0 [] [] (fun _ _ _ => True) → True := by unfold SpecF; k_fill; intro _; trivial
  clear kf
  intro p loose mean mg mb h₀ s R X T hk hs hret
  refine' enterC (binds := [("a", .int a ta), ("n", .int n tn)]) ?kX ?kT ?kk ?ks ?ko ?kc ?kr ?kb ?kl ?kd ?_ ?c1 ?c2 ?c3; (case kX => assumption); (case kT => assumption); (case kk => assumption); (case ks => assumption); (case ko => k_is); (case kc => k_is); (case kr => (first | decide | (simp only [recursionLimit]; omega))); (case kb => exact BindsTo.of_eq rfl); (case kl => exact rfl); (case kd => decide +kernel); (case c1 => exact rfl); (case c2 => exact rfl); (case c3 => exact rfl); k_whole
  intro g L' h' tk cells F' N' Y' X' T' l1 st1 st2
  k_lt l1
  k_cells Y'
  (try simp only [List.cons_append, List.nil_append] at N')
  have codeHd : CodeHd g 62 58 := codeHd_of_K X' (by rfl)
  have hc := cnt_le h1 h2 hn
  have hcd := hc
  unfold cnt at hcd
  (try dsimp only)
  (try k_fold)
  k_with "binaryOp Mult ref int" => (refine' rep0 ?F ?N ?l ?lo ?hi ?_; (case F => k_asm); (case N => k_asm); (case l => is_list); (case lo => omega); (case hi => omega); intro D' h' us F' N' l1 hI; k_lt l1)
  have hR : ((List.replicate (((Builtin.Int.intBits a : Int) + n - 1).fdiv n).toNat (0 : Int)).length : Int) = ((Builtin.Int.intBits a : Int) + n - 1).fdiv n := by rw [List.length_replicate]; omega
  k_with "call builtin:len" => (refine' lenL ?N ?m ?i ?f ?_; (case N => k_asm); (case m => k_mem); (case i => with_reducible assumption); (case f => omega))
  k_steps
  · (rename News _ _ _ _ => N9)
    (have N8 := news_drop4 N9)
    refine' useG (spec_inner w n tn hn _ _ _ _ _ _ _ _ _ _ _ _ _ _ _ _ _ _ _ _ ?hI ?d1 ?d2 ?d3 ?e1 ?e2 ?o 7 901 8003 _ _ _ _ _ _ _ _ _ ?a1 ?a2 ?a3 ?a4 ?a5 ?a6 ?a7 ?a8 ?a9 ?a10) ?hh ?hd ?hu ?F ?X N8 ?T ?off ?adr ?_
    (case X => k_asm); (case F => k_asm); (case T => k_asm)
    (case hh => exact rfl); (case hd => exact Nat.le_refl _); (case hu => exact Nat.le_refl _)
    (case a8 => assumption)
    (case a1 => omega); (case a2 => omega); (case a3 => omega); (case a4 => omega); (case a5 => omega); (case a6 => omega); (case a7 => omega); (case a9 => omega); (case a10 => omega)
    (case hI => (rw [show List.lookup 63 (Mine.part.heap_1 w.params) = some _ by k_is]; exact rfl))
    (case d1 => assumption); (case d2 => assumption); (case d3 => assumption)
    (case e1 => assumption); (case e2 => assumption)
    (case o => omega)
    (case adr => (intro a q hq; exact List.mem_map_of_mem (f := fun x => x.1) hq))
    (case off => refine' List.forall_mem_cons.mpr ⟨?o1, List.forall_mem_nil _⟩; (case o1 => k_all))
    intro a9 r9 h9 tk9 hP9 F9 N9' hne9
    clear hne9
    simp only [List.nil_append, List.cons_append, List.append_nil] at N9'
    clear N8 N9
    (try dsimp only)
    (try k_fold)
    k_steps
    (try simp only [Array.empty_append] at N9')
    show LeaveS _ _ _ _
    refine' leaveG (s := s) st1 (by assumption) (by assumption) (D', a9.1, a9.2, ?cc, ?oc) ?hP ?hu ?hn hret
    case hu => (refine' List.forall_mem_cons.mpr ⟨?_, List.forall_mem_nil _⟩; k_mem)
    case hn => (refine' List.forall_mem_cons.mpr ⟨⟨?_, ?_⟩, List.forall_mem_cons.mpr ⟨⟨?_, ?_⟩, List.forall_mem_nil _⟩⟩; k_mem; k_all; k_mem; k_all)
    refine ⟨rfl, ?_, ⟨_, _, by assumption, by assumption⟩, ?_⟩
    · show IntsAre a9.1 (i2d a n)
      rw [i2d, if_neg (by assumption)]
      rw [hR] at hP9
      exact hP9
    · dsimp only; omega
  · show LeaveS _ _ _ _
    (rename News _ _ _ _ => N9')
    (try simp only [Array.empty_append] at N9')
    refine' leaveG (s := s) st1 (by assumption) (by assumption) (D', us, 0, ?cc2, ?oc2) ?hP2 ?hu2 ?hn2 hret
    case hu2 => (refine' List.forall_mem_cons.mpr ⟨?_, List.forall_mem_nil _⟩; k_mem)
    case hn2 => (refine' List.forall_mem_cons.mpr ⟨⟨?_, ?_⟩, List.forall_mem_cons.mpr ⟨⟨?_, ?_⟩, List.forall_mem_nil _⟩⟩; k_mem; k_all; k_mem; k_all)
    refine ⟨rfl, ?_, ⟨_, _, by assumption, by assumption⟩, ?_⟩
    · show IntsAre us (i2d a n)
      rw [i2d, if_pos (by assumption)]
      exact hI
    · dsimp only; omega
end
section
local macro_rules | `(tactic| walk_at $s:str) => `(tactic| k_extra $s)
theorem news_sub {h₀ h : Heap} {L : Addr} {l l' : List (Addr × Obj)} (N : News h₀ L h l) (hs : ∀ q ∈ l', q ∈ l) : News h₀ L h l' := fun q hq => N q (hs q hq)
theorem news_hit {h₀ h : Heap} {L : Addr} {a b c j x y z t : Addr × Obj} {r : List (Addr × Obj)} (N : News h₀ L h (a :: c :: j :: x :: y :: z :: t :: b :: r)) : News h₀ L h (a :: b :: c :: x :: y :: z :: t :: r) :=
  news_sub N fun q hq => by
    simp only [List.mem_cons] at hq ⊢
    rcases hq with h | h | h | h | h | h | h | h <;> simp [h]
set_option maxHeartbeats 4000000 in
theorem spec_i2dB (w : World) (a n : Int) (ta tn : Tok) (h1 : 0 ≤ a) (h2 : a < 64) (hn : n = 1 ∨ n = 2 ∨ n = 3) (cc : Addr) (oc : Obj) (vs : Array Value) (tq : Tok) (hq1 : oc.data = .fields vs) (hq2 : vs[1]? = some (.str qI tq)) (hcc : @Ne Nat 58 cc) :
    SpecF w 63 900 8000 [.int a ta, .int n tn] [(58, tabObj #[rawInt 58, rawInt 4, .ref cc]), (cc, oc)]
      (PostG (α := Addr × List Value × Nat) (fun a' r => r = .ref a'.1 ∧ IntsAre a'.2.1 (i2d a n))
        (fun _ => [(58, tabObj #[rawInt 58, rawInt 4, .ref cc]), (cc, oc)]) (fun a' => [(a'.1, W.listOf a'.2.1.toArray a'.2.2)])) := by
  k_with_none
  w_top off
  have kf : SpecF w 0 0 0 [] [] (fun _ _ _ => True) → True := by unfold SpecF; k_fill; intro _; trivial
  clear kf
  intro p loose mean mg mb h₀ s R X T hk hs hret
  refine' enterC (binds := [("a", .int a ta), ("n", .int n tn)]) ?kX ?kT ?kk ?ks ?ko ?kc ?kr ?kb ?kl ?kd ?_ ?c1 ?c2 ?c3; (case kX => assumption); (case kT => assumption); (case kk => assumption); (case ks => assumption); (case ko => k_is); (case kc => k_is); (case kr => (first | decide | (simp only [recursionLimit]; omega))); (case kb => exact BindsTo.of_eq rfl); (case kl => exact rfl); (case kd => decide +kernel); (case c1 => exact rfl); (case c2 => exact rfl); (case c3 => exact rfl); k_whole
  intro g L' h' tk cells F' N' Y' X' T' l1 st1 st2
  k_lt l1
  k_cells Y'
  (try simp only [List.cons_append, List.nil_append] at N')
  have codeHd : CodeHd g 62 58 := codeHd_of_K X' (by rfl)
  have hc := cnt_le h1 h2 hn
  have hcd := hc
  unfold cnt at hcd
  (try dsimp only)
  (try k_fold)
  k_with "binaryOp Mult ref int" => (refine' rep0 ?F ?N ?l ?lo ?hi ?_; (case F => k_asm); (case N => k_asm); (case l => is_list); (case lo => omega); (case hi => omega); intro D' h' us F' N' l1 hI; k_lt l1)
  have hR : ((List.replicate (((Builtin.Int.intBits a : Int) + n - 1).fdiv n).toNat (0 : Int)).length : Int) = ((Builtin.Int.intBits a : Int) + n - 1).fdiv n := by rw [List.length_replicate]; omega
  k_with "call builtin:len" => (refine' lenL ?N ?m ?i ?f ?_; (case N => k_asm); (case m => k_mem); (case i => with_reducible assumption); (case f => omega))
  k_steps
  · (rename News _ _ _ _ => N9)
    (have N8 := news_hit N9)
    refine' useG (spec_inner w n tn hn _ _ _ _ _ _ _ _ _ _ _ _ _ _ _ _ _ _ _ _ ?hI ?d1 ?d2 ?d3 ?e1 ?e2 ?o 7 901 8003 _ _ _ _ _ _ _ _ _ ?a1 ?a2 ?a3 ?a4 ?a5 ?a6 ?a7 ?a8 ?a9 ?a10) ?hh ?hd ?hu ?F ?X N8 ?T ?off ?adr ?_
    (case X => k_asm); (case F => k_asm); (case T => k_asm)
    (case hh => exact rfl); (case hd => exact Nat.le_refl _); (case hu => exact Nat.le_refl _)
    (case a8 => assumption)
    (case a1 => omega); (case a2 => omega); (case a3 => omega); (case a4 => omega); (case a5 => omega); (case a6 => omega); (case a7 => omega); (case a9 => omega); (case a10 => omega)
    (case hI => (rw [show List.lookup 63 (Mine.part.heap_1 w.params) = some _ by k_is]; exact rfl))
    (case d1 => assumption); (case d2 => assumption); (case d3 => assumption)
    (case e1 => assumption); (case e2 => assumption)
    (case o => omega)
    (case adr => (intro a q hq; exact List.mem_map_of_mem (f := fun x => x.1) hq))
    (case off => refine' List.forall_mem_cons.mpr ⟨?o1, List.forall_mem_nil _⟩; (case o1 => k_all))
    intro a9 r9 h9 tk9 hP9 F9 N9' hne9
    clear hne9
    simp only [List.nil_append, List.cons_append, List.append_nil] at N9'
    clear N8 N9
    (try dsimp only)
    (try k_fold)
    k_steps
    show LeaveS _ _ _ _
    refine' leaveG (s := s) st1 (by assumption) (by assumption) (D', a9.1, a9.2) ?hP ?hu ?hn hret
    case hu => (refine' List.forall_mem_cons.mpr ⟨?_, List.forall_mem_cons.mpr ⟨?_, List.forall_mem_nil _⟩⟩; k_mem; k_mem)
    case hn => (refine' List.forall_mem_cons.mpr ⟨⟨?_, ?_⟩, List.forall_mem_nil _⟩; k_mem; k_all)
    refine ⟨rfl, ?_⟩
    show IntsAre a9.1 (i2d a n)
    rw [i2d, if_neg (by assumption)]
    rw [hR] at hP9
    exact hP9
  · show LeaveS _ _ _ _
    refine' leaveG (s := s) st1 (by assumption) (by assumption) (D', us, 0) ?hP2 ?hu2 ?hn2 hret
    case hu2 => (refine' List.forall_mem_cons.mpr ⟨?_, List.forall_mem_cons.mpr ⟨?_, List.forall_mem_nil _⟩⟩; k_mem; k_mem)
    case hn2 => (refine' List.forall_mem_cons.mpr ⟨⟨?_, ?_⟩, List.forall_mem_nil _⟩; k_mem; k_all)
    refine ⟨rfl, ?_⟩
    show IntsAre us (i2d a n)
    rw [i2d, if_pos (by assumption)]
    exact hI
end
section
local macro_rules | `(tactic| walk_at "eval Name") => `(tactic| (kc_free; k_dflt (refine' nameX_F ?N ?c ?m ?d ?_ ?a ?b ?e ?f; (case N => k_asm); (case c => exact rfl); (case m => k_mem); (case d => assumption); (case a => exact rfl); (case b => exact rfl); (case e => decide); (case f => decide))))
local macro_rules | `(tactic| walk_at $s:str) => `(tactic| k_extra $s)
def unfl (n : Int) : Nat → Int → Int → List Int → Int
  | 0, _, _, _ => 0
  | f + 1, L, R, ns => if L + 1 = R then ns.getD L.toNat 0 else
      let mid := (L + R).fdiv (2 ^ Int.toNat 1)
      let sh := ((mid - L) * n).toNat
      unfl n f mid R ns * 2 ^ sh + unfl n f L mid ns
theorem getD_lt {ns : List Int} (hel : ∀ x ∈ ns, 0 ≤ x ∧ x < 1000) (i : Nat) : 0 ≤ ns.getD i 0 ∧ ns.getD i 0 < 1000 := by
  rw [List.getD_eq_getElem?_getD]
  cases h : ns[i]? with
  | none => exact ⟨by decide, by decide⟩
  | some x => exact hel x (List.mem_of_getElem? h)
theorem unfl_bits {n : Int} (hn : n = 1 ∨ n = 2 ∨ n = 3) {ns : List Int} (hel : ∀ x ∈ ns, 0 ≤ x ∧ x < 1000) :
    ∀ (f : Nat) (L R : Int), 0 ≤ L → L < R → R ≤ 10 → Builtin.Int.intBits (unfl n f L R ns) ≤ 10 + 32 * f
  | 0, _, _, _, _, _ => by simp [unfl, Builtin.Int.intBits]
  | f + 1, L, R, hL, hLR, hR => by
    rw [unfl]
    split
    · have := getD_lt hel L.toNat
      have h := intBits_le (a := ns.getD L.toNat 0) (k := 10) (by omega)
      omega
    · have hmid : (L + R).fdiv (2 ^ Int.toNat 1) = (L + R) / 2 := by rw [Int.fdiv_eq_ediv_of_nonneg _ (by decide)]; rfl
      have h1 := unfl_bits hn hel f ((L + R).fdiv (2 ^ Int.toNat 1)) R (by omega) (by omega) hR
      have h2 := unfl_bits hn hel f L ((L + R).fdiv (2 ^ Int.toNat 1)) hL (by omega) (by omega)
      have hsh : (((L + R).fdiv (2 ^ Int.toNat 1) - L) * n).toNat ≤ 30 := by
        rw [hmid]; rcases hn with rfl | rfl | rfl <;> omega
      have h3 : Builtin.Int.intBits ((2 : Int) ^ (((L + R).fdiv (2 ^ Int.toNat 1) - L) * n).toNat) ≤ 31 := by
        refine intBits_le ?_
        rw [Int.natAbs_pow]
        exact Nat.lt_of_le_of_lt (Nat.pow_le_pow_right (by decide) hsh) (by decide)
      have h4 := intBits_add_le (intBits_mul_le h1 h3) h2
      dsimp only
      omega
set_option maxHeartbeats 4000000 in
theorem spec_inner2 (w : World) (n : Int) (tn : Tok) (hn : n = 1 ∨ n = 2 ∨ n = 3) (fi D c1 c2 c3 cc : Addr) (name qual : Str) (a2 : Arguments) (b2 : List Stmt) (sc2 : Scope) (doc pm ctv : Value) (o1 o2 o3 oc : Obj) (vs : Array Value) (tq : Tok)
    (hI : innerOf (List.lookup 70 (Mine.part.heap_1 w.params)) = some (a2, b2, sc2))
    (d1 : o1.data = .cell (some (.ref D))) (d2 : o2.data = .cell (some (.ref fi))) (d3 : o3.data = .cell (some (.int n tn))) (e1 : oc.data = .fields vs) (e2 : vs[1]? = some (.str qual tq))
    (us : List Value) (ns : List Int) (nn : Nat) (hnl : ns.length ≤ 10) (hi : IntsAre us ns) (hel : ∀ x ∈ ns, 0 ≤ x ∧ x < 1000)
    (f : Nat) : ∀ (dd uu : Nat) (L R : Int) (tl tr : Tok), 0 ≤ L → L < R → R - L ≤ f → R ≤ ns.length → dd + f ≤ 980 → uu + 10 * f ≤ 9000 →
    SpecF w fi dd uu [.int L tl, .int R tr] [(fi, fnMade name qual a2 b2 sc2 [("n", c3), ("inner", c2), ("digits", c1)] doc pm cc ctv), (cc, oc), (c2, o2), (c3, o3), (c1, o1), (D, W.listOf us.toArray nn)]
      (PostG (α := Tok) (fun t r => r = .int (unfl n f L R ns) t) (fun _ => [(fi, fnMade name qual a2 b2 sc2 [("n", c3), ("inner", c2), ("digits", c1)] doc pm cc ctv), (cc, oc), (c2, o2), (c3, o3), (c1, o1), (D, W.listOf us.toArray nn)]) (fun _ => [])) := by
  k_with_none
  w_top off
  have kf : SpecF w 0 0 0 [] [] (fun _ _ _ => True) → True := by unfold SpecF; k_fill; intro _; trivial
  clear kf
  rw [show List.lookup 70 (Mine.part.heap_1 w.params) = some _ by k_is] at hI
  simp only [innerOf, Option.some.injEq, Prod.mk.injEq] at hI
  obtain ⟨rfl, rfl, rfl⟩ := hI
  induction f with
  | zero => intros; omega
  | succ f ih =>
    intro dd uu L R tl tr hL hLR hf hR hdd huu p loose mean mg mb h₀ s R' X T hk hs hret
    refine' enterX (binds := [("L", .int L tl), ("R", .int R tr)]) ?kX ?kT ?kk ?ks ?ko ?kd ?kc ?kr ?kb ?kl ?_ ?c1 ?c2 ?c3 ?c4; (case kX => assumption); (case kT => assumption); (case kk => assumption); (case ks => assumption); (case ko => exact .head _); (case kd => exact rfl); (case kc => exact ⟨cc, oc, vs, tq, rfl, (hs _ (.tail _ (.head _))).1, e1, e2⟩); (case kr => (first | decide | (simp only [recursionLimit]; omega))); (case kb => exact BindsTo.of_eq rfl); (case kl => exact locs rfl); (case c1 => exact rfl); (case c2 => exact rfl); (case c3 => exact rfl); (case c4 => decide); k_whole
    intro g L' h' F' N' X' T' l1 st1 st2
    k_lt l1
    (try dsimp only)
    (try k_fold)
    have hlen := hi.length
    have codeHd : CodeHd g 69 65 := codeHd_of_K X' (by rfl)
    have hmid : (L + R).fdiv (2 ^ Int.toNat 1) = (L + R) / 2 := by rw [Int.fdiv_eq_ediv_of_nonneg _ (by decide)]; rfl
    have hsh : 0 ≤ ((L + R).fdiv (2 ^ Int.toNat 1) - L) * n ∧ ((L + R).fdiv (2 ^ Int.toNat 1) - L) * n ≤ 30 := by
      rw [hmid]; rcases hn with rfl | rfl | rfl <;> constructor <;> omega
    k_with "call ref" => (refine' useG (rest := []) (ih (dd+1) (uu+3) _ _ _ _ ?a1 ?a2 ?a3 ?a4 ?a9 ?a10) ?hh ?hd ?hu ?F ?X ?N ?T ?off ?adr ?_; (case F => k_asm); (case N => (simp only [List.append_nil]; k_asm)); (case X => k_asm); (case T => k_asm); (case hh => exact rfl); (case hd => exact Nat.le_refl _); (case hu => exact Nat.le_refl _); (case off => exact List.forall_mem_nil _); (case adr => (intro a q hq; exact List.mem_map_of_mem (f := fun x => x.1) hq)); (case a9 => omega); (case a10 => omega); (case a1 => omega); (case a2 => omega); (case a3 => omega); (case a4 => omega); intro a r h' tk hP F' N' hne; (simp only [List.append_nil, List.nil_append] at N'); (try dsimp only at hP); subst hP)
    k_with "binaryOp LShift int int" => (refine' lshift_int ?lsa ?lsb ?_; (case lsa => omega); (case lsb => (have hbb := unfl_bits hn hel f ((L + R).fdiv (2 ^ Int.toNat 1)) R (by omega) (by omega) (by omega); omega)))
    k_steps
    · show LeaveS _ _ _ _
      refine' leaveG (s := s) st1 (by assumption) (by assumption) _ ?hP (fun q hq => hq) (List.forall_mem_nil _) hret
      case hP => (show _ = Value.int (unfl n (f + 1) L R ns) _; rw [unfl, if_pos (by assumption)])
    · (try dsimp only)
      refine' leaveG (s := s) st1 (by assumption) (by assumption) _ ?hP2 (fun q hq => hq) (List.forall_mem_nil _) hret
      case hP2 => (show _ = Value.int (unfl n (f + 1) L R ns) _; rw [unfl, if_neg (by assumption)])
end
section
local macro_rules | `(tactic| walk_at $s:str) => `(tactic| k_extra $s)
theorem news_swA {h₀ h : Heap} {L : Addr} {a b c d e t x : Addr × Obj} {r : List (Addr × Obj)} (N : News h₀ L h (a :: b :: c :: d :: e :: t :: x :: r)) : News h₀ L h (a :: b :: c :: d :: e :: x :: t :: r) :=
  news_sub N fun q hq => by
    simp only [List.mem_cons] at hq ⊢
    rcases hq with h | h | h | h | h | h | h | h <;> simp [h]
theorem news_swB {h₀ h : Heap} {L : Addr} {a b c d e t x : Addr × Obj} {r : List (Addr × Obj)} (N : News h₀ L h (a :: c :: d :: e :: t :: b :: x :: r)) : News h₀ L h (a :: b :: c :: d :: e :: x :: t :: r) :=
  news_sub N fun q hq => by
    simp only [List.mem_cons] at hq ⊢
    rcases hq with h | h | h | h | h | h | h | h <;> simp [h]
def qD : Str := Str.ofString "_digits2int.<locals>.inner"
def d2i (n : Int) (ns : List Int) : Int := if ns = [] then 0 else unfl n 10 0 ns.length ns
set_option maxHeartbeats 4000000 in
theorem spec_d2i (w : World) (dl : Addr) (n : Int) (tn : Tok) (us : List Value) (ns : List Int) (nn : Nat) (hi : IntsAre us ns) (hel : ∀ x ∈ ns, 0 ≤ x ∧ x < 1000) (hnl : ns.length ≤ 10) (hn : n = 1 ∨ n = 2 ∨ n = 3) (hdl : @Ne Nat 65 dl) :
    SpecF w 70 900 8000 [.ref dl, .int n tn] [(65, tabObj #[]), (dl, W.listOf us.toArray nn)]
      (PostG (α := Tok × Addr × Obj) (fun a' r => r = .int (d2i n ns) a'.1 ∧ CodeOK qD a'.2.2)
        (fun a' => [(65, tabObj #[rawInt 73, rawInt 4, .ref a'.2.1]), (dl, W.listOf us.toArray nn)]) (fun a' => [a'.2])) := by
  k_with_none
  w_top off
  have kf : SpecF w 0 0 0 [] [] (fun _ _ _ => True) → True := by unfold SpecF; k_fill; intro _; trivial
  clear kf
  intro p loose mean mg mb h₀ s R X T hk hs hret
  refine' enterC (binds := [("digits", .ref dl), ("n", .int n tn)]) ?kX ?kT ?kk ?ks ?ko ?kc ?kr ?kb ?kl ?kd ?_ ?c1 ?c2 ?c3; (case kX => assumption); (case kT => assumption); (case kk => assumption); (case ks => assumption); (case ko => k_is); (case kc => k_is); (case kr => (first | decide | (simp only [recursionLimit]; omega))); (case kb => exact BindsTo.of_eq rfl); (case kl => exact rfl); (case kd => decide +kernel); (case c1 => exact rfl); (case c2 => exact rfl); (case c3 => exact rfl); k_whole
  intro g L' h' tk cells F' N' Y' X' T' l1 st1 st2
  k_lt l1
  k_cells Y'
  (try simp only [List.cons_append, List.nil_append] at N')
  have codeHd : CodeHd g 69 65 := codeHd_of_K X' (by rfl)
  have hlen := hi.length
  (try dsimp only)
  (try k_fold)
  k_with "call builtin:len" => (refine' lenL ?N ?m ?i ?f ?_; (case N => k_asm); (case m => k_mem); (case i => with_reducible assumption); (case f => omega))
  k_steps
  · (rename News _ _ _ _ => N9)
    (have N8 := news_swA N9)
    refine' useG (spec_inner2 w n tn hn _ _ _ _ _ _ _ _ _ _ _ _ _ _ _ _ _ _ _ _ ?hI ?d1 ?d2 ?d3 ?e1 ?e2 us ns nn hnl hi hel 10 901 8003 _ _ _ _ ?a1 ?a2 ?a3 ?a4 ?a9 ?a10) ?hh ?hd ?hu ?F ?X N8 ?T ?off ?adr ?_
    (case X => k_asm); (case F => k_asm); (case T => k_asm)
    (case hh => exact rfl); (case hd => exact Nat.le_refl _); (case hu => exact Nat.le_refl _)
    (case a1 => omega); (case a2 => omega); (case a3 => omega); (case a4 => omega); (case a9 => omega); (case a10 => omega)
    (case hI => (rw [show List.lookup 70 (Mine.part.heap_1 w.params) = some _ by k_is]; exact rfl))
    (case d1 => assumption); (case d2 => assumption); (case d3 => assumption)
    (case e1 => assumption); (case e2 => assumption)
    (case adr => (intro a q hq; exact List.mem_map_of_mem (f := fun x => x.1) hq))
    (case off => refine' List.forall_mem_cons.mpr ⟨?o1, List.forall_mem_nil _⟩; (case o1 => k_all))
    intro t9 r9 h9 tk9 hP9 F9 N9' hne9
    clear hne9
    simp only [List.nil_append, List.cons_append] at N9'
    clear N8 N9
    (try dsimp only at hP9)
    subst hP9
    (try dsimp only)
    (try simp only [Array.empty_append] at N9')
    show LeaveS _ _ _ _
    refine' leaveG (s := s) st1 (by assumption) (by assumption) (t9, ?xc, ?xo) ?xP ?xu ?xn hret
    case xu => (refine' List.forall_mem_cons.mpr ⟨?_, List.forall_mem_cons.mpr ⟨?_, List.forall_mem_nil _⟩⟩; k_mem; k_mem)
    case xn => (refine' List.forall_mem_cons.mpr ⟨⟨?_, ?_⟩, List.forall_mem_nil _⟩; k_mem; k_all)
    refine ⟨?_, ⟨_, _, by assumption, by assumption⟩⟩
    show Value.int (unfl n 10 0 ns.length ns) t9 = Value.int (d2i n ns) t9
    rw [d2i, if_neg (by intro e; have e' := congrArg List.length e; simp only [List.length_nil] at e'; omega)]
  · show LeaveS _ _ _ _
    (rename News _ _ _ _ => N9')
    (try simp only [Array.empty_append] at N9')
    refine' leaveG (s := s) st1 (by assumption) (by assumption) (?yt, ?yc, ?yo) ?yP ?yu ?yn hret
    case yu => (refine' List.forall_mem_cons.mpr ⟨?_, List.forall_mem_cons.mpr ⟨?_, List.forall_mem_nil _⟩⟩; k_mem; k_mem)
    case yn => (refine' List.forall_mem_cons.mpr ⟨⟨?_, ?_⟩, List.forall_mem_nil _⟩; k_mem; k_all)
    case yP => (refine' ⟨?_, ⟨_, _, by assumption, by assumption⟩⟩; show _ = Value.int (d2i n ns) _; rw [d2i, if_pos (List.eq_nil_of_length_eq_zero (by omega))])
end
section
local macro_rules | `(tactic| walk_at $s:str) => `(tactic| k_extra $s)
set_option maxHeartbeats 4000000 in
theorem spec_d2iB (w : World) (dl : Addr) (n : Int) (tn : Tok) (us : List Value) (ns : List Int) (nn : Nat) (hi : IntsAre us ns) (hel : ∀ x ∈ ns, 0 ≤ x ∧ x < 1000) (hnl : ns.length ≤ 10) (hn : n = 1 ∨ n = 2 ∨ n = 3) (cc : Addr) (oc : Obj) (vs : Array Value) (tq : Tok) (hq1 : oc.data = .fields vs) (hq2 : vs[1]? = some (.str qD tq)) (hcc : @Ne Nat 65 cc) (hdl : @Ne Nat cc dl) (hdl2 : @Ne Nat 65 dl) :
    SpecF w 70 900 8000 [.ref dl, .int n tn] [(65, tabObj #[rawInt 73, rawInt 4, .ref cc]), (cc, oc), (dl, W.listOf us.toArray nn)]
      (PostG (α := Tok) (fun a' r => r = .int (d2i n ns) a')
        (fun _ => [(65, tabObj #[rawInt 73, rawInt 4, .ref cc]), (cc, oc), (dl, W.listOf us.toArray nn)]) (fun _ => [])) := by
  k_with_none
  w_top off
  have kf : SpecF w 0 0 0 [] [] (fun _ _ _ => True) → True := by unfold SpecF; k_fill; intro _; trivial
  clear kf
  intro p loose mean mg mb h₀ s R X T hk hs hret
  refine' enterC (binds := [("digits", .ref dl), ("n", .int n tn)]) ?kX ?kT ?kk ?ks ?ko ?kc ?kr ?kb ?kl ?kd ?_ ?c1 ?c2 ?c3; (case kX => assumption); (case kT => assumption); (case kk => assumption); (case ks => assumption); (case ko => k_is); (case kc => k_is); (case kr => (first | decide | (simp only [recursionLimit]; omega))); (case kb => exact BindsTo.of_eq rfl); (case kl => exact rfl); (case kd => decide +kernel); (case c1 => exact rfl); (case c2 => exact rfl); (case c3 => exact rfl); k_whole
  intro g L' h' tk cells F' N' Y' X' T' l1 st1 st2
  k_lt l1
  k_cells Y'
  (try simp only [List.cons_append, List.nil_append] at N')
  have codeHd : CodeHd g 69 65 := codeHd_of_K X' (by rfl)
  have hlen := hi.length
  (try dsimp only)
  (try k_fold)
  k_with "call builtin:len" => (refine' lenL ?N ?m ?i ?f ?_; (case N => k_asm); (case m => k_mem); (case i => with_reducible assumption); (case f => omega))
  k_steps
  · (rename News _ _ _ _ => N9)
    (have N8 := news_swB N9)
    refine' useG (spec_inner2 w n tn hn _ _ _ _ _ _ _ _ _ _ _ _ _ _ _ _ _ _ _ _ ?hI ?d1 ?d2 ?d3 ?e1 ?e2 us ns nn hnl hi hel 10 901 8003 _ _ _ _ ?a1 ?a2 ?a3 ?a4 ?a9 ?a10) ?hh ?hd ?hu ?F ?X N8 ?T ?off ?adr ?_
    (case X => k_asm); (case F => k_asm); (case T => k_asm)
    (case hh => exact rfl); (case hd => exact Nat.le_refl _); (case hu => exact Nat.le_refl _)
    (case a1 => omega); (case a2 => omega); (case a3 => omega); (case a4 => omega); (case a9 => omega); (case a10 => omega)
    (case hI => (rw [show List.lookup 70 (Mine.part.heap_1 w.params) = some _ by k_is]; exact rfl))
    (case d1 => assumption); (case d2 => assumption); (case d3 => assumption)
    (case e1 => assumption); (case e2 => assumption)
    (case adr => (intro a q hq; exact List.mem_map_of_mem (f := fun x => x.1) hq))
    (case off => refine' List.forall_mem_cons.mpr ⟨?o1, List.forall_mem_nil _⟩; (case o1 => k_all))
    intro t9 r9 h9 tk9 hP9 F9 N9' hne9
    clear hne9
    simp only [List.nil_append, List.cons_append] at N9'
    clear N8 N9
    (try dsimp only at hP9)
    subst hP9
    (try dsimp only)
    show LeaveS _ _ _ _
    refine' leaveG (s := s) st1 (by assumption) (by assumption) t9 ?xP ?xu (List.forall_mem_nil _) hret
    case xu => (refine' List.forall_mem_cons.mpr ⟨?_, List.forall_mem_cons.mpr ⟨?_, List.forall_mem_cons.mpr ⟨?_, List.forall_mem_nil _⟩⟩⟩; k_mem; k_mem; k_mem)
    show Value.int (unfl n 10 0 ns.length ns) t9 = Value.int (d2i n ns) t9
    rw [d2i, if_neg (by intro e; have e' := congrArg List.length e; simp only [List.length_nil] at e'; omega)]
  · show LeaveS _ _ _ _
    refine' leaveG (s := s) st1 (by assumption) (by assumption) ?yt ?yP ?yu (List.forall_mem_nil _) hret
    case yu => (refine' List.forall_mem_cons.mpr ⟨?_, List.forall_mem_cons.mpr ⟨?_, List.forall_mem_cons.mpr ⟨?_, List.forall_mem_nil _⟩⟩⟩; k_mem; k_mem; k_mem)
    case yP => (show _ = Value.int (d2i n ns) _; rw [d2i, if_pos (List.eq_nil_of_length_eq_zero (by omega))])
end
section
local macro_rules | `(tactic| walk_at $s:str) => `(tactic| k_extra $s)
abbrev tupObj (vs : List Value) : Obj := { cls := .type "tuple", data := .seq vs.toArray }
set_option maxHeartbeats 8000000 in
theorem spec_div2 (w : World) (a b n : Int) (ta tb tn : Tok) (h1 : 0 ≤ a) (h2 : a < 100000) (h3 : 0 < b) (h4 : b < 1000) (h5 : 0 < n) :
    SpecF w 49 950 8500 [.int a ta, .int b tb, .int n tn] []
      (PostG (α := Addr × Tok × Tok) (fun t r => r = .ref t.1) (fun _ => []) (fun t => [(t.1, tupObj [.int (a / b) t.2.1, .int (a % b) t.2.2])])) := by
  k_with_none
  w_top off
  have kf : SpecF w 0 0 0 [] [] (fun _ _ _ => True) → True := by unfold SpecF; k_fill; intro _; trivial
  clear kf
  intro p loose mean mg mb h₀ s R X T hk hs hret
  (refine' enterS (binds := [("a", .int a ta), ("b", .int b tb), ("n", .int n tn)]) ?kX ?kT ?kk ?ks ?ko ?kc ?kr ?kb ?kl ?_ ?c1 ?c2 ?c3 ?c4; (case kX => assumption); (case kT => assumption); (case kk => assumption); (case ks => assumption); (case ko => k_is); (case kc => k_is); (case kr => (first | decide | (simp only [recursionLimit]; omega))); (case kb => exact BindsTo.of_eq rfl); (case kl => exact locs rfl); (case c1 => exact rfl); (case c2 => exact rfl); (case c3 => exact rfl); (case c4 => decide); k_whole)
  intro g L' h' F' N' X' T' l1 st1 st2
  (try dsimp only)
  (try k_fold)
  have hb : (Builtin.Int.intBits a : Int) ≤ 64 := by exact_mod_cast intBits_le_64 (by omega) (by omega)
  k_with "ite" => (refine ite_pos (decide_eq_true (by omega)) ?_)
  k_steps
  (try dsimp only)
  show LeaveS _ _ _ _
  refine' leaveG (s := s) st1 (by assumption) (by assumption) (_, _, _) ?hP (List.forall_mem_nil _) ?hn hret
  case hP => exact rfl
  case hn =>
    refine' List.forall_mem_cons.mpr ⟨⟨?_, List.forall_mem_nil _⟩, List.forall_mem_nil _⟩
    rw [← Int.fdiv_eq_ediv_of_nonneg _ (Int.le_of_lt h3), ← Int.fmod_eq_emod_of_nonneg _ (Int.le_of_lt h3)]
    exact List.Mem.head _
end
section
/-- two addresses apart, kept out of omega's sight -/
def NeA (a b : Addr) : Prop := @Ne Nat a b
theorem NeA.out {a b : Addr} (h : NeA a b) : a ≠ b := h
theorem NeA.gt {a b : Addr} (h : @LT.lt Nat _ b a) : NeA a b := Nat.ne_of_gt h
theorem NeA.flip {a b : Addr} (h : NeA a b) : b ≠ a := fun e => h e.symm
/-- a post with all objects given: each of `sel` or new -/
abbrev PostU {α : Type} (P : α → Value → Prop) (all : α → List (Addr × Obj)) (sel : List (Addr × Obj)) (r : Value) (h h' : Heap) : Prop :=
  ∃ a : α, P a r ∧ ∀ q ∈ all a, h'.get? q.1 = some q.2 ∧ (q.1 ∈ sel.map (·.1) ∨ h.get? q.1 = none)
theorem leaveU {α : Type} {P : α → Value → Prop} {all : α → List (Addr × Obj)} {sel : List (Addr × Obj)} {s : Shared} {g h' : Heap} {tk' : Nat} {L' : Addr} {m' : Str → Option Value} {news' : List (Addr × Obj)} {R : Result → Shared → Prop} {v : Value}
    (st1 : Stay s.heap g (sel.map (·.1))) (F' : Fr g L' h' m') (N' : News g L' h' news') (a : α) (hP : P a v) (hn : ∀ q ∈ all a, q ∈ news')
    (hret : ∀ r h' tk', Stay s.heap h' (sel.map (·.1)) → PostU P all sel r s.heap h' → R (.ok (.ret r)) { s with heap := h', toks := tk' }) :
    LeaveS g R v { s with heap := h', toks := tk' } := by
  refine leaveS F' N' fun k1 k2 => hret _ _ _ (stay_of st1 k1) ⟨a, hP, fun q hq => ⟨(k2 q (hn q hq)).1, ?_⟩⟩
  by_cases hs : q.1 ∈ sel.map (·.1)
  · exact .inl hs
  · right
    cases e : s.heap.get? q.1 with
    | none => rfl
    | some o => have e2 := st1 _ _ e hs; rw [(k2 q (hn q hq)).2] at e2; cases e2
theorem leaveUT {α : Type} {P : α → Value → Prop} {all : α → List (Addr × Obj)} {sel : List (Addr × Obj)} {s : Shared} {g h' : Heap} {tk' : Nat} {L' : Addr} {m' : Str → Option Value} {news' : List (Addr × Obj)} {R : Result → Shared → Prop} {t : Addr} {o : Obj}
    (st1 : Stay s.heap g (sel.map (·.1))) (F' : Fr g L' h' m') (N' : News g L' h' ((t, o) :: news')) (mk : Addr → α) (hP : P (mk t) (.ref t)) (hn : ∀ q ∈ all (mk t), q ∈ (t, o) :: news')
    (hret : ∀ r h' tk', Stay s.heap h' (sel.map (·.1)) → PostU P all sel r s.heap h' → R (.ok (.ret r)) { s with heap := h', toks := tk' }) :
    LeaveS g R (.ref t) { s with heap := h', toks := tk' } := leaveU st1 F' N' (mk t) hP hn hret
theorem useUC {α : Type} {P : α → Value → Prop} {all : α → List (Addr × Obj)} {w : World} {f : Addr} {d u : Nat} {args : List Value} {sel rest : List (Addr × Obj)} (C : SpecF w f d u args sel (PostU P all sel))
    {A : Around} {p : Program} {loose : List Str} {mean : ExcName → Option Value} {mg mb : Str → Option Value} {h₀ : Heap} {L : Addr} {m : Str → Option Value} {s : Shared} {R : Result → Shared → Prop}
    (hh : A.handled = none) (hde : A.depth ≤ d) (hu : A.units ≤ u)
    (F : Fr h₀ L s.heap m) (X : (Mine.part.heap_1 w.params).In h₀) (N : News h₀ L s.heap (sel ++ rest)) (T : Top p loose mean mg mb h₀) (hoff : ∀ q ∈ rest, ∀ p ∈ sel, p.1 ≠ q.1)
    (h : ∀ a r h' tk', P a r → Fr h₀ L h' m → News h₀ L h' (all a ++ rest) → (∀ q ∈ all a, ∀ p ∈ rest, NeA p.1 q.1) → R (.ok (.ret r)) { s with heap := h', toks := tk' }) :
    codeAny (model PySem.Challenge.rw_ph0168_01.row.prog w) A (.call (.ref f) ⟨args, []⟩) R s := by
  refine AA_code d u (C p loose mean mg mb h₀ s _ X T F.keep (fun q hq => ⟨(N q (List.mem_append_left _ hq)).1, (N q (List.mem_append_left _ hq)).2.2⟩) fun r h' tk' st po => ?_) hh hde hu
  have nm : ∀ b o, h₀.get? b = some o → b ∉ sel.map (·.1) := fun b o e q => by
    obtain ⟨p, hp, rfl⟩ := List.mem_map.mp q
    rw [(N p (List.mem_append_left _ hp)).2.2] at e; cases e
  have nL : L ∉ sel.map (·.1) := fun q => by
    obtain ⟨p, hp, e⟩ := List.mem_map.mp q
    exact (N p (List.mem_append_left _ hp)).2.1 e
  obtain ⟨oL, es, ep, hL, hLd, hLk, hLf⟩ := F.ns
  have F' : Fr h₀ L h' m := ⟨⟨oL, es, ep, st _ _ hL nL, hLd, hLk, hLf⟩, fun b o e => st b o (F.keep b o e) (nm b o e), F.above⟩
  have N' : ∀ q ∈ rest, h'.get? q.1 = some q.2 ∧ q.1 ≠ L ∧ h₀.get? q.1 = none := fun q hq => ⟨st _ _ (N q (List.mem_append_right _ hq)).1 (fun z => by obtain ⟨p, hp, e⟩ := List.mem_map.mp z; exact hoff q hq p hp e), (N q (List.mem_append_right _ hq)).2⟩
  obtain ⟨a, hP, h2⟩ := po
  refine h a r h' tk' hP F' (fun q hq => ?_) fun q hq p hp e => ?_
  · rcases List.mem_append.mp hq with hq | hq
    · rcases (h2 q hq).2 with hm | hm
      · obtain ⟨p, hp, e⟩ := List.mem_map.mp hm
        have n := N p (List.mem_append_left _ hp)
        rw [← e]
        exact ⟨by rw [e]; exact (h2 q hq).1, n.2⟩
      · refine ⟨(h2 q hq).1, fun e => ?_, ?_⟩
        · rw [← e, hm] at hL; cases hL
        · cases e : h₀.get? q.1 with
          | none => rfl
          | some o => have := F.keep _ _ e; rw [hm] at this; cases this
    · exact N' q hq
  · rcases (h2 q hq).2 with hm | hm
    · obtain ⟨p2, hp2, e2⟩ := List.mem_map.mp hm
      exact hoff p hp p2 hp2 (e2.trans e.symm)
    · have n := (N p (List.mem_append_right _ hp)).1
      rw [e, hm] at n; cases n
theorem useU {α : Type} {P : α → Value → Prop} {all : α → List (Addr × Obj)} {w : World} {f : Addr} {d u : Nat} {args : List Value} {sel rest : List (Addr × Obj)} (C : SpecF w f d u args sel (PostU P all sel))
    {A : Around} {p : Program} {loose : List Str} {mean : ExcName → Option Value} {mg mb : Str → Option Value} {h₀ : Heap} {L : Addr} {m : Str → Option Value} {s : Shared} {Q E : Value → Shared → Prop}
    (hh : A.handled = none) (hde : A.depth ≤ d) (hu : A.units ≤ u)
    (F : Fr h₀ L s.heap m) (X : (Mine.part.heap_1 w.params).In h₀) (N : News h₀ L s.heap (sel ++ rest)) (T : Top p loose mean mg mb h₀) (hoff : ∀ q ∈ rest, ∀ p ∈ sel, p.1 ≠ q.1)
    (h : ∀ a r h' tk', P a r → Fr h₀ L h' m → News h₀ L h' (all a ++ rest) → (∀ q ∈ all a, ∀ p ∈ rest, NeA p.1 q.1) → Q r { s with heap := h', toks := tk' }) :
    wpAny (model PySem.Challenge.rw_ph0168_01.row.prog w) A (call (.ref f) args) Q E s :=
  wpAny_call (useUC C hh hde hu F X N T hoff fun a r h' tk' hP F' N' hne => h a r h' tk' hP F' N' hne)
end
section
local macro_rules | `(tactic| walk_at $s:str) => `(tactic| k_extra $s)
local macro_rules | `(tactic| k_ne) => `(tactic| first | exact NeA.out (by assumption) | exact NeA.flip (by assumption) | (refine neN ?_; (try dsimp only); omega))
def dmLoop (b n : Int) : List Int → Int → List Int → List Int × Int
  | [], r, qs => (qs, r)
  | d :: ds, r, qs => dmLoop b n ds ((r * 2 ^ n.toNat + d) % b) (qs ++ [(r * 2 ^ n.toNat + d) / b])
def dmP (a b : Int) : Int × Int :=
  let n : Int := Builtin.Int.intBits b
  let o := dmLoop b n (i2d a n).reverse 0 []
  (d2i n o.1.reverse, o.2)
structure DmS where
  r : Int
  tr : Tok
  qs : List Int
  qvs : List Value
  nn : Nat
abbrev DmP (b n : Int) (fin : List Int × Int) (l : List Value) (c : DmS) : Prop :=
  ∃ ds, IntsAre l ds ∧ (∀ x ∈ ds, 0 ≤ x ∧ x < 64) ∧ 0 ≤ c.r ∧ c.r < b ∧ IntsAre c.qvs c.qs ∧ (∀ x ∈ c.qs, 0 ≤ x ∧ x < 1000) ∧ c.qs.length + ds.length ≤ 6 ∧ dmLoop b n ds c.r c.qs = fin
theorem fill_mem {n M : Int} : ∀ (f : Nat) (x L R : Int) (ns : List Int), 0 ≤ x → x < M → (∀ y ∈ ns, 0 ≤ y ∧ y < M) → ∀ y ∈ fill n f x L R ns, 0 ≤ y ∧ y < M
  | 0, _, _, _, _, _, _, h => h
  | f + 1, x, L, R, ns, h0, h1, h => by
    rw [fill]
    split
    · intro y hy
      rcases List.mem_or_eq_of_mem_set hy with hy | rfl
      · exact h y hy
      · exact ⟨h0, h1⟩
    · have hlo := xor_low x (((L + R).fdiv (2 ^ Int.toNat 1) - L) * n).toNat h0
      have h2 := low_le x (((L + R).fdiv (2 ^ Int.toNat 1) - L) * n).toNat h0
      have h3 := up_le x (((L + R).fdiv (2 ^ Int.toNat 1) - L) * n).toNat h0
      dsimp only
      exact fill_mem f _ _ _ _ h3.1 (by omega) (fill_mem f _ _ _ _ (by rw [hlo]; omega) (by rw [hlo]; omega) h)
theorem i2d_mem {a n : Int} (h0 : 0 ≤ a) (h1 : a < 64) : ∀ y ∈ i2d a n, 0 ≤ y ∧ y < 64 := by
  have hr : ∀ y ∈ List.replicate (cnt a n).toNat (0 : Int), 0 ≤ y ∧ y < 64 := fun y hy => by rw [List.eq_of_mem_replicate hy]; decide
  unfold i2d
  split
  · exact hr
  · exact fill_mem _ _ _ _ _ h0 h1 hr
theorem i2d_length {a n : Int} (h1 : 0 ≤ a) (h2 : a < 64) (hn : n = 1 ∨ n = 2 ∨ n = 3) : (i2d a n).length ≤ 6 := by
  have := cnt_le h1 h2 hn
  unfold i2d
  split
  · rw [List.length_replicate]; omega
  · rw [fill_length, List.length_replicate]; omega
theorem dmP_all : ((List.range 64).all fun a => (List.range 7).all fun b => b == 0 || dmP (a : Nat) (b : Nat) == (((a / b : Nat) : Int), ((a % b : Nat) : Int))) = true := by decide +kernel
theorem dmP_eq {a b : Int} (h1 : 0 ≤ a) (h2 : a < 64) (h3 : 0 < b) (h4 : b ≤ 6) : dmP a b = (a / b, a % b) := by
  obtain ⟨a, rfl⟩ := Int.eq_ofNat_of_zero_le h1
  obtain ⟨b, rfl⟩ := Int.eq_ofNat_of_zero_le (Int.le_of_lt h3)
  have h := List.all_eq_true.mp (List.all_eq_true.mp dmP_all a (List.mem_range.mpr (by omega))) b (List.mem_range.mpr (by omega))
  rw [Bool.or_eq_true] at h
  rcases h with h | h
  · have := beq_iff_eq.mp h; omega
  · rw [beq_iff_eq.mp h]; push_cast; rfl
theorem dmP_fin {a b cr : Int} {cqs : List Int} (h1 : 0 ≤ a) (h2 : a < 64) (h3 : 0 < b) (h4 : b ≤ 6)
    (hfin : dmLoop b (Builtin.Int.intBits b) [] cr cqs = dmLoop b (Builtin.Int.intBits b) (i2d a (Builtin.Int.intBits b)).reverse 0 []) : d2i (Builtin.Int.intBits b) cqs.reverse = a / b ∧ cr = a % b := by
  have hqr := dmP_eq h1 h2 h3 h4
  unfold dmP at hqr
  dsimp only at hqr
  rw [← hfin] at hqr
  exact Prod.mk.inj hqr
structure Tb where
  a1 : Obj
  a2 : Obj
  c1 : Addr
  o1 : Obj
  c2 : Addr
  o2 : Obj
abbrev tbL (y : Tb) : List (Addr × Obj) := [(58, y.a1), (65, y.a2), (y.c1, y.o1), (y.c2, y.o2)]
def tb0 : Tb := ⟨tabObj #[], tabObj #[], 58, tabObj #[], 65, tabObj #[]⟩
def TbOK (y : Tb) : Prop := y = tb0 ∨ (y.a1 = tabObj #[rawInt 58, rawInt 4, .ref y.c1] ∧ y.a2 = tabObj #[rawInt 73, rawInt 4, .ref y.c2] ∧
  CodeOK qI y.o1 ∧ CodeOK qD y.o2 ∧ @Ne Nat 58 y.c1 ∧ @Ne Nat 65 y.c1 ∧ @Ne Nat 58 y.c2 ∧ @Ne Nat 65 y.c2 ∧ @Ne Nat y.c1 y.c2)
structure IdR where
  z : Tb
  t : Addr
  tq : Tok
  tr : Tok
def TI (x : Obj) (c : Addr) (o : Obj) : Prop := (x = tabObj #[] ∧ c = 58 ∧ o = tabObj #[]) ∨ (x = tabObj #[rawInt 58, rawInt 4, .ref c] ∧ CodeOK qI o ∧ @Ne Nat 58 c)
def TD (x : Obj) (c : Addr) (o : Obj) : Prop := (x = tabObj #[] ∧ c = 65 ∧ o = tabObj #[]) ∨ (x = tabObj #[rawInt 73, rawInt 4, .ref c] ∧ CodeOK qD o ∧ @Ne Nat 65 c)
theorem TbOK.parts {a1 a2 : Obj} {c1 c2 : Addr} {o1 o2 : Obj} (h : TbOK ⟨a1, a2, c1, o1, c2, o2⟩) : TI a1 c1 o1 ∧ TD a2 c2 o2 ∧ NeA 58 c2 ∧ NeA 65 c1 ∧ NeA c1 c2 := by
  rcases h with h | ⟨e1, e2, q1, q2, n1, n2, n3, n4, n5⟩
  · injection h with h1 h2 h3 h4 h5 h6
    subst h1 h2 h3 h4 h5 h6
    exact ⟨.inl ⟨rfl, rfl, rfl⟩, .inl ⟨rfl, rfl, rfl⟩, (by decide : (58 : Nat) ≠ 65), (by decide : (65 : Nat) ≠ 58), (by decide : (58 : Nat) ≠ 65)⟩
  · exact ⟨.inr ⟨e1, q1, n1⟩, .inr ⟨e2, q2, n4⟩, n3, n2, n5⟩
structure RI where
  D : Addr
  us : List Value
  n : Nat
  c : Addr
  o : Obj
/-- _int2digits's law: its table of code objects may be filled at this call -/
theorem spec_i2dU (w : World) (a n : Int) (ta tn : Tok) (h1 : 0 ≤ a) (h2 : a < 64) (hn : n = 1 ∨ n = 2 ∨ n = 3) (x : Obj) (c : Addr) (o : Obj) (hx : TI x c o) :
    SpecF w 63 900 8000 [.int a ta, .int n tn] [(58, x), (c, o)]
      (PostU (α := RI) (fun k r => r = .ref k.D ∧ IntsAre k.us (i2d a n) ∧ CodeOK qI k.o ∧ NeA 58 k.c ∧ NeA k.D 58 ∧ NeA k.D k.c)
        (fun k => [(k.D, W.listOf k.us.toArray k.n), (58, tabObj #[rawInt 58, rawInt 4, .ref k.c]), (k.c, k.o)]) [(58, x), (c, o)]) := by
  intro p loose mean mg mb h₀ s R X T hk hs hret
  have nn : ∀ {h' : Heap} {q r : Addr × Obj}, q ∈ [((58 : Addr), x), (c, o)] → h'.get? r.1 = some r.2 ∧ s.heap.get? r.1 = none → @Ne Nat r.1 q.1 := fun hq hr e => by
    have := (hs _ hq).1; rw [← e, hr.2] at this; cases this
  rcases hx with ⟨rfl, rfl, rfl⟩ | ⟨rfl, ⟨vs, tq, q1, q2⟩, hc⟩
  · refine spec_i2d w a n ta tn h1 h2 hn p loose mean mg mb h₀ s R X T hk (fun q hq => hs q (by rw [List.mem_singleton.mp hq]; exact .head _)) fun r h' tk' st po => hret r h' tk' (fun b o e z => st b o e fun hm => z (.tail _ hm)) ?_
    obtain ⟨⟨D, us, m, cc, oc⟩, ⟨rfl, hi, hcode, hlt⟩, hu, hw⟩ := po
    have w1 := hw _ (.head _)
    have w2 := hw _ (.tail _ (.head _))
    refine ⟨⟨D, us, m, cc, oc⟩, ⟨rfl, hi, hcode, fun e => nn (.head _) w2 e.symm, nn (.head _) w1, Nat.ne_of_lt hlt⟩, ?_⟩
    exact List.forall_mem_cons.mpr ⟨⟨w1.1, .inr w1.2⟩, List.forall_mem_cons.mpr ⟨⟨hu _ (.head _), .inl (.head _)⟩, List.forall_mem_cons.mpr ⟨⟨w2.1, .inr w2.2⟩, List.forall_mem_nil _⟩⟩⟩
  · refine spec_i2dB w a n ta tn h1 h2 hn c o vs tq q1 q2 hc p loose mean mg mb h₀ s R X T hk hs fun r h' tk' st po => hret r h' tk' st ?_
    obtain ⟨⟨D, us, m⟩, ⟨rfl, hi⟩, hu, hw⟩ := po
    have w1 := hw _ (.head _)
    refine ⟨⟨D, us, m, c, o⟩, ⟨rfl, hi, ⟨vs, tq, q1, q2⟩, hc, nn (.head _) w1, nn (.tail _ (.head _)) w1⟩, ?_⟩
    exact List.forall_mem_cons.mpr ⟨⟨w1.1, .inr w1.2⟩, List.forall_mem_cons.mpr ⟨⟨hu _ (.head _), .inl (.head _)⟩, List.forall_mem_cons.mpr ⟨⟨hu _ (.tail _ (.head _)), .inl (.tail _ (.head _))⟩, List.forall_mem_nil _⟩⟩⟩
structure RD where
  t : Tok
  c : Addr
  o : Obj
theorem spec_d2iU (w : World) (dl : Addr) (n : Int) (tn : Tok) (us : List Value) (ns : List Int) (nn : Nat) (hi : IntsAre us ns) (hel : ∀ x ∈ ns, 0 ≤ x ∧ x < 1000) (hnl : ns.length ≤ 10) (hn : n = 1 ∨ n = 2 ∨ n = 3) (x : Obj) (c : Addr) (o : Obj) (hx : TD x c o) (hdl : NeA 65 dl) (hcl : NeA c dl) :
    SpecF w 70 900 8000 [.ref dl, .int n tn] [(65, x), (c, o), (dl, W.listOf us.toArray nn)]
      (PostU (α := RD) (fun k r => r = .int (d2i n ns) k.t ∧ CodeOK qD k.o ∧ NeA 65 k.c)
        (fun k => [(65, tabObj #[rawInt 73, rawInt 4, .ref k.c]), (k.c, k.o), (dl, W.listOf us.toArray nn)]) [(65, x), (c, o), (dl, W.listOf us.toArray nn)]) := by
  intro p loose mean mg mb h₀ s R X T hk hs hret
  have nn' : ∀ {h' : Heap} {q r : Addr × Obj}, q ∈ [((65 : Addr), x), (c, o), (dl, W.listOf us.toArray nn)] → h'.get? r.1 = some r.2 ∧ s.heap.get? r.1 = none → @Ne Nat r.1 q.1 := fun hq hr e => by
    have := (hs _ hq).1; rw [← e, hr.2] at this; cases this
  rcases hx with ⟨rfl, rfl, rfl⟩ | ⟨rfl, ⟨vs, tq, q1, q2⟩, hc⟩
  · refine spec_d2i w dl n tn us ns nn hi hel hnl hn hdl p loose mean mg mb h₀ s R X T hk (fun q hq => hs q (.tail _ hq)) fun r h' tk' st po => hret r h' tk' (fun b o e z => st b o e fun hm => z (.tail _ hm)) ?_
    obtain ⟨⟨t, cc, oc⟩, ⟨rfl, hcode⟩, hu, hw⟩ := po
    have w2 := hw _ (.head _)
    refine ⟨⟨t, cc, oc⟩, ⟨rfl, hcode, fun e => nn' (.head _) w2 e.symm⟩, ?_⟩
    exact List.forall_mem_cons.mpr ⟨⟨hu _ (.head _), .inl (.head _)⟩, List.forall_mem_cons.mpr ⟨⟨w2.1, .inr w2.2⟩, List.forall_mem_cons.mpr ⟨⟨hu _ (.tail _ (.head _)), .inl (.tail _ (.tail _ (.head _)))⟩, List.forall_mem_nil _⟩⟩⟩
  · refine spec_d2iB w dl n tn us ns nn hi hel hnl hn c o vs tq q1 q2 hc hcl hdl p loose mean mg mb h₀ s R X T hk hs fun r h' tk' st po => hret r h' tk' st ?_
    obtain ⟨t, rfl, hu, hw⟩ := po
    refine ⟨⟨t, c, o⟩, ⟨rfl, ⟨vs, tq, q1, q2⟩, hc⟩, ?_⟩
    exact List.forall_mem_cons.mpr ⟨⟨hu _ (.head _), .inl (.head _)⟩, List.forall_mem_cons.mpr ⟨⟨hu _ (.tail _ (.head _)), .inl (.tail _ (.head _))⟩, List.forall_mem_cons.mpr ⟨⟨hu _ (.tail _ (.tail _ (.head _))), .inl (.tail _ (.tail _ (.head _)))⟩, List.forall_mem_nil _⟩⟩⟩
set_option maxHeartbeats 8000000 in
theorem spec_dmp (w : World) (y : Tb) (hy : TbOK y) (a b : Int) (ta tb : Tok) (h1 : 0 ≤ a) (h2 : a < 64) (h3 : 0 < b) (h4 : b ≤ 6) :
    SpecF w 77 850 7500 [.int a ta, .int b tb] (tbL y) (PostU (α := IdR) (fun k r => r = .ref k.t ∧ TbOK k.z ∧ NeA k.t 58 ∧ NeA k.t 65 ∧ NeA k.t k.z.c1 ∧ NeA k.t k.z.c2)
      (fun k => (k.t, tupObj [.int (a / b) k.tq, .int (a % b) k.tr]) :: tbL k.z) (tbL y)) := by
  k_with_none
  w_top off
  have kf : SpecF w 0 0 0 [] [] (fun _ _ _ => True) → True := by unfold SpecF; k_fill; intro _; trivial
  clear kf
  k_with "execs cons" => (with_reducible refine gentk ?_; intro tk)
  k_with "execs nil" => (with_reducible refine gentk ?_; intro tk)
  obtain ⟨a1, a2, c1, o1, c2, o2⟩ := y
  obtain ⟨hTI, hTD, y1, y2, y3⟩ := hy.parts
  clear hy
  have hn : (Builtin.Int.intBits b : Int) = 1 ∨ (Builtin.Int.intBits b : Int) = 2 ∨ (Builtin.Int.intBits b : Int) = 3 := by
    have : b = 1 ∨ b = 2 ∨ b = 3 ∨ b = 4 ∨ b = 5 ∨ b = 6 := by omega
    rcases this with rfl | rfl | rfl | rfl | rfl | rfl <;> decide +kernel
  intro p loose mean mg mb h₀ s R X T hk hs hret
  (refine' enterS (binds := [("a", .int a ta), ("b", .int b tb)]) ?kX ?kT ?kk ?ks ?ko ?kc ?kr ?kb ?kl ?_ ?c1 ?c2 ?c3 ?c4; (case kX => assumption); (case kT => assumption); (case kk => assumption); (case ks => assumption); (case ko => k_is); (case kc => k_is); (case kr => (first | decide | (simp only [recursionLimit]; omega))); (case kb => exact BindsTo.of_eq rfl); (case kl => exact locs rfl); (case c1 => exact rfl); (case c2 => exact rfl); (case c3 => exact rfl); (case c4 => decide); k_whole)
  intro g L' h' F' N' X' T' l1 st1 st2
  k_lt l1
  (try dsimp only)
  (try k_fold)
  k_with "call ref" => (refine Hold.mk ?_)
  k_with "pyIter ref" => (refine Hold.mk ?_)
  k_with "newList" => (refine' newList_K ?nk1 ?nk2 ?_; (case nk1 => k_asm); (case nk2 => k_asm); intro lq h' F' N' l1; k_lt l1)
  k_with "call type:reversed" => (refine' krv_reversed ?rk1 ?rk2 ?rk3 ?_; (case rk1 => k_asm); (case rk2 => k_asm); (case rk3 => is_list); intro rv h' F' N' l1; k_lt l1)
  k_with "call builtin:list.reverse" => (refine Hold.mk ?_)
  k_with "LPost" => (refine Hold.mk ?_)
  k_steps
  refine Hold.out ?_
  rename News _ _ _ _ => N0
  have N1 := news_pick2 N0 [0, 2, 1, 3]
  dsimp only [picks, pickAt, List.cons_append, List.nil_append] at N1
  refine' useU (spec_i2dU w a _ _ _ h1 h2 hn a1 c1 o1 hTI) ?uh2 ?ud2 ?uu2 ?uF2 ?uX2 N1 ?uT2 ?uo2 ?_
  (case uX2 => k_asm); (case uF2 => k_asm); (case uT2 => k_asm)
  (case uh2 => exact rfl); (case ud2 => first | exact Nat.le_of_ble_eq_true rfl | (show _ + 1 ≤ _; omega)); (case uu2 => first | exact Nat.le_of_ble_eq_true rfl | (show _ + 3 ≤ _; omega))
  (case uo2 => first | exact fun _ _ => List.forall_mem_nil _ | (repeat' (first | exact List.forall_mem_nil _ | (refine List.forall_mem_cons.mpr ⟨?_, ?_⟩) | k_ne)))
  clear N1 N0
  intro a9 r9 h9 tk9 hP9 F9 N9 hne9
  obtain ⟨D, us, nn, cc, oc⟩ := a9
  dsimp only at hP9 N9 hne9
  obtain ⟨rfl, hus, hcI, hI1, hI2, hI3⟩ := hP9
  simp only [List.nil_append, List.cons_append] at N9
  replace hne9 := AllL.two hne9
  dsimp only [AllL, List.nil_append, List.cons_append] at hne9
  obtain ⟨⟨m1, m2⟩, ⟨_, m3⟩, m4, m5⟩ := hne9
  k_steps
  refine Hold.out ?_
  rename Fr _ _ _ _ => F1
  rename News _ _ _ _ => N1
  refine' rev_loop (σ := DmS) (fun c => [(lq, W.listOf c.qvs.toArray c.nn), (D, W.listOf us.toArray nn), (58, tabObj #[rawInt 58, rawInt 4, .ref cc]), (cc, oc), (65, a2), (c2, o2)]) (fun c => [("r", .int c.r c.tr)]) ["a_digit", "q_digit"]
    (DmP b (Builtin.Int.intBits b) (dmLoop b (Builtin.Int.intBits b) (i2d a (Builtin.Int.intBits b)).reverse 0 [])) ⟨0, _, [], [], 0⟩ (by rfl) F1 N1 ?lo ?lc ?ld ?lL ?lk ?lp ?ll ?turn ?done
  case ll => exact fun c => List.Mem.tail _ (List.Mem.head _)
  case lc => exact rfl
  case ld => exact rfl
  case lo => (repeat' (first | exact List.forall_mem_nil _ | (refine List.forall_mem_cons.mpr ⟨?_, ?_⟩) | k_ne))
  case lL => exact fun p hp => hp
  case lk => kst_all
  case lp => exact ⟨_, hus.reverse, fun x hx => i2d_mem h1 h2 x (List.mem_reverse.mp hx), Int.le_refl 0, h3, .nil, List.forall_mem_nil _, by have := i2d_length h1 h2 hn; simp only [List.length_nil, List.length_reverse]; omega, rfl⟩
  case turn =>
    clear F1 N1
    intro v r c u it h tk hP hoI F N
    obtain ⟨ds, hds, hdm, hr0, hr1, hqi, hqm, hql, hfin⟩ := hP
    obtain ⟨cr, ctr, cqs, cqvs, cn⟩ := c
    dsimp only at hr0 hr1 hqi hqm hql hfin F N
    cases hds with
    | cons d td hds =>
      rename_i ds'
      have hd := hdm d (.head _)
      try k_fold
      have hx : 0 ≤ cr * 2 ^ (Builtin.Int.intBits b : Int).toNat + d ∧ cr * 2 ^ (Builtin.Int.intBits b : Int).toNat + d < 200 := by
        rcases hn with e | e | e
        · rw [show (Builtin.Int.intBits b : Int).toNat = 1 by omega]; constructor <;> omega
        · rw [show (Builtin.Int.intBits b : Int).toNat = 2 by omega]; constructor <;> omega
        · rw [show (Builtin.Int.intBits b : Int).toNat = 3 by omega]; constructor <;> omega
      k_steps
      refine Hold.out ?_
      rename News _ _ _ _ => N2
      refine' useG (spec_div2 w _ b _ _ _ _ hx.1 (by omega) h3 (by omega) (by omega)) ?uh1 ?ud1 ?uu1 ?uF1 ?uX1 N2 ?uT1 ?uo1 ?ua1 ?_
      (case uX1 => k_asm); (case uF1 => k_asm); (case uT1 => k_asm)
      (case uh1 => exact rfl); (case ud1 => first | exact Nat.le_of_ble_eq_true rfl | (show _ + 1 ≤ _; omega)); (case uu1 => first | exact Nat.le_of_ble_eq_true rfl | (show _ + 3 ≤ _; omega))
      (case ua1 => first | exact fun _ => List.forall_mem_nil _ | (intro a q hq; exact List.mem_map_of_mem (f := fun x => x.1) hq))
      (case uo1 => first | exact fun _ _ => List.forall_mem_nil _ | (repeat' (first | exact List.forall_mem_nil _ | (refine List.forall_mem_cons.mpr ⟨?_, ?_⟩) | k_ne)))
      clear N2
      intro t3 r3 h3' tk3 hP3 F3 N3 hne3
      obtain ⟨t3, t31, t32⟩ := t3
      dsimp only at hP3 N3 hne3
      subst hP3
      simp only [List.nil_append, List.cons_append] at N3
      simp only [List.nil_append, List.cons_append, List.forall_mem_cons, List.not_mem_nil, false_implies, implies_true, and_true] at hne3
      k_steps
      refine Hold.out ?_
      dsimp only [LPost]
      rename News _ _ _ _ => N4
      (try simp only [List.push_toArray] at N4)
      refine' lend ⟨(cr * 2 ^ (Builtin.Int.intBits b : Int).toNat + d) % b, t32, cqs ++ [(cr * 2 ^ (Builtin.Int.intBits b : Int).toNat + d) / b], cqvs ++ [.int ((cr * 2 ^ (Builtin.Int.intBits b : Int).toNat + d) / b) t31], cn + 1⟩ (by k_asm) N4 (by k_mem) ?yl (by kst_all) ?yr ?yp
      case yr => (intro z h2 h3; simp only [List.forall_mem_cons, List.not_mem_nil, false_implies, implies_true, and_true, ne_eq] at h2; simp only [List.contains_cons, List.contains_nil, Bool.or_false, Bool.or_eq_false_iff, beq_eq_false_iff_ne, ne_eq] at h3; simp [kstB, h2, h3])
      case yl => (repeat' (first | exact List.forall_mem_nil _ | (refine List.forall_mem_cons.mpr ⟨⟨by k_mem, by ((try dsimp only); omega)⟩, ?_⟩)))
      have hq := Int.emod_nonneg (cr * 2 ^ (Builtin.Int.intBits b : Int).toNat + d) (Int.ne_of_gt h3)
      have hq' := Int.emod_lt_of_pos (cr * 2 ^ (Builtin.Int.intBits b : Int).toNat + d) h3
      have hd0 := Int.ediv_nonneg hx.1 (Int.le_of_lt h3)
      have hd1 := Int.ediv_le_self b hx.1
      refine ⟨ds', hds, fun x hx => hdm x (.tail _ hx), hq, hq', hqi.append (.cons _ _ .nil), ?_, ?_, hfin⟩
      · intro x hx
        rcases List.mem_append.mp hx with hx | hx
        · exact hqm x hx
        · rw [List.mem_singleton.mp hx]; omega
      · simp only [List.length_append, List.length_cons, List.length_nil] at hql ⊢; omega
  case done =>
    clear F1 N1
    intro c u h tk hP F N
    obtain ⟨ds, hds, hdm, hr0, hr1, hqi, hqm, hql, hfin⟩ := hP
    obtain ⟨cr, ctr, cqs, cqvs, cn⟩ := c
    dsimp only at hr0 hr1 hqi hqm hql hfin F N
    cases hds
    have hqn := hqi.length
    try k_fold
    k_steps
    refine Hold.out ?_
    dsimp only
    refine' kl_reverse (l := cqvs.reverse) ?vF ?vN ?ve ?vU ?vz ?_
    case vF => k_asm
    case vN => k_asm
    case vU => k_upd
    case ve => exact rfl
    case vz => (show List.length cqvs ≤ _; rw [sizeLine_eq]; omega)
    intro h5 F5 N5
    k_steps
    refine Hold.out ?_
    rename News _ _ _ _ => N6
    have N7 := news_pick2 N6 [4, 5, 0, 2, 3]
    dsimp only [picks, pickAt, List.cons_append, List.nil_append] at N7
    refine' useU (spec_d2iU w lq _ _ _ _ _ hqi.reverse (fun x hx => hqm x (List.mem_reverse.mp hx)) (by rw [List.length_reverse]; simp only [List.length_nil] at hql; omega) hn a2 c2 o2 hTD (NeA.flip (NeA.gt (by omega))) (NeA.flip (NeA.gt (by omega)))) ?uh3 ?ud3 ?uu3 ?uF3 ?uX3 N7 ?uT3 ?uo3 ?_
    (case uX3 => k_asm); (case uF3 => k_asm); (case uT3 => k_asm)
    (case uh3 => exact rfl); (case ud3 => first | exact Nat.le_of_ble_eq_true rfl | (show _ + 1 ≤ _; omega)); (case uu3 => first | exact Nat.le_of_ble_eq_true rfl | (show _ + 3 ≤ _; omega))
    (case uo3 => first | exact fun _ _ => List.forall_mem_nil _ | (repeat' (first | exact List.forall_mem_nil _ | (refine List.forall_mem_cons.mpr ⟨?_, ?_⟩) | k_ne)))
    clear N6 N7
    intro z8 r8 h8 tk8 hP8 F8 N8 hne8
    obtain ⟨tz, cz, oz⟩ := z8
    dsimp only at hP8 N8 hne8
    obtain ⟨rfl, hcD, hD1⟩ := hP8
    simp only [List.nil_append, List.cons_append] at N8
    replace hne8 := AllL.two hne8
    dsimp only [AllL, List.nil_append, List.cons_append] at hne8
    obtain ⟨_, ⟨e1, e2⟩, _⟩ := hne8
    obtain ⟨hqr1, hqr2⟩ := dmP_fin h1 h2 h3 h4 hfin
    k_steps
    (try dsimp only)
    show LeaveS _ _ _ _
    rename News _ _ _ _ => N9
    rw [hqr1, hqr2] at N9
    refine' leaveUT (s := s) st1 (by assumption) N9 (fun t => ⟨⟨tabObj #[rawInt 58, rawInt 4, .ref cc], tabObj #[rawInt 73, rawInt 4, .ref cz], cc, oc, cz, oz⟩, t, tz, ctr⟩) ?lP ?ln hret
    case ln => dsimp only; exact List.forall_mem_cons.mpr ⟨List.Mem.head _, List.forall_mem_cons.mpr ⟨by k_mem, List.forall_mem_cons.mpr ⟨by k_mem, List.forall_mem_cons.mpr ⟨by k_mem, List.forall_mem_cons.mpr ⟨by k_mem, List.forall_mem_nil _⟩⟩⟩⟩⟩
    exact ⟨rfl, .inr ⟨rfl, rfl, hcI, hcD, hI1, m4, e1, hD1, e2⟩, NeA.gt (by (dsimp only; omega)), NeA.gt (by (dsimp only; omega)), NeA.gt (by (dsimp only; omega)), NeA.gt (by (dsimp only; omega))⟩
end
section
local macro_rules | `(tactic| walk_at $s:str) => `(tactic| k_extra $s)
local macro_rules | `(tactic| k_ne) => `(tactic| first | exact NeA.out (by assumption) | exact NeA.flip (by assumption) | (refine neN ?_; (try dsimp only); omega))
set_option maxHeartbeats 8000000 in
theorem spec_idm (w : World) (y : Tb) (hy : TbOK y) (a b : Int) (ta tb : Tok) (h1 : 0 ≤ a) (h2 : a < 64) (h3 : 0 < b) (h4 : b ≤ 6) :
    SpecF w 84 800 7000 [.int a ta, .int b tb] (tbL y) (PostU (α := IdR) (fun k r => r = .ref k.t ∧ TbOK k.z ∧ NeA k.t 58 ∧ NeA k.t 65 ∧ NeA k.t k.z.c1 ∧ NeA k.t k.z.c2)
      (fun k => (k.t, tupObj [.int (a / b) k.tq, .int (a % b) k.tr]) :: tbL k.z) (tbL y)) := by
  k_with_none
  w_top off
  have kf : SpecF w 0 0 0 [] [] (fun _ _ _ => True) → True := by unfold SpecF; k_fill; intro _; trivial
  clear kf
  k_with "execs cons" => (with_reducible refine gentk ?_; intro tk)
  k_with "execs nil" => (with_reducible refine gentk ?_; intro tk)
  intro p loose mean mg mb h₀ s R X T hk hs hret
  (refine' enterS (binds := [("a", .int a ta), ("b", .int b tb)]) ?kX ?kT ?kk ?ks ?ko ?kc ?kr ?kb ?kl ?_ ?c1 ?c2 ?c3 ?c4; (case kX => assumption); (case kT => assumption); (case kk => assumption); (case ks => assumption); (case ko => k_is); (case kc => k_is); (case kr => (first | decide | (simp only [recursionLimit]; omega))); (case kb => exact BindsTo.of_eq rfl); (case kl => exact locs rfl); (case c1 => exact rfl); (case c2 => exact rfl); (case c3 => exact rfl); (case c4 => decide); k_whole)
  intro g L' h' F' N' X' T' l1 st1 st2
  k_lt l1
  (try dsimp only)
  (try k_fold)
  k_with "call ref" => (refine Hold.mk ?_)
  k_steps
  · exfalso; omega
  · refine Hold.out ?_
    rename News _ _ _ _ => N1
    have N2 : News _ _ _ (tbL y ++ []) := N1
    refine' useU (spec_dmp w y hy a b _ _ h1 h2 h3 h4) ?uh1 ?ud1 ?uu1 ?uF1 ?uX1 N2 ?uT1 ?uo1 ?_
    (case uX1 => k_asm); (case uF1 => k_asm); (case uT1 => k_asm)
    (case uh1 => exact rfl); (case ud1 => first | exact Nat.le_of_ble_eq_true rfl | (show _ + 1 ≤ _; omega)); (case uu1 => first | exact Nat.le_of_ble_eq_true rfl | (show _ + 3 ≤ _; omega))
    (case uo1 => first | exact fun _ _ => List.forall_mem_nil _ | (repeat' (first | exact List.forall_mem_nil _ | (refine List.forall_mem_cons.mpr ⟨?_, ?_⟩) | k_ne)))
    clear N1 N2
    intro z9 r9 h9 tk9 hP9 F9 N9 hne9
    clear hne9
    refine' leaveU (s := s) st1 (by assumption) N9 z9 hP9 (fun q hq => List.mem_append_left _ hq) hret
end
section
local macro_rules | `(tactic| walk_at $s:str) => `(tactic| k_extra $s)
structure WsS where
  count : List Int
  b : Int
  n : Int
  nt : Int
def wsTab (s : WsS) : WsS :=
  let c := if (s.count.length : Int) ≤ s.b then s.count ++ List.replicate (s.b - s.count.length + 1).toNat 0 else s.count
  ⟨c.set s.b.toNat (c.getD s.b.toNat 0 + 1), 0, s.n + 1, s.nt + 1⟩
def wsRun : List Nat → WsS → WsS
  | [], s => s
  | c :: r, s => if c = 32 then wsRun r ⟨s.count, s.b + 1, s.n + 1, s.nt⟩ else if c = 9 then wsRun r (wsTab s) else s
structure WiS where
  lq : Addr
  vs : List Value
  nn : Nat
  st : WsS
  tb : Tok
  tn : Tok
  tt : Tok
theorem tab_pos {count : List Int} {b n nt : Int} (h : (count.length : Int) ≤ b) : wsTab ⟨count, b, n, nt⟩ = ⟨(count ++ List.replicate (b - count.length + 1).toNat 0).set b.toNat ((count ++ List.replicate (b - count.length + 1).toNat 0).getD b.toNat 0 + 1), 0, n + 1, nt + 1⟩ := by
  unfold wsTab; simp only [if_pos h]
theorem tab_neg {count : List Int} {b n nt : Int} (h : ¬ (count.length : Int) ≤ b) : wsTab ⟨count, b, n, nt⟩ = ⟨count.set b.toNat (count.getD b.toNat 0 + 1), 0, n + 1, nt + 1⟩ := by
  unfold wsTab; simp only [if_neg h]
theorem set_bound {l : List Int} {i m : Nat} (h : ∀ y ∈ l, 0 ≤ y ∧ y + (m + 1 : Nat) ≤ 40) (hi : i < l.length) : ∀ y ∈ l.set i (l.getD i 0 + 1), 0 ≤ y ∧ y + (m : Nat) ≤ 40 := by
  intro y hy
  have hg : l.getD i 0 ∈ l := by rw [List.getD_eq_getElem?_getD, List.getElem?_eq_getElem hi]; exact List.getElem_mem hi
  rcases List.mem_or_eq_of_mem_set hy with hy | rfl
  · have := h y hy; omega
  · have := h _ hg; omega
theorem rep_bound {l : List Int} {k m : Nat} (h : ∀ y ∈ l, 0 ≤ y ∧ y + (m : Nat) ≤ 40) (hm : m ≤ 40) : ∀ y : Int, y ∈ l ++ List.replicate k (0 : Int) → 0 ≤ y ∧ y + (m : Nat) ≤ 40 := by
  intro y hy
  rcases List.mem_append.mp (show y ∈ l ++ List.replicate k (0 : Int) from hy) with hy | hy
  · exact h y hy
  · rw [List.eq_of_mem_replicate hy]; omega
theorem ex_tail {k : Nat} {cs : List Nat} (h : ∃ j ∈ k :: cs, j ≠ 32 ∧ j ≠ 9) (hk : k = 32 ∨ k = 9) : ∃ j ∈ cs, j ≠ 32 ∧ j ≠ 9 := by
  obtain ⟨j, hj, h1, h2⟩ := h
  rcases List.mem_cons.mp hj with rfl | hj
  · omega
  · exact ⟨j, hj, h1, h2⟩
abbrev WiP (x dx : Addr) (fin : WsS) (l : List Str) (c : WiS) : Prop :=
  ∃ cs : List Nat, l = cs.map (fun k => ⟨#[k]⟩) ∧ wsRun cs c.st = fin ∧ IntsAre c.vs c.st.count ∧ (0 ≤ c.st.b ∧ c.st.b + cs.length ≤ 40) ∧ (0 ≤ c.st.n ∧ c.st.n + cs.length ≤ 40) ∧ (0 ≤ c.st.nt ∧ c.st.nt + cs.length ≤ 40) ∧ c.st.count.length ≤ 41 ∧
    (∀ y ∈ c.st.count, 0 ≤ y ∧ y + cs.length ≤ 40) ∧ (∃ k ∈ cs, k ≠ 32 ∧ k ≠ 9) ∧ @LT.lt Nat _ x c.lq ∧ @LT.lt Nat _ dx c.lq
structure WhR where
  tn : Addr
  tc : Addr
  cvs : List Value
  k1 : Tok
  k2 : Tok
  k3 : Tok
  k4 : Tok
  k5 : Tok
  t1 : Tok
  t2 : Tok
  t3 : Tok
  si : Bool
abbrev whDict (w : World) (ws : Str) (tw : Tok) (st : WsS) (z : WhR) : Obj :=
  dictOf [⟨PyData.keyHash w.params (Str.ofString "raw"), .str (Str.ofString "raw") z.k1, .str ws tw⟩, ⟨PyData.keyHash w.params (Str.ofString "n"), .str (Str.ofString "n") z.k2, .int st.n z.t1⟩, ⟨PyData.keyHash w.params (Str.ofString "nt"), .str (Str.ofString "nt") z.k3, .int st.nt z.t2⟩,
    ⟨PyData.keyHash w.params (Str.ofString "norm"), .str (Str.ofString "norm") z.k4, .ref z.tn⟩, ⟨PyData.keyHash w.params (Str.ofString "is_simple"), .str (Str.ofString "is_simple") z.k5, .bool z.si⟩] 5
def wsOf (ws : Str) : WsS := wsRun ws.cps.toList ⟨[], 0, 0, 0⟩
set_option maxHeartbeats 8000000 in
theorem spec_init (w : World) (x dx : Addr) (hx : @LT.lt Nat _ dx x) (ws : Str) (tw : Tok) (hw : ws.cps.size ≤ 40) (hend : ∃ k ∈ ws.cps.toList, k ≠ 32 ∧ k ≠ 9) :
    SpecF w 101 780 6500 [.ref x, .str ws tw] [(x, instObj 146 dx), (dx, dictOf [] 0)]
      (PostG (α := WhR) (fun z r => r = .none ∧ IntsAre z.cvs (wsOf ws).count ∧ @LT.lt Nat _ z.tc z.tn)
        (fun z => [(x, instObj 146 dx), (dx, whDict w ws tw (wsOf ws) z)]) (fun z => [(z.tn, tupObj [.ref z.tc, .int (wsOf ws).b z.t3]), (z.tc, tupObj z.cvs)])) := by
  k_with_none
  w_top off
  have kf : SpecF w 0 0 0 [] [] (fun _ _ _ => True) → True := by unfold SpecF; k_fill; intro _; trivial
  clear kf
  k_with "execs cons" => (with_reducible refine gentk ?_; intro tk)
  k_with "execs nil" => (with_reducible refine gentk ?_; intro tk)
  intro p loose mean mg mb h₀ s R X T hk hs hret
  (refine' enterS (binds := [("self", .ref x), ("ws", .str ws tw)]) ?kX ?kT ?kk ?ks ?ko ?kc ?kr ?kb ?kl ?_ ?c1 ?c2 ?c3 ?c4; (case kX => assumption); (case kT => assumption); (case kk => assumption); (case ks => assumption); (case ko => k_is); (case kc => k_is); (case kr => (first | decide | (simp only [recursionLimit]; omega))); (case kb => exact BindsTo.of_eq rfl); (case kl => exact locs rfl); (case c1 => exact rfl); (case c2 => exact rfl); (case c3 => exact rfl); (case c4 => decide); k_whole)
  intro g L' h' F' N' X' T' l1 st1 st2
  k_lt l1
  (try dsimp only)
  (try k_fold)
  k_with "call ref" => (refine Hold.mk ?_)
  k_with "pyIter str" => (refine Hold.mk ?_)
  k_with "newList" => (refine' newList_K ?nk1 ?nk2 ?_; (case nk1 => k_asm); (case nk2 => k_asm); intro lq h' F' N' l1; k_lt l1)
  k_with "binaryOp Mult ref int" => (refine' rep0 ?mF ?mN ?ml ?mlo ?mhi ?_; (case mF => k_asm); (case mN => k_asm); (case ml => is_list); (case mlo => omega); (case mhi => omega); intro lr h' us F' N' l1 hR; k_lt l1)
  k_with "call type:tuple" => (refine Hold.mk ?_)
  k_with "LPost" => (refine Hold.mk ?_)
  k_steps
  refine Hold.out ?_
  rename News _ _ _ _ => N1
  obtain ⟨od, hod, N2⟩ := news_abs (pre := [_, _, _]) (post := []) N1
  clear N1
  simp only [List.cons_append, List.nil_append] at N2
  refine' str_loop (σ := WiS) (fun c => [(c.lq, W.listOf c.vs.toArray c.nn), (x, instObj 146 dx), (dx, od)]) (fun c => [("count", .ref c.lq), ("b", .int c.st.b c.tb), ("n", .int c.st.n c.tn), ("nt", .int c.st.nt c.tt)]) ["ch"]
    (WiP x dx (wsRun ws.cps.toList ⟨[], 0, 0, 0⟩)) ⟨lq, [], 0, ⟨[], 0, 0, 0⟩, _, _, _⟩ (by rfl) (by assumption) N2 ?lL ?lk ?lp ?turn ?done
  case lL => exact List.forall_mem_cons.mpr ⟨by k_mem, List.forall_mem_cons.mpr ⟨by k_mem, List.forall_mem_cons.mpr ⟨by k_mem, List.forall_mem_nil _⟩⟩⟩
  case lk => kst_all
  case lp => exact ⟨_, rfl, rfl, .nil, ⟨Int.le_refl 0, by simp only [Array.length_toList]; omega⟩, ⟨Int.le_refl 0, by simp only [Array.length_toList]; omega⟩, ⟨Int.le_refl 0, by simp only [Array.length_toList]; omega⟩, by simp, List.forall_mem_nil _, hend, by (dsimp only; omega), by (dsimp only; omega)⟩
  case turn =>
    intro I hI v r c u t it h tk hP hoI F N
    k_lt hI
    simp only [List.forall_mem_cons, List.not_mem_nil, false_implies, implies_true, and_true] at hoI
    obtain ⟨cs, hcs, hfin, hi, hb, hn, hnt, hcl, hel, hex, hx1, hx2⟩ := hP
    obtain ⟨cq, cvs, cn, ⟨cc, cb, cnn, cnt⟩, tb, tn, tt⟩ := c
    cases cs with
    | nil => cases hcs
    | cons k cs =>
      obtain ⟨rfl, rfl⟩ := List.cons.inj hcs
      clear hcs
      dsimp only at hfin hi hb hn hnt hcl hel hx1 hx2 F N hoI
      simp only [List.length_cons] at hb hn hnt hel
      have hvl := hi.length
      by_cases h32 : k = 32
      · subst h32
        try k_fold
        k_steps
        refine Hold.out ?_
        dsimp only [LPost]
        refine' lend ⟨cq, cvs, cn, ⟨cc, cb + 1, cnn + 1, cnt⟩, _, _, tt⟩ (by k_asm) (by k_asm) (by k_mem) ?yl1 (by kst_all) ?yr1 ?yp1
        case yl1 => (repeat' (first | exact List.forall_mem_nil _ | (refine List.forall_mem_cons.mpr ⟨⟨by k_mem, by ((try dsimp only); omega)⟩, ?_⟩)))
        case yr1 => (intro z h2 h3; simp only [List.forall_mem_cons, List.not_mem_nil, false_implies, implies_true, and_true, ne_eq] at h2; simp only [List.contains_cons, List.contains_nil, Bool.or_false, Bool.or_eq_false_iff, beq_eq_false_iff_ne, ne_eq] at h3; simp [kstB, h2, h3])
        case yp1 => exact ⟨cs, rfl, hfin, hi, by (dsimp only; omega), by (dsimp only; omega), by (dsimp only; omega), hcl, fun y hy => by have := hel y hy; omega, ex_tail hex (.inl rfl), hx1, hx2⟩
      · by_cases h9 : k = 9
        · subst h9
          try k_fold
          have hrl : (List.replicate (cb - (cc.length : Int) + 1).toNat (0 : Int)).length = (cb - (cc.length : Int) + 1).toNat := List.length_replicate ..
          k_steps
          · refine Hold.out ?_
            dsimp only [LPost]
            rename ((_ : Int) ≤ _) => hle
            rw [wsRun, if_neg (by decide), if_pos rfl] at hfin
            refine' lend ⟨_, _, _, wsTab ⟨cc, cb, cnn, cnt⟩, _, _, _⟩ (by k_asm) (by k_asm) (by k_mem) ?yl2 ?yk2 ?yr2 ?yp2
            case yk2 => rw [tab_pos hle]; kst_all
            case yl2 => (repeat' (first | exact List.forall_mem_nil _ | (refine List.forall_mem_cons.mpr ⟨⟨by k_mem, by ((try dsimp only); omega)⟩, ?_⟩)))
            case yr2 => (intro z h2 h3; simp only [List.forall_mem_cons, List.not_mem_nil, false_implies, implies_true, and_true, ne_eq] at h2; simp only [List.contains_cons, List.contains_nil, Bool.or_false, Bool.or_eq_false_iff, beq_eq_false_iff_ne, ne_eq] at h3; simp [kstB, h2, h3])
            case yp2 =>
              have hl1 : ((cc ++ List.replicate (cb - (cc.length : Int) + 1).toNat (0 : Int)).length : Int) = cb + 1 := by rw [List.length_append, hrl]; omega
              rw [tab_pos hle] at hfin ⊢
              refine ⟨cs, rfl, hfin, by assumption, by (dsimp only; omega), by (dsimp only; omega), by (dsimp only; omega), ?_, ?_, ex_tail hex (.inr rfl), by (dsimp only; omega), by (dsimp only; omega)⟩
              · dsimp only; rw [List.length_set]; omega
              · exact set_bound (rep_bound hel (by omega)) (by omega)
          · refine Hold.out ?_
            dsimp only [LPost]
            rename (¬ (_ : Int) ≤ _) => hle
            rw [wsRun, if_neg (by decide), if_pos rfl] at hfin
            refine' lend ⟨_, _, _, wsTab ⟨cc, cb, cnn, cnt⟩, _, _, _⟩ (by k_asm) (by k_asm) (by k_mem) ?yl3 ?yk3 ?yr3 ?yp3
            case yk3 => rw [tab_neg hle]; kst_all
            case yl3 => (repeat' (first | exact List.forall_mem_nil _ | (refine List.forall_mem_cons.mpr ⟨⟨by k_mem, by ((try dsimp only); omega)⟩, ?_⟩)))
            case yr3 => (intro z h2 h3; simp only [List.forall_mem_cons, List.not_mem_nil, false_implies, implies_true, and_true, ne_eq] at h2; simp only [List.contains_cons, List.contains_nil, Bool.or_false, Bool.or_eq_false_iff, beq_eq_false_iff_ne, ne_eq] at h3; simp [kstB, h2, h3])
            case yp3 =>
              rw [tab_neg hle] at hfin ⊢
              refine ⟨cs, rfl, hfin, by assumption, by (dsimp only; omega), by (dsimp only; omega), by (dsimp only; omega), ?_, ?_, ex_tail hex (.inr rfl), by (dsimp only; omega), by (dsimp only; omega)⟩
              · dsimp only; rw [List.length_set]; omega
              · exact set_bound hel (by omega)
        · have e32 : ((⟨#[k]⟩ : Str) == Str.ofString " ") = false := by
            rw [beq_eq_false_iff_ne]; intro e; exact h32 (by injection e with e; injection e with e; injection e)
          have e9 : ((⟨#[k]⟩ : Str) == Str.ofString "\t") = false := by
            rw [beq_eq_false_iff_ne]; intro e; exact h9 (by injection e with e; injection e with e; injection e)
          try k_fold
          k_steps
          refine Hold.out ?_
          dsimp only [LPost]
          subst hod
          clear N2
          k_steps
          refine Hold.out ?_
          (try dsimp only)
          refine' kde_tupleOf (zs := cvs) ?tF ?tN ?tl ?tz ?te ?_
          case tF => k_asm
          case tN => k_asm
          case tl => exact News.isList (by k_asm) (by k_mem)
          case tz => (simp only [List.size_toArray]; omega)
          case te => exact List.toList_toArray ..
          intro tp h5 F5 N5 l5
          k_lt l5
          k_steps
          (try dsimp only)
          show LeaveS _ _ _ _
          rw [wsRun, if_neg h32, if_neg h9] at hfin
          have hcc : (wsOf ws).count = cc := by rw [wsOf, ← hfin]
          have hcb : (wsOf ws).b = cb := by rw [wsOf, ← hfin]
          have hcn : (wsOf ws).n = cnn := by rw [wsOf, ← hfin]
          have hct : (wsOf ws).nt = cnt := by rw [wsOf, ← hfin]
          rename News _ _ _ _ => N6
          refine' leaveG (s := s) st1 (by assumption) N6 ⟨_, tp, cvs, _, _, _, _, _, _, _, tb, _⟩ ?lP ?lu ?ln hret
          case lu => dsimp only [whDict]; rw [hcn, hct]; exact List.forall_mem_cons.mpr ⟨by k_mem, List.forall_mem_cons.mpr ⟨by k_mem, List.forall_mem_nil _⟩⟩
          case ln => dsimp only; rw [hcb]; exact List.forall_mem_cons.mpr ⟨⟨by k_mem, by k_all⟩, List.forall_mem_cons.mpr ⟨⟨by k_mem, by k_all⟩, List.forall_mem_nil _⟩⟩
          case lP => dsimp only; exact ⟨rfl, by rw [hcc]; exact hi, by omega⟩
  case done =>
    intro c u h tk hP F N
    obtain ⟨cs, hcs, hfin, hi, hb, hn, hnt, hcl, hel, hex, hx1, hx2⟩ := hP
    cases cs with
    | nil => obtain ⟨k, hk, _⟩ := hex; cases hk
    | cons k cs => cases hcs
end
section
local macro_rules | `(tactic| walk_at $s:str) => `(tactic| k_extra $s)
abbrev wsObjs (w : World) (x dx : Addr) (ws : Str) (tw : Tok) (st : WsS) (z : WhR) : List (Addr × Obj) :=
  [(x, instObj 146 dx), (dx, whDict w ws tw st z), (z.tn, tupObj [.ref z.tc, .int st.b z.t3]), (z.tc, tupObj z.cvs)]
set_option maxHeartbeats 8000000 in
theorem spec_indentA (w : World) (x dx : Addr) (ws : Str) (tw : Tok) (st : WsS) (z : WhR) (ts : Int) (tts : Tok) (hx : @LT.lt Nat _ dx x) (hi : IntsAre z.cvs st.count) (hts : 0 < ts) (hts2 : ts ≤ 6) (hl : (st.count.length : Int) ≤ ts) (hb : 0 ≤ st.b ∧ st.b ≤ 40) (hn : 0 ≤ st.nt ∧ st.nt ≤ 40) :
    SpecF w 115 780 6500 [.ref x, .int ts tts] [(x, instObj 146 dx), (dx, whDict w ws tw st z), (z.tn, tupObj [.ref z.tc, .int st.b z.t3]), (z.tc, tupObj z.cvs)] (PostG (α := Unit) (fun _ r => ∃ t, r = .int (st.b + ts * st.nt) t)
        (fun _ => [(x, instObj 146 dx), (dx, whDict w ws tw st z), (z.tn, tupObj [.ref z.tc, .int st.b z.t3]), (z.tc, tupObj z.cvs)]) (fun _ => [])) := by
  k_with_none
  w_top off
  have kf : SpecF w 0 0 0 [] [] (fun _ _ _ => True) → True := by unfold SpecF; k_fill; intro _; trivial
  clear kf
  k_with "execs cons" => (with_reducible refine gentk ?_; intro tk)
  k_with "execs nil" => (with_reducible refine gentk ?_; intro tk)
  intro p loose mean mg mb h₀ s R X T hk hs hret
  (refine' enterS (binds := [("self", .ref x), ("tabsize", .int ts tts)]) ?kX ?kT ?kk ?ks ?ko ?kc ?kr ?kb ?kl ?_ ?c1 ?c2 ?c3 ?c4; (case kX => assumption); (case kT => assumption); (case kk => assumption); (case ks => assumption); (case ko => k_is); (case kc => k_is); (case kr => (first | decide | (simp only [recursionLimit]; omega))); (case kb => exact BindsTo.of_eq rfl); (case kl => exact locs rfl); (case c1 => exact rfl); (case c2 => exact rfl); (case c3 => exact rfl); (case c4 => decide); k_whole)
  intro g L' h' F' N' X' T' l1 st1 st2
  k_lt l1
  (try dsimp only)
  (try k_fold)
  have hvl := hi.length
  k_with "call ref" => (refine Hold.mk ?_)
  k_with "call builtin:len" => (refine' PyProof.Rows.len_tuple ?nT ?nS ?_; (case nT => exact News.isTup (by k_asm) (by k_mem)); (case nS => (simp only [List.size_toArray]; omega)))
  k_with "pyIter ref" => (refine Hold.mk ?_)
  k_steps
  refine Hold.out ?_
  rename IsRange _ _ _ _ _ _ _ _ => R1
  rename News _ _ _ _ => N1
  rename Fr _ _ _ _ => F1
  refine' iter_rangeUnr (n := 0) (by rfl) R1 (small_one (by omega) (by omega) (by omega) (by omega)) (by rw [rangeSize_one]; split <;> omega) F1 N1 (fun I hI => RangeRest.zero (fun h tk F N => ?_))
  clear F1 N1 R1
  try k_fold
  k_steps
  show LeaveS _ _ _ _
  refine' leaveG (s := s) st1 (by assumption) (by assumption) () ?lP ?lu ?ln hret
  case lP => exact ⟨_, by rw [Int.zero_add]⟩
  case lu => (try dsimp only); exact List.forall_mem_cons.mpr ⟨by k_mem, List.forall_mem_cons.mpr ⟨by k_mem, List.forall_mem_cons.mpr ⟨by k_mem, List.forall_mem_cons.mpr ⟨by k_mem, List.forall_mem_nil _⟩⟩⟩⟩
  case ln => exact List.forall_mem_nil _
set_option maxHeartbeats 8000000 in
theorem spec_indentB (w : World) (x dx : Addr) (ws : Str) (tw : Tok) (st : WsS) (z : WhR) (c0 c1 c2 c3 : Int) (tts : Tok) (hx : @LT.lt Nat _ dx x) (hi : IntsAre z.cvs st.count) (hl : st.count = [c0, c1, c2, c3]) (hb : 0 ≤ st.b ∧ st.b ≤ 40) (hn : 0 ≤ st.nt ∧ st.nt ≤ 40) (hc : 0 ≤ c3 ∧ c3 ≤ 40) :
    SpecF w 115 780 6500 [.ref x, .int 3 tts] [(x, instObj 146 dx), (dx, whDict w ws tw st z), (z.tn, tupObj [.ref z.tc, .int st.b z.t3]), (z.tc, tupObj z.cvs)] (PostG (α := Unit) (fun _ r => ∃ t, r = .int (st.b + 3 * (c3 + st.nt)) t)
        (fun _ => [(x, instObj 146 dx), (dx, whDict w ws tw st z), (z.tn, tupObj [.ref z.tc, .int st.b z.t3]), (z.tc, tupObj z.cvs)]) (fun _ => [])) := by
  have kf : SpecF w 0 0 0 [] [] (fun _ _ _ => True) → True := by unfold SpecF; k_fill; intro _; trivial
  clear kf
  k_with "execs cons" => (with_reducible refine gentk ?_; intro tk)
  k_with "execs nil" => (with_reducible refine gentk ?_; intro tk)
  intro p loose mean mg mb h₀ s R X T hk hs hret
  (refine' enterS (binds := [("self", .ref x), ("tabsize", .int 3 tts)]) ?kX ?kT ?kk ?ks ?ko ?kc ?kr ?kb ?kl ?_ ?c1 ?c2 ?c3 ?c4; (case kX => assumption); (case kT => assumption); (case kk => assumption); (case ks => assumption); (case ko => k_is); (case kc => k_is); (case kr => (first | decide | (simp only [recursionLimit]; omega))); (case kb => exact BindsTo.of_eq rfl); (case kl => exact locs rfl); (case c1 => exact rfl); (case c2 => exact rfl); (case c3 => exact rfl); (case c4 => decide); k_whole)
  intro g L' h' F' N' X' T' l1 st1 st2
  k_lt l1
  (try dsimp only)
  (try k_fold)
  obtain ⟨tn, tc, cvs, k1, k2, k3, k4, k5, t1, t2, t3, si⟩ := z
  dsimp only at *
  rw [hl] at hi
  cases hi with
  | cons a0 ta hi => cases hi with
    | cons a1 tb hi => cases hi with
      | cons a2 tc hi => cases hi with
        | cons a3 td hi => cases hi with
          | nil =>
            k_with "call builtin:len" => (refine' PyProof.Rows.len_tuple ?nT ?nS ?_; (case nT => exact News.isTup (by k_asm) (by k_mem)); (case nS => decide))
            k_steps
            refine Hold.out ?_
            rename IsRange _ _ _ _ _ _ _ _ => R1
            rename News _ _ _ _ => N1
            rename Fr _ _ _ _ => F1
            refine' iter_rangeUnr (n := 1) (by rfl) R1 (by rfl) (by rfl) F1 N1 (fun I hI => RangeRest.succ (fun t h tk F N => ?_))
            clear F1 N1 R1
            k_lt hI
            try k_fold
            k_steps
            show LeaveS _ _ _ _
            refine' leaveG (s := s) st1 (by assumption) (by assumption) () ?lP2 ?lu2 ?ln2 hret
            case lP2 => exact ⟨_, by rw [show (3 + ((0 : Nat) : Int)).fdiv 3 = 1 from by decide, Int.zero_add, Int.one_mul]⟩
            case lu2 => (try dsimp only); exact List.forall_mem_cons.mpr ⟨by k_mem, List.forall_mem_cons.mpr ⟨by k_mem, List.forall_mem_cons.mpr ⟨by k_mem, List.forall_mem_cons.mpr ⟨by k_mem, List.forall_mem_nil _⟩⟩⟩⟩
            case ln2 => exact List.forall_mem_nil _
/-- indent_level, by the runs' counts -/
def indZ (st : WsS) (ts : Int) : Int := st.b + ts * ((if (st.count.length : Int) ≤ ts then 0 else st.count.getD 3 0) + st.nt)
theorem spec_indent (w : World) (x dx : Addr) (ws : Str) (tw : Tok) (st : WsS) (z : WhR) (ts : Int) (tts : Tok) (hx : @LT.lt Nat _ dx x) (hi : IntsAre z.cvs st.count) (hts : 0 < ts) (hts2 : ts ≤ 6) (hl : (st.count.length : Int) ≤ ts ∨ (ts = 3 ∧ st.count.length = 4 ∧ 0 ≤ st.count.getD 3 0 ∧ st.count.getD 3 0 ≤ 40)) (hb : 0 ≤ st.b ∧ st.b ≤ 40) (hn : 0 ≤ st.nt ∧ st.nt ≤ 40) :
    SpecF w 115 780 6500 [.ref x, .int ts tts] (wsObjs w x dx ws tw st z) (PostG (α := Unit) (fun _ r => ∃ t, r = .int (indZ st ts) t) (fun _ => wsObjs w x dx ws tw st z) (fun _ => [])) := by
  rcases hl with hl | ⟨rfl, hl, h1, h2⟩
  · have e : indZ st ts = st.b + ts * st.nt := by rw [indZ, if_pos hl, Int.zero_add]
    rw [e]
    exact spec_indentA w x dx ws tw st z ts tts hx hi hts hts2 hl hb hn
  · have e : indZ st 3 = st.b + 3 * (st.count.getD 3 0 + st.nt) := by rw [indZ, if_neg (by omega)]
    rw [e]
    match hc : st.count, hl with
    | [c0, c1, c2, c3], _ =>
      rw [hc] at h1 h2
      exact spec_indentB w x dx ws tw st z c0 c1 c2 c3 tts hx hi hc hb hn ⟨h1, h2⟩
end
section
theorem useC {α : Type} {P : α → Value → Prop} {upd new : α → List (Addr × Obj)} {w : World} {f : Addr} {d u : Nat} {args : List Value} {sel rest : List (Addr × Obj)} (C : SpecF w f d u args sel (PostG P upd new))
    {A : Around} {p : Program} {loose : List Str} {mean : ExcName → Option Value} {mg mb : Str → Option Value} {h₀ : Heap} {L : Addr} {m : Str → Option Value} {s : Shared} {R : Result → Shared → Prop}
    (hh : A.handled = none) (hde : A.depth ≤ d) (hu : A.units ≤ u)
    (F : Fr h₀ L s.heap m) (X : (Mine.part.heap_1 w.params).In h₀) (N : News h₀ L s.heap (sel ++ rest)) (T : Top p loose mean mg mb h₀) (hoff : ∀ q ∈ rest, ∀ p ∈ sel, p.1 ≠ q.1) (hadr : ∀ a, ∀ q ∈ upd a, q.1 ∈ sel.map (·.1))
    (h : ∀ a r h' tk', P a r → Fr h₀ L h' m → News h₀ L h' (new a ++ (upd a ++ rest)) → (∀ q ∈ new a, ∀ p ∈ sel ++ rest, @Ne Nat p.1 q.1) → R (.ok (.ret r)) { s with heap := h', toks := tk' }) :
    codeAny (model PySem.Challenge.rw_ph0168_01.row.prog w) A (.call (.ref f) ⟨args, []⟩) R s := by
  refine AA_code d u (C p loose mean mg mb h₀ s _ X T F.keep (fun q hq => ⟨(N q (List.mem_append_left _ hq)).1, (N q (List.mem_append_left _ hq)).2.2⟩) fun r h' tk' st po => ?_) hh hde hu
  have nm : ∀ b o, h₀.get? b = some o → b ∉ sel.map (·.1) := fun b o e q => by
    obtain ⟨p, hp, rfl⟩ := List.mem_map.mp q
    rw [(N p (List.mem_append_left _ hp)).2.2] at e; cases e
  have nL : L ∉ sel.map (·.1) := fun q => by
    obtain ⟨p, hp, e⟩ := List.mem_map.mp q
    exact (N p (List.mem_append_left _ hp)).2.1 e
  obtain ⟨oL, es, ep, hL, hLd, hLk, hLf⟩ := F.ns
  have F' : Fr h₀ L h' m := ⟨⟨oL, es, ep, st _ _ hL nL, hLd, hLk, hLf⟩, fun b o e => st b o (F.keep b o e) (nm b o e), F.above⟩
  have N' : ∀ q ∈ rest, h'.get? q.1 = some q.2 ∧ q.1 ≠ L ∧ h₀.get? q.1 = none := fun q hq => ⟨st _ _ (N q (List.mem_append_right _ hq)).1 (fun z => by obtain ⟨p, hp, e⟩ := List.mem_map.mp z; exact hoff q hq p hp e), (N q (List.mem_append_right _ hq)).2⟩
  obtain ⟨a, hP, h1, h2⟩ := po
  have hL2 : ∀ q ∈ new a, q.1 ≠ L := fun q hq e => by
    rw [← e, (h2 q hq).2] at hL; cases hL
  refine h a r h' tk' hP F' (fun q hq => ?_) fun q hq p hp e => ?_
  · rcases List.mem_append.mp hq with hq | hq
    · refine ⟨(h2 q hq).1, hL2 q hq, ?_⟩
      cases e : h₀.get? q.1 with
      | none => rfl
      | some o => have := F.keep _ _ e; rw [(h2 q hq).2] at this; cases this
    · rcases List.mem_append.mp hq with hq | hq
      · obtain ⟨p, hp, e⟩ := List.mem_map.mp (hadr a q hq)
        have n := N p (List.mem_append_left _ hp)
        rw [← e]
        exact ⟨by rw [e]; exact h1 q hq, n.2⟩
      · exact N' q hq
  · have n := (N p hp).1
    rw [e, (h2 q hq).2] at n; cases n
/-- Whitespace(text) -/
theorem use_white {w : World} {ws : Str} {tw : Tok} (hw : ws.cps.size ≤ 40) (hend : ∃ k ∈ ws.cps.toList, k ≠ 32 ∧ k ≠ 9) {rest : List (Addr × Obj)}
    {A : Around} {p : Program} {loose : List Str} {mean : ExcName → Option Value} {mg mb : Str → Option Value} {h₀ : Heap} {L : Addr} {m : Str → Option Value} {s : Shared} {Q E : Value → Shared → Prop}
    (hh : A.handled = none) (hde : A.depth ≤ 770) (hu : A.units ≤ 6490)
    (F : Fr h₀ L s.heap m) (X : (Mine.part.heap_1 w.params).In h₀) (N : News h₀ L s.heap rest) (T : Top p loose mean mg mb h₀)
    (h : ∀ x dx z h' tk', IntsAre z.cvs (wsOf ws).count → @LT.lt Nat _ dx x ∧ @LT.lt Nat _ z.tc z.tn ∧ @Ne Nat x z.tn ∧ @Ne Nat x z.tc ∧ @Ne Nat dx z.tn ∧ @Ne Nat dx z.tc →
      (∀ q ∈ rest, @Ne Nat q.1 x ∧ @Ne Nat q.1 dx ∧ @Ne Nat q.1 z.tn ∧ @Ne Nat q.1 z.tc) → Fr h₀ L h' m → News h₀ L h' (wsObjs w x dx ws tw (wsOf ws) z ++ rest) → Q (.ref x) { s with heap := h', toks := tk' }) :
    wpAny (model PySem.Challenge.rw_ph0168_01.row.prog w) A (call (.ref 146) [.str ws tw]) Q E s := by
  k_with_none
  w_top off
  have kf : SpecF w 0 0 0 [] [] (fun _ _ _ => True) → True := by unfold SpecF; k_fill; intro _; trivial
  clear kf
  k_with "execs cons" => (with_reducible refine gentk ?_; intro tk)
  k_with "execs nil" => (with_reducible refine gentk ?_; intro tk)
  refine call_cls (K := Mine.part.heap_1 w.params) (fI := 101) F X N (by k_is) (by k_is) (by k_is) fun x dx h' F' N' hdx hx => ?_
  refine useC (spec_init w x dx hx ws tw hw hend) (rest := rest) (A := A.under _) hh ?_ ?_ F' X N' T ?_ ?_ fun z r h2 tk2 hP F2 N2 hne => ?_
  · exact Nat.le_trans (Nat.add_le_add hde (show _ ≤ 10 from Nat.le_of_ble_eq_true rfl)) (by decide)
  · exact Nat.le_trans (Nat.add_le_add hu (show _ ≤ 10 from Nat.le_of_ble_eq_true rfl)) (by decide)
  · intro q hq
    have := hdx q hq
    have h2 : @LT.lt Nat _ q.1 dx := this
    have h3 : @LT.lt Nat _ dx x := hx
    exact List.forall_mem_cons.mpr ⟨fun e => (by have e : @Eq Nat x q.1 := e; omega), List.forall_mem_cons.mpr ⟨fun e => (by have e : @Eq Nat dx q.1 := e; omega), List.forall_mem_nil _⟩⟩
  · exact fun a q hq => List.mem_map_of_mem (f := fun x => x.1) hq
  · obtain ⟨rfl, hi, htc⟩ := hP
    have e : ∀ q ∈ [(z.tn, tupObj [Value.ref z.tc, Value.int (wsOf ws).b z.t3]), (z.tc, tupObj z.cvs)], ∀ p ∈ [(x, instObj 146 dx), (dx, dictOf [] 0)] ++ rest, @Ne Nat p.1 q.1 := hne
    have e1 := e _ (.head _)
    have e2 := e _ (.tail _ (.head _))
    refine ⟨rfl, h x dx z h2 tk2 hi ⟨hx, htc, e1 (x, _) (.head _), e2 (x, _) (.head _), e1 (dx, _) (.tail _ (.head _)), e2 (dx, _) (.tail _ (.head _))⟩ (fun q hq => ?_) F2 (fun q hq => N2 q ?_)⟩
    · have h4 : @LT.lt Nat _ q.1 dx := hdx q hq
      have h3 : @LT.lt Nat _ dx x := hx
      exact ⟨by omega, by omega, e1 q (List.mem_append_right _ hq), e2 q (List.mem_append_right _ hq)⟩
    · simp only [wsObjs, List.mem_cons, List.mem_append, List.not_mem_nil, or_false] at hq ⊢
      rcases hq with (h | h | h | h) | h <;> simp [h]
end
section
theorem use_whiteN {w : World} {ws : Str} {tw : Tok} (hw : ws.cps.size ≤ 40) (hend : ∃ k ∈ ws.cps.toList, k ≠ 32 ∧ k ≠ 9) {rest : List (Addr × Obj)} {st : WsS} (hst : wsOf ws = st)
    {A : Around} {p : Program} {loose : List Str} {mean : ExcName → Option Value} {mg mb : Str → Option Value} {h₀ : Heap} {L : Addr} {m : Str → Option Value} {s : Shared} {Q E : Value → Shared → Prop}
    (hh : A.handled = none) (hde : A.depth ≤ 770) (hu : A.units ≤ 6490)
    (F : Fr h₀ L s.heap m) (X : (Mine.part.heap_1 w.params).In h₀) (N : News h₀ L s.heap rest) (T : Top p loose mean mg mb h₀)
    (h : ∀ x dx z h' tk', IntsAre z.cvs st.count → @LT.lt Nat _ dx x → NeA x z.tn ∧ NeA x z.tc ∧ NeA dx z.tn ∧ NeA dx z.tc ∧ NeA z.tc z.tn →
      (∀ q ∈ rest, NeA q.1 x ∧ NeA q.1 dx ∧ NeA q.1 z.tn ∧ NeA q.1 z.tc) → Fr h₀ L h' m → News h₀ L h' (wsObjs w x dx ws tw st z ++ rest) → Q (.ref x) { s with heap := h', toks := tk' }) :
    wpAny (model PySem.Challenge.rw_ph0168_01.row.prog w) A (call (.ref 146) [.str ws tw]) Q E s := by
  subst hst
  exact use_white hw hend hh hde hu F X N T fun x dx z h' tk' hi ho hne F' N' => h x dx z h' tk' hi ho.1 ⟨ho.2.2.1, ho.2.2.2.1, ho.2.2.2.2.1, ho.2.2.2.2.2, Nat.ne_of_lt ho.2.1⟩ hne F' N'
end
section
local macro_rules | `(tactic| walk_at $s:str) => `(tactic| k_extra $s)
local macro_rules | `(tactic| k_ne) => `(tactic| first | exact NeA.out (by assumption) | exact NeA.flip (by assumption))
theorem fm_eq (a b : Int) (hb : 0 ≤ b) : a.fmod b = a % b := Int.fmod_eq_emod_of_nonneg a hb
theorem fd_eq (a b : Int) (hb : 0 ≤ b) : a.fdiv b = a / b := Int.fdiv_eq_ediv_of_nonneg a hb
def leadR (n r0 r1 q : Int) : Str := Txt.join (Str.ofString "") (([r0, r1].take n.toNat).map fun r => Txt.mul (Str.ofString " ") r ++ Str.ofString "\t") ++ Txt.mul (Str.ofString " ") q
def leadZ (S : Int) : Str := leadR ((S.fdiv 16).fmod 3) (S.fmod 4) ((S.fdiv 4).fmod 4) (S.fdiv 48)
theorem fmod_nn (a b : Int) (hb : 0 < b) : 0 ≤ a.fmod b := by rw [fm_eq _ _ (Int.le_of_lt hb)]; exact Int.emod_nonneg _ (by omega)
theorem leadJ_all : ∀ n : Nat, n < 3 → ∀ r0 : Nat, r0 < 4 → ∀ r1 : Nat, r1 < 4 → (Txt.join (Str.ofString "") (([(r0 : Int), (r1 : Int)].take n).map fun r => Txt.mul (Str.ofString " ") r ++ Str.ofString "\t")).length ≤ 10 := by decide +kernel
theorem leadJ_len (n : Nat) (hn : n < 3) {r0 r1 : Int} (h1 : 0 ≤ r0 ∧ r0 < 4) (h2 : 0 ≤ r1 ∧ r1 < 4) : (Txt.join (Str.ofString "") (([r0, r1].take n).map fun r => Txt.mul (Str.ofString " ") r ++ Str.ofString "\t")).length ≤ 10 := by
  have h := leadJ_all n hn r0.toNat (by omega) r1.toNat (by omega)
  rw [Int.toNat_of_nonneg h1.1, Int.toNat_of_nonneg h2.1] at h
  exact h
theorem leadW_all : ∀ n : Nat, n < 3 → ∀ r0 : Nat, r0 < 4 → ∀ r1 : Nat, r1 < 4 → (((([(r0 : Int), (r1 : Int)].take n).map fun r => Txt.mul (Str.ofString " ") r ++ Str.ofString "\t").map (·.length)).sum + (([(r0 : Int), (r1 : Int)].take n).map fun r => Txt.mul (Str.ofString " ") r ++ Str.ofString "\t").length) ≤ 1048576 := by decide +kernel
theorem leadW_len (n : Nat) (hn : n < 3) {r0 r1 : Int} (h1 : 0 ≤ r0 ∧ r0 < 4) (h2 : 0 ≤ r1 ∧ r1 < 4) : (((([r0, r1].take n).map fun r => Txt.mul (Str.ofString " ") r ++ Str.ofString "\t").map (·.length)).sum + (([r0, r1].take n).map fun r => Txt.mul (Str.ofString " ") r ++ Str.ofString "\t").length) ≤ 1048576 := by
  have h := leadW_all n hn r0.toNat (by omega) r1.toNat (by omega)
  rw [Int.toNat_of_nonneg h1.1, Int.toNat_of_nonneg h2.1] at h
  exact h
theorem leadM_all : ∀ q : Nat, q < 4 → (Txt.mul (Str.ofString " ") (q : Int)).length ≤ 3 := by decide +kernel
theorem leadM_len {q : Int} (h : 0 ≤ q ∧ q < 4) : (Txt.mul (Str.ofString " ") q).length ≤ 3 := by
  have e := leadM_all q.toNat (by omega)
  rw [Int.toNat_of_nonneg h.1] at e
  exact e
theorem fmod_rng (a b : Int) (hb : 0 < b) : 0 ≤ a.fmod b ∧ a.fmod b < b := by rw [fm_eq _ _ (Int.le_of_lt hb)]; exact ⟨Int.emod_nonneg _ (by omega), Int.emod_lt_of_pos _ hb⟩
theorem fdiv_rng {a : Int} (h : 0 ≤ a ∧ a < 192) : 0 ≤ a.fdiv 48 ∧ a.fdiv 48 < 4 := by rw [fd_eq _ _ (by decide)]; omega
theorem three {n : Int} (h : 0 ≤ n ∧ n < 3) : n = 0 ∨ n = 1 ∨ n = 2 := by omega
theorem lead_fit {a b : Nat} (h1 : a ≤ 10) (h2 : b ≤ 3) : a + b ≤ sizeLine := by rw [sizeLine_eq]; omega
set_option maxHeartbeats 8000000 in
theorem spec_lead (w : World) (x : Int) (tx : Tok) :
    SpecF w 155 900 8000 [.int x tx] [] (PostU (α := Unit) (fun _ r => ∃ t, r = .str (leadZ (x.fmod 192)) t) (fun _ => []) []) := by
  k_with_none
  w_top off
  have kf : SpecF w 0 0 0 [] [] (fun _ _ _ => True) → True := by unfold SpecF; k_fill; intro _; trivial
  clear kf
  k_with "execs cons" => (with_reducible refine gentk ?_; intro tk)
  k_with "execs nil" => (with_reducible refine gentk ?_; intro tk)
  intro p loose mean mg mb h₀ s R X T hk hs hret
  (refine' enterS (binds := [("drawn", .int x tx)]) ?kX ?kT ?kk ?ks ?ko ?kc ?kr ?kb ?kl ?_ ?c1 ?c2 ?c3 ?c4; (case kX => assumption); (case kT => assumption); (case kk => assumption); (case ks => assumption); (case ko => k_is); (case kc => k_is); (case kr => (first | decide | (simp only [recursionLimit]; omega))); (case kb => exact BindsTo.of_eq rfl); (case kl => exact locs rfl); (case c1 => exact rfl); (case c2 => exact rfl); (case c3 => exact rfl); (case c4 => decide); k_whole)
  intro g L' h' F' N' X' T' l1 st1 st2
  (try dsimp only)
  (try k_fold)
  k_with "call builtin:str.join" => (refine' join_listW ?jl ?ji ?js ?jw ?_; (case jl => exact News.isList (by k_asm) (by k_mem)); (case ji => first | exact .nil | exact .cons _ _ .nil | exact .cons _ _ (.cons _ _ .nil)); (case js => decide); (case jw => first | exact Nat.zero_le _ | exact leadW_len 1 (by decide) (by assumption) (by assumption) | exact leadW_len 2 (by decide) (by assumption) (by assumption)); intro _ _)
  k_with "subscriptTail Name Slice ref ref" => (refine' kmk_slice_ints ?F ?N ?l ?p ?q ?i ?m ?c ?_ ?s ?t ?z; (case F => k_asm); (case N => k_asm); (case l => kmk_list); (case p => kmk_part); (case q => kmk_part); (case i => l_ints); (case m => exact kmk_upto (by l_ints) (fmod_nn _ _ (by decide))); (case c => exact rfl); (case s => with_unfolding_all rfl); (case t => kmk_pure); (case z => exact Nat.le_of_ble_eq_true rfl); intro D' ws' h' F' N' l1 hI' hC' hL')
  k_with "exec Return some" => (rename IntsAre _ _ => hI; refine Hold.mk ?_)
  k_steps
  refine Hold.out ?_

  rename Fr _ _ _ _ => F1
  rename News _ _ _ _ => N1
  have h1 := fmod_rng x 192 (by decide)
  have hz : leadZ (x.fmod 192) = leadR (((x.fmod 192).fdiv 16).fmod 3) ((x.fmod 192).fmod 4) (((x.fmod 192).fdiv 4).fmod 4) ((x.fmod 192).fdiv 48) := rfl
  rw [hz] at hret
  clear hz
  generalize x.fmod 192 = S at F1 N1 hI h1 hret
  have h2 := fmod_rng S 4 (by decide)
  have h3 := fmod_rng (S.fdiv 4) 4 (by decide)
  have h4 := fmod_rng (S.fdiv 16) 3 (by decide)
  have h5 := fdiv_rng h1
  generalize S.fmod 4 = r0 at F1 N1 hI h2 hret
  generalize (S.fdiv 4).fmod 4 = r1 at F1 N1 hI h3 hret
  generalize (S.fdiv 16).fmod 3 = n at F1 N1 hI h4 hret

  k_with "binaryOp Add str str" => ((refine' PyProof.Rows.add_str ?_ ?hz); (case hz => exact lead_fit (by assumption) (by assumption)); intro _ _)
  have hlq := leadM_len h5
  rcases three h4 with rfl | rfl | rfl
  · simp only [show (0 : Int).toNat = 0 from rfl, List.take_zero] at hI
    cases hI with
    | nil =>
      k_steps
      show LeaveS _ _ _ _
      refine' leaveU (s := s) st1 (by assumption) (by assumption) () ⟨_, rfl⟩ (List.forall_mem_nil _) hret
  · simp only [show (1 : Int).toNat = 1 from rfl, List.take_succ_cons, List.take_zero] at hI
    cases hI with
    | cons _ t1 hI => cases hI with
      | nil =>
        have hlj : (Txt.join (Str.ofString "") [Txt.mul (Str.ofString " ") r0 ++ Str.ofString "\t"]).length ≤ 10 := leadJ_len 1 (by decide) h2 h3
        k_steps
        show LeaveS _ _ _ _
        refine' leaveU (s := s) st1 (by assumption) (by assumption) () ⟨_, rfl⟩ (List.forall_mem_nil _) hret
  · simp only [show (2 : Int).toNat = 2 from rfl, List.take_succ_cons, List.take_zero] at hI
    cases hI with
    | cons _ t1 hI => cases hI with
      | cons _ t2 hI => cases hI with
        | nil =>
          have hlj : (Txt.join (Str.ofString "") [Txt.mul (Str.ofString " ") r0 ++ Str.ofString "\t", Txt.mul (Str.ofString " ") r1 ++ Str.ofString "\t"]).length ≤ 10 := leadJ_len 2 (by decide) h2 h3
          k_steps
          show LeaveS _ _ _ _
          refine' leaveU (s := s) st1 (by assumption) (by assumption) () ⟨_, rfl⟩ (List.forall_mem_nil _) hret
end
section
local macro_rules | `(tactic| walk_at $s:str) => `(tactic| k_extra $s)
local macro_rules | `(tactic| k_ne) => `(tactic| first | exact NeA.out (by assumption) | exact NeA.flip (by assumption))
def carryF (size shown : Int) (c : List (Int × Int)) : Nat → Int → Int → Int → List (Int × Int) → Option (List (Int × Int) × Int)
  | 0, _, _, _, _ => none
  | n + 1, place, come, tabs, held =>
    if place < (c.length : Int) ∨ come > 0 then
      if 0 ≤ come + kdfLook c place 0 ∧ come + kdfLook c place 0 < 64 then
        carryF size shown c n (place + 1) (shown * ((come + kdfLook c place 0) / size)) (tabs + (come + kdfLook c place 0) / size) (kdfPut held place ((come + kdfLook c place 0) % size))
      else none
    else some (held, tabs)
abbrev cTxt (m r : Int) : Str := Txt.mul (Str.ofString "\t") m ++ Txt.mul (Str.ofString " ") r ++ Str.ofString "x\t "
def wsChk (ws : Str) (cnt : List Int) (b n nt : Int) : Bool :=
  decide (ws.cps.size ≤ 40) && ws.cps.toList.any (fun k => k != 32 && k != 9) && decide ((wsOf ws).count = cnt) && decide ((wsOf ws).b = b) && decide ((wsOf ws).n = n) && decide ((wsOf ws).nt = nt)
theorem wsChk_out {ws : Str} {cnt : List Int} {b n nt : Int} (h : wsChk ws cnt b n nt = true) : ws.cps.size ≤ 40 ∧ (∃ k ∈ ws.cps.toList, k ≠ 32 ∧ k ≠ 9) ∧ wsOf ws = ⟨cnt, b, n, nt⟩ := by
  simp only [wsChk, Bool.and_eq_true, decide_eq_true_eq, List.any_eq_true, bne_iff_ne, ne_eq] at h
  obtain ⟨⟨⟨⟨⟨h1, h2⟩, h3⟩, h4⟩, h5⟩, h6⟩ := h
  refine ⟨h1, h2, ?_⟩
  cases hw : wsOf ws with
  | mk a b c d => rw [hw] at h3 h4 h5 h6; dsimp only at h3 h4 h5 h6; rw [h3, h4, h5, h6]
theorem cTxt_all : ∀ m : Nat, m < 22 → ∀ r : Nat, r < 6 → wsChk (cTxt m r) (if m = 0 then [] else [(m : Int)]) r (m + r) m = true := by decide +kernel
theorem cTxt_law {m r : Int} (h1 : 0 ≤ m) (h2 : m < 22) (h3 : 0 ≤ r) (h4 : r < 6) : (cTxt m r).cps.size ≤ 40 ∧ (∃ k ∈ (cTxt m r).cps.toList, k ≠ 32 ∧ k ≠ 9) ∧ wsOf (cTxt m r) = ⟨if m = 0 then [] else [m], r, m + r, m⟩ := by
  obtain ⟨M, rfl⟩ := Int.eq_ofNat_of_zero_le h1
  obtain ⟨r, rfl⟩ := Int.eq_ofNat_of_zero_le h3
  have e : (if (M : Int) = 0 then ([] : List Int) else [(M : Int)]) = if M = 0 then [] else [(M : Int)] := by by_cases h : M = 0 <;> simp [h]
  rw [e]
  exact wsChk_out (cTxt_all M (by omega) r (by omega))
structure CaS where
  hq : Addr
  ho : Obj
  kv : List (Int × Value)
  held : List (Int × Int)
  y : Tb
  fuel : Nat
  place : Int
  come : Int
  tabs : Int
  tp : Tok
  tc : Tok
  tt : Tok
structure CaR where
  z : Tb
  t : Addr
  q : Addr
  o : Obj
  kv : List (Int × Value)
  tk : Tok
abbrev CaQ (w : World) (d : Addr) (res : List (Int × Int) × Int) (k : CaR) (r : Value) : Prop :=
  r = .ref k.t ∧ TbOK k.z ∧ k.o.IsDictOf (intKind PySem.Challenge.rw_ph0168_01.row.prog w) k.kv ∧ FlatPairs PyData.int k.kv (kdfD res.1) ∧ (k.q == sysModules) = false ∧
  NeA k.q d ∧ NeA k.q 58 ∧ NeA k.q 65 ∧ NeA k.q k.z.c1 ∧ NeA k.q k.z.c2 ∧ NeA d k.z.c1 ∧ NeA d k.z.c2 ∧ NeA k.t k.q ∧ NeA k.t d ∧ NeA k.t 58 ∧ NeA k.t 65 ∧ NeA k.t k.z.c1 ∧ NeA k.t k.z.c2
abbrev CaP (w : World) (d : Addr) (size shown : Int) (c : List (Int × Int)) (res : List (Int × Int) × Int) (k : CaS) : Prop :=
  TbOK k.y ∧ k.ho.IsDictOf (intKind PySem.Challenge.rw_ph0168_01.row.prog w) k.kv ∧ FlatPairs PyData.int k.kv (kdfD k.held) ∧ (k.hq == sysModules) = false ∧ NeA k.hq d ∧ (NeA k.hq 58 ∧ NeA k.hq 65 ∧ NeA k.hq k.y.c1 ∧ NeA k.hq k.y.c2) ∧
  (NeA d 58 ∧ NeA d 65 ∧ NeA d k.y.c1 ∧ NeA d k.y.c2) ∧ carryF size shown c k.fuel k.place k.come k.tabs k.held = some res ∧ k.held.length + k.fuel ≤ 100
set_option maxHeartbeats 8000000 in
theorem spec_carr (w : World) (y : Tb) (hy : TbOK y) (d : Addr) (o : Obj) (kvs : List (Int × Value)) (c : List (Int × Int)) (size shown : Int) (ts th : Tok)
    (hio : o.IsDictOf (intKind PySem.Challenge.rw_ph0168_01.row.prog w) kvs) (hfp : FlatPairs PyData.int kvs (kdfD c)) (hlo : (d == sysModules) = false) (hc : c.length ≤ 16) (hdd : NeA d 58 ∧ NeA d 65 ∧ NeA d y.c1 ∧ NeA d y.c2)
    (h1 : 0 < shown) (h2 : shown < size) (h0 : 3 ≤ size) (h3 : size ≤ 6) (res : List (Int × Int) × Int) (hres : carryF size shown c 40 0 0 0 [] = some res) :
    SpecF w 176 700 6000 [.ref d, .int size ts, .int shown th] ((d, o) :: tbL y) (PostU (α := CaR) (CaQ w d res) (fun k => (k.t, tupObj [.ref k.q, .int res.2 k.tk]) :: (k.q, k.o) :: (d, o) :: tbL k.z) ((d, o) :: tbL y)) := by
  k_with_none
  w_top off
  have kf : SpecF w 0 0 0 [] [] (fun _ _ _ => True) → True := by unfold SpecF; k_fill; intro _; trivial
  clear kf
  k_with "execs cons" => (with_reducible refine gentk ?_; intro tk)
  k_with "execs nil" => (with_reducible refine gentk ?_; intro tk)
  intro p loose mean mg mb h₀ s R X T hk hs hret
  (refine' enterS (binds := [("table", .ref d), ("size", .int size ts), ("shown", .int shown th)]) ?kX ?kT ?kk ?ks ?ko ?kc ?kr ?kb ?kl ?_ ?c1 ?c2 ?c3 ?c4; (case kX => assumption); (case kT => assumption); (case kk => assumption); (case ks => assumption); (case ko => k_is); (case kc => k_is); (case kr => (first | decide | (simp only [recursionLimit]; omega))); (case kb => exact BindsTo.of_eq rfl); (case kl => exact locs rfl); (case c1 => exact rfl); (case c2 => exact rfl); (case c3 => exact rfl); (case c4 => decide); k_whole)
  intro g L' h' F' N' X' T' l1 st1 st2
  k_lt l1
  (try dsimp only)
  (try k_fold)
  k_with "call ref" => (refine Hold.mk ?_)
  k_with "exec While BoolOp cons nil" => (refine Hold.mk ?_)
  k_with "KswPost" => (refine Hold.mk ?_)
  k_steps
  refine Hold.out ?_
  rename News _ _ _ _ => N1
  rename Fr _ _ _ _ => F1
  refine' ksw_while (σ := CaS) (fun k => [(k.hq, k.ho), (d, o), (58, k.y.a1), (65, k.y.a2), (k.y.c1, k.y.o1), (k.y.c2, k.y.o2)]) (fun k => [("held", .ref k.hq), ("tabs", .int k.tabs k.tt), ("come", .int k.come k.tc), ("place", .int k.place k.tp)]) (fun _ => True) ["many", "rest", "white"]
    (CaP w d size shown c res) (fun k => k.fuel) ⟨_, _, [], [], y, 40, 0, 0, 0, _, _, _⟩ F1 N1 trivial ?kk ?kp ?turn
  case kk => kst_all
  case kp => exact ⟨hy, by assumption, by assumption, by assumption, NeA.gt (by (dsimp only; omega)), ⟨NeA.gt (by (dsimp only; omega)), NeA.gt (by (dsimp only; omega)), NeA.gt (by (dsimp only; omega)), NeA.gt (by ((try dsimp only); omega))⟩, hdd, hres, Nat.le_of_ble_eq_true rfl⟩
  case turn =>
    clear F1 N1
    intro k u h tk _ hP F N
    obtain ⟨hy, hko, hkf, hk1, hkd, hk2, hd2, hrun, hlen⟩ := hP
    obtain ⟨hq, ho, kv, held, ⟨a1, a2, c1, o1, c2, o2⟩, fuel, place, come, tabs, tp, tc, tt⟩ := k
    dsimp only at hko hkf hk1 hkd hk2 hd2 hrun hlen F N
    obtain ⟨hk2, hk3, hk4, hk5⟩ := hk2
    obtain ⟨hd2, hd3, hd4, hd5⟩ := hd2
    refine wpAny_mono (Q := fun b s₂ => (∃ tk', s₂ = { s with heap := h, toks := tk' }) ∧ b = decide (place < (c.length : Int) ∨ come > 0)) ?test ?cont fun _ _ e => e
    case test =>
      try k_fold
      k_steps
      all_goals first | exact (decide_eq_true (by omega)).symm | exact (decide_eq_false (by omega)).symm
    case cont =>
      rintro b s2 ⟨⟨tk2, rfl⟩, rfl⟩
      by_cases hC : place < (c.length : Int) ∨ come > 0
      · rw [decide_eq_true hC, if_pos rfl]
        cases fuel with
        | zero => cases hrun
        | succ n =>
        rw [carryF, if_pos hC] at hrun
        split at hrun
        case isFalse => cases hrun
        case isTrue hv =>
        try k_fold
        k_steps
        refine Hold.out ?_
        rename News _ _ _ _ => N1
        have N2 := news_pick2 N1 [2, 3, 4, 5, 0, 1]
        dsimp only [picks, pickAt, List.cons_append, List.nil_append] at N2
        clear N1
        refine' useU (spec_idm w ⟨a1, a2, c1, o1, c2, o2⟩ hy _ _ _ _ hv.1 hv.2 (by omega) h3) ?uh2 ?ud2 ?uu2 ?uF2 ?uX2 N2 ?uT2 ?uo2 ?_
        (case uX2 => k_asm); (case uF2 => k_asm); (case uT2 => k_asm)
        (case uh2 => exact rfl); (case ud2 => first | exact Nat.le_of_ble_eq_true rfl | (show _ + 1 ≤ _; omega)); (case uu2 => first | exact Nat.le_of_ble_eq_true rfl | (show _ + 3 ≤ _; omega))
        (case uo2 => first | exact fun _ _ => List.forall_mem_nil _ | (repeat' (first | exact List.forall_mem_nil _ | (refine List.forall_mem_cons.mpr ⟨?_, ?_⟩) | k_ne)))
        clear N2
        intro z9 r9 h9 tk9 hP9 F9 N9 hne9
        obtain ⟨⟨b1, b2, d1, p1, d2, p2⟩, t, tq, tr⟩ := z9
        dsimp only at hP9 N9 hne9
        obtain ⟨rfl, hy9, hP9, hP8, hP7, hP6⟩ := hP9
        simp only [List.cons_append, List.nil_append] at N9
        replace hne9 := AllL.two hne9
        dsimp only [AllL, List.nil_append, List.cons_append] at hne9
        (repeat (rename ((NeA _ _ ∧ _) ∧ _) => hN0; have hN2 := hN0.1; have hN1 := hN0.2; clear hN0)); (repeat (rename (NeA _ _ ∧ _) => hN0; have hN2 := hN0.1; have hN1 := hN0.2; clear hN0))
        have hm1 := Int.ediv_nonneg hv.1 (show 0 ≤ size by omega)
        have hm2 : (come + kdfLook c place 0) / size < 22 := Int.ediv_lt_of_lt_mul (by omega) (by omega)
        have hm3 := Int.emod_nonneg (come + kdfLook c place 0) (show size ≠ 0 by omega)
        have hm4 := Int.emod_lt_of_pos (come + kdfLook c place 0) (show 0 < size by omega)
        generalize (come + kdfLook c place 0) / size = many at N9 hrun hm1 hm2
        generalize (come + kdfLook c place 0) % size = rst at N9 hrun hm3 hm4
        k_steps
        refine Hold.out ?_
        obtain ⟨hw1, hw2, hw3⟩ := cTxt_law hm1 hm2 hm3 (by omega)
        rename News _ _ _ _ => N1
        rename Fr _ _ _ _ => F1
        refine use_whiteN hw1 hw2 hw3 rfl (Nat.le_of_ble_eq_true rfl) (Nat.le_of_ble_eq_true rfl) F1 (by assumption) N1 (by assumption) ?_
        clear N1 F1
        intro x dx zz h8 tk8 hi8 hx8 hx9 hne8 F8 N8
        dsimp only at hi8
        simp only [wsObjs, List.nil_append, List.cons_append] at N8
        simp only [List.forall_mem_cons, List.not_mem_nil, false_implies, implies_true, and_true, and_assoc] at hne8
        (repeat (rename (NeA _ _ ∧ _) => hN0; have hN2 := hN0.1; have hN1 := hN0.2; clear hN0))
        clear hw1 hw2 hw3
        have hcl : (if many = 0 then ([] : List Int) else [many]).length ≤ 1 := by split <;> simp
        generalize (if many = 0 then ([] : List Int) else [many]) = cnt at N8 hi8 hcl
        generalize cTxt many rst = ws at N8
        k_steps
        refine Hold.out ?_
        rename News _ _ _ _ => N1
        refine' useG (spec_indent w x dx ws _ ⟨cnt, rst, many + rst, many⟩ zz shown _ hx8 hi8 h1 (by omega) (.inl (by (dsimp only; omega))) ⟨hm3, by (dsimp only; omega)⟩ ⟨hm1, by (dsimp only; omega)⟩) ?uh1 ?ud1 ?uu1 ?uF1 ?uX1 N1 ?uT1 ?uo1 ?ua1 ?_
        (case uX1 => k_asm); (case uF1 => k_asm); (case uT1 => k_asm)
        (case uh1 => exact rfl); (case ud1 => first | exact Nat.le_of_ble_eq_true rfl | (show _ + 1 ≤ _; omega)); (case uu1 => first | exact Nat.le_of_ble_eq_true rfl | (show _ + 3 ≤ _; omega))
        (case ua1 => first | exact fun _ => List.forall_mem_nil _ | (intro a q hq; exact List.mem_map_of_mem (f := fun x => x.1) hq))
        (case uo1 => first | exact fun _ _ => List.forall_mem_nil _ | (repeat' (first | exact List.forall_mem_nil _ | (refine List.forall_mem_cons.mpr ⟨?_, ?_⟩) | k_ne)))
        clear N1
        intro z7 r7 h7 tk7 hP7 F7 N7 hne7
        obtain ⟨t7, rfl⟩ := hP7
        simp only [wsObjs, List.cons_append, List.nil_append] at N7
        clear hne7
        have hind : indZ ⟨cnt, rst, many + rst, many⟩ shown - rst = shown * many := by
          rw [indZ, if_pos (by (dsimp only; omega)), Int.zero_add]
          dsimp only
          omega
        k_steps
        refine Hold.out ?_
        dsimp only [KswPost]
        refine' ksw_end ⟨hq, _, _, kdfPut held place rst, ⟨b1, b2, d1, p1, d2, p2⟩, n, place + 1, _, _, _, _, _⟩ (by k_asm) (by k_asm) ?el trivial ?ek ?er ?ep ?em
        case ek => kst_all
        case el => exact List.forall_mem_cons.mpr ⟨by k_mem, List.forall_mem_cons.mpr ⟨by k_mem, List.forall_mem_cons.mpr ⟨by k_mem, List.forall_mem_cons.mpr ⟨by k_mem, List.forall_mem_cons.mpr ⟨by k_mem, List.forall_mem_cons.mpr ⟨by k_mem, List.forall_mem_nil _⟩⟩⟩⟩⟩⟩
        case er => (intro z h2 h3; simp only [List.forall_mem_cons, List.not_mem_nil, false_implies, implies_true, and_true, ne_eq] at h2; simp only [List.contains_cons, List.contains_nil, Bool.or_false, Bool.or_eq_false_iff, beq_eq_false_iff_ne, ne_eq] at h3; simp [kstB, h2, h3])
        case em => exact Nat.lt_succ_self n
        case ep =>
          have hpl := kdfPut_len held place rst
          refine ⟨hy9, by assumption, by assumption, hk1, hkd, ⟨hk2, hk3, by assumption, by assumption⟩, ⟨hd2, hd3, by assumption, by assumption⟩, ?_, by (dsimp only; omega)⟩
          dsimp only
          rw [hind]
          exact hrun
      · rw [decide_eq_false hC, if_neg (by decide)]
        cases fuel with
        | zero => cases hrun
        | succ n =>
        rw [carryF, if_neg hC] at hrun
        injection hrun with hrun
        subst hrun
        try k_fold
        k_steps
        show LeaveS _ _ _ _
        refine' leaveUT (s := s) st1 (by assumption) (by assumption) (fun t => ⟨⟨a1, a2, c1, o1, c2, o2⟩, t, hq, ho, kv, tt⟩) ?lP ?ln hret
        case lP =>
          refine ⟨rfl, ?_⟩
          (try dsimp only)
          exact ⟨hy, hko, hkf, hk1, hkd, hk2, hk3, hk4, hk5, hd4, hd5, NeA.gt (by ((try dsimp only); omega)), NeA.gt (by ((try dsimp only); omega)), NeA.gt (by ((try dsimp only); omega)), NeA.gt (by ((try dsimp only); omega)), NeA.gt (by ((try dsimp only); omega)), NeA.gt (by ((try dsimp only); omega))⟩
        case ln => exact List.forall_mem_cons.mpr ⟨List.Mem.head _, List.forall_mem_cons.mpr ⟨by k_mem, List.forall_mem_cons.mpr ⟨by k_mem, List.forall_mem_cons.mpr ⟨by k_mem, List.forall_mem_cons.mpr ⟨by k_mem, List.forall_mem_cons.mpr ⟨by k_mem, List.forall_mem_cons.mpr ⟨by k_mem, List.forall_mem_nil _⟩⟩⟩⟩⟩⟩⟩
end
section
local macro_rules | `(tactic| walk_at $s:str) => `(tactic| k_extra $s)
local macro_rules | `(tactic| k_ne) => `(tactic| first | exact NeA.out (by assumption) | exact NeA.flip (by assumption))
def colZ (size : Int) (lead : Str) : Int := (List.foldl (fun (σ : Int × Unit) (k : Str) => if (k == Str.ofString " ") = true then (σ.1 + 1, ()) else (σ.1 + size - Int.fmod σ.1 size, ())) (0, ()) (signs lead)).1
set_option maxHeartbeats 8000000 in
theorem spec_column (w : World) (lead : Str) (tl : Tok) (size : Int) (ts : Tok) (h1 : 0 < size) (h2 : size ≤ 6) (hl : lead.length ≤ 16) :
    SpecF w 162 900 8000 [.str lead tl, .int size ts] [] (PostU (α := Unit) (fun _ r => ∃ t, r = .int (colZ size lead) t) (fun _ => []) []) := by
  k_with_none
  w_top off
  have kf : SpecF w 0 0 0 [] [] (fun _ _ _ => True) → True := by unfold SpecF; k_fill; intro _; trivial
  clear kf
  k_with "execs cons" => (with_reducible refine gentk ?_; intro tk)
  k_with "execs nil" => (with_reducible refine gentk ?_; intro tk)
  intro p loose mean mg mb h₀ s R X T hk hs hret
  (refine' enterS (binds := [("lead", .str lead tl), ("size", .int size ts)]) ?kX ?kT ?kk ?ks ?ko ?kc ?kr ?kb ?kl ?_ ?c1 ?c2 ?c3 ?c4; (case kX => assumption); (case kT => assumption); (case kk => assumption); (case ks => assumption); (case ko => k_is); (case kc => k_is); (case kr => (first | decide | (simp only [recursionLimit]; omega))); (case kb => exact BindsTo.of_eq rfl); (case kl => exact locs rfl); (case c1 => exact rfl); (case c2 => exact rfl); (case c3 => exact rfl); (case c4 => decide); k_whole)
  intro g L' h' F' N' X' T' l1 st1 st2
  (try dsimp only)
  (try k_fold)
  k_steps
  show LeaveS _ _ _ _
  refine' leaveU (s := s) st1 (by assumption) (by assumption) () ?lP ?ln hret
  case lP => exact ⟨_, rfl⟩
  case ln => exact List.forall_mem_nil _
end
section
inductive Drops (size shown : Int) : Nat → List Int → Nat → List Int → Prop
  | stop {p : Nat} {ns : List Int} : ns.getD p 0 < size → Drops size shown p ns p ns
  | step {p q : Nat} {ns ms : List Int} : p + 1 ≤ 14 → size ≤ ns.getD p 0 → Drops size shown (p + 1) ((ns.set p (ns.getD p 0 - size)).set (p + 1) ((ns.set p (ns.getD p 0 - size)).getD (p + 1) 0 + shown)) q ms → Drops size shown p ns q ms
abbrev DropW (q : Nat) (ms : List Int) (size shown : Int) (place : Int) (row : List Int) : Prop := 0 ≤ place ∧ place ≤ 14 ∧ row.length = 16 ∧ Drops size shown place.toNat row q ms
theorem drop_start {q : Nat} {ns ms : List Int} {size shown : Int} (hl : ns.length = 16) (hD : Drops size shown 0 (ns.set 0 (ns.getD 0 0 + 1)) q ms) :
    DropW q ms size shown 0 (ns.set (Int.toNat 0) (ns.getD (Int.toNat 0) 0 + 1)) := ⟨by omega, by omega, by rw [List.length_set]; exact hl, hD⟩
theorem drop_stop {q : Nat} {ns ms : List Int} {size shown place : Int} (h : DropW q ms size shown place ns) (hc : ¬ size ≤ ns.getD place.toNat 0) : q = place.toNat ∧ ms = ns := by
  obtain ⟨_, _, _, h⟩ := h
  cases h with
  | stop => exact ⟨rfl, rfl⟩
  | step _ h2 => exact absurd h2 hc
theorem drop_turn {q : Nat} {ns ms : List Int} {size shown place : Int} (hs : 2 < size) (h : DropW q ms size shown place ns) (hc : size ≤ ns.getD place.toNat 0) :
    DropW q ms size shown (place + 1) ((ns.set place.toNat (ns.getD place.toNat 0 - size)).set (place + 1).toNat ((ns.set place.toNat (ns.getD place.toNat 0 - size)).getD (place + 1).toNat 0 + shown)) := by
  obtain ⟨a, b, c, h⟩ := h
  cases h with
  | stop h => exact absurd hc (by omega)
  | step h1 h2 h3 =>
    have e : (place + 1).toNat = place.toNat + 1 := by omega
    exact ⟨by omega, by omega, by simp only [List.length_set]; exact c, by rw [e]; exact h3⟩
set_option maxHeartbeats 8000000 in
theorem spec_drop (w : World) (row : Addr) (vs : List Value) (ns ms : List Int) (q : Nat) (n : Nat) (hi : IntsAre vs ns) (hl : ns.length = 16) (size : Int) (ts : Tok) (shown : Int) (th : Tok) (h1 : 2 < size) (h2 : size ≤ 6) (h3 : 0 < shown) (h4 : shown < size)
    (hD : Drops size shown 0 (ns.set 0 (ns.getD 0 0 + 1)) q ms) :
    SpecF w 169 900 8000 [.ref row, .int size ts, .int shown th] [(row, W.listOf vs.toArray n)] (PostU (α := List Value × Nat) (fun k r => IntsAre k.1 ms ∧ ∃ t, r = .int q t) (fun k => [(row, W.listOf k.1.toArray k.2)]) [(row, W.listOf vs.toArray n)]) := by
  k_with_none
  w_top off
  have kf : SpecF w 0 0 0 [] [] (fun _ _ _ => True) → True := by unfold SpecF; k_fill; intro _; trivial
  clear kf
  k_with "execs cons" => (with_reducible refine gentk ?_; intro tk)
  k_with "execs nil" => (with_reducible refine gentk ?_; intro tk)
  intro p loose mean mg mb h₀ s R X T hk hs hret
  (refine' enterS (binds := [("row", .ref row), ("size", .int size ts), ("shown", .int shown th)]) ?kX ?kT ?kk ?ks ?ko ?kc ?kr ?kb ?kl ?_ ?c1 ?c2 ?c3 ?c4; (case kX => assumption); (case kT => assumption); (case kk => assumption); (case ks => assumption); (case ko => k_is); (case kc => k_is); (case kr => (first | decide | (simp only [recursionLimit]; omega))); (case kb => exact BindsTo.of_eq rfl); (case kl => exact locs rfl); (case c1 => exact rfl); (case c2 => exact rfl); (case c3 => exact rfl); (case c4 => decide); k_whole)
  intro g L' h' F' N' X' T' l1 st1 st2
  k_lt l1
  (try dsimp only)
  (try k_fold)
  k_with "exec While Compare cons nil" => k_while_given ["size", "shown"] (fun size shown script place row => DropW q ms size shown place row) (fun size shown script place row => (16 - place).toNat) "place" "row"
  k_with "state" => first | exact drop_start (by assumption) (by assumption) | exact drop_turn (by assumption) ⟨by assumption, by assumption, by assumption, by assumption⟩ (by assumption)
  k_steps
  show LeaveS _ _ _ _
  obtain ⟨e1, e2⟩ := drop_stop (size := size) (shown := shown) ⟨by assumption, by assumption, by assumption, by assumption⟩ (by assumption)
  refine' leaveU (s := s) st1 (by assumption) (by assumption) (_, _) ?lP ?ln hret
  case lP => rw [e1, e2]; exact ⟨by assumption, _, by rw [Int.toNat_of_nonneg (by assumption)]⟩
  case ln => exact List.forall_mem_cons.mpr ⟨by k_mem, List.forall_mem_nil _⟩
end
section
section
variable {prog : Program} {w : World} {A : Around} {E : Value → Shared → Prop} {s : Shared} {env : Env} {h₀ : Heap} {target : Expr} {body : List Stmt} {Q : Flow → Shared → Prop}
  {σ : Type} {Led : σ → List (Addr × Obj)} {ps : σ → List (Str × Value)} {stored : List Str} {m₀ : Str → Option Value} {I : Addr} {cls : String} {keep : List (Addr × Obj)}
theorem items_ind (P : List Itm → σ → Prop) (hlp : ∀ c, SubL keep (Led c))
    (turn : ∀ a r c (u : Str → Option Value) v it h tk, P (a :: r) c → a.Is v h → (∀ p ∈ Led c, @Ne Nat p.1 I) → Fr h₀ env.locals h (kstB (fun z => if stored.contains z then u z else m₀ z) (ps c)) → News h₀ env.locals h ((I, it) :: Led c) →
      wpAny (model prog w) A (assign target env v) (fun _ s₂ => wpAny (model prog w) A (execs body env) (LPost h₀ env.locals { s with heap := h, toks := tk } I it Led ps stored m₀ (P r) Q) E s₂) E { s with heap := h, toks := tk })
    (done : ∀ c (u : Str → Option Value) h tk, P [] c → Fr h₀ env.locals h (kstB (fun z => if stored.contains z then u z else m₀ z) (ps c)) → News h₀ env.locals h (Led c) → Q .next { s with heap := h, toks := tk }) :
    ∀ (l : List Itm) (c : σ) (m : Str → Option Value), P l c → (∀ p ∈ Led c, @Ne Nat p.1 I) → (∀ p ∈ ps c, m p.1 = some p.2) → (∀ z, (∀ p ∈ ps c, z ≠ p.1) → stored.contains z = false → m z = m₀ z) →
      ItemsRest prog w A E h₀ env target body Q s [(I, cls)] keep l m (Led c)
  | [], c, m, hp, _, h1, h2 => ItemsRest.zero fun h tk F N => done c m h tk hp (by rw [map_eq h1 h2]; exact F) N
  | a :: r, c, m, hp, ho, h1, h2 => by
    intro v h tk hv F
    refine AllObj.cons fun it _ => AllObj.nil fun N => ?_
    refine wpAny_mono (turn a r c m v it h tk hp hv ho (by rw [map_eq h1 h2]; exact F) N) (fun _ s₂ q => wpAny_mono q (fun f s₃ q => ?_) fun _ _ e => e) fun _ _ e => e
    have fin : LEnd h₀ env.locals { s with heap := h, toks := tk } I it Led ps stored m₀ (P r) s₃ → UnrEndW h₀ env.locals { s with heap := h, toks := tk } [(I, it)] (fun m' n' => SubL keep n' ∧ ItemsRest prog w A E h₀ env target body Q s [(I, cls)] keep r m' n') s₃ := by
      rintro ⟨c', h', tk', m', news', e, F, N, hI, hl, hk, hr, hp⟩
      refine ⟨h', tk', m', Led c', e, F, fun p hp => ?_, fun p hp q hq => ?_, hlp c', items_ind P hlp turn done r c' m' hp (fun p hp => (hl p hp).2) hk hr⟩
      · rcases List.mem_append.mp hp with hp | hp
        · rw [List.mem_singleton.mp hp]; exact N _ hI
        · exact N _ (hl p hp).1
      · rw [List.mem_singleton.mp hq]; exact (hl p hp).2
    cases f with
    | ret v => exact q
    | brk => exact q
    | next => exact fin q
    | cont => exact fin q
/-- for (k, v) in d.items() -/
theorem items_loop {elts : List Expr} {kk : Nat} {pos : Pos} {d vw : Addr} {od : Obj} {kvs : List (Int × Value)} {news : List (Addr × Obj)} (Led : σ → List (Addr × Obj)) (ps : σ → List (Str × Value)) (stored : List Str) (P : List Itm → σ → Prop) (c₀ : σ)
    (hh : A.handled = none) (F : Fr h₀ env.locals s.heap m₀) (N : News h₀ env.locals s.heap news) (hvw : ∃ ov, s.heap.get? vw = some ov ∧ ov.cls = .type "dict_items" ∧ ov.data = .fields #[.ref d]) (hd : od.IsDictOf (intKind prog w) kvs)
    (hL : ∀ p ∈ Led c₀, p ∈ news) (hk : ∀ p ∈ ps c₀, m₀ p.1 = some p.2) (hp : P (kvs.map (fun p => Itm.pair (kyVal (PyData.int p.1)) p.2)) c₀) (hlp : ∀ c, (d, od) ∈ Led c)
    (turn : ∀ I, (∀ p ∈ Led c₀, p.1 < I) → ∀ a r c (u : Str → Option Value) v it h tk, P (a :: r) c → a.Is v h → (∀ p ∈ Led c, @Ne Nat p.1 I) → Fr h₀ env.locals h (kstB (fun z => if stored.contains z then u z else m₀ z) (ps c)) → News h₀ env.locals h ((I, it) :: Led c) →
      wpAny (model prog w) A (assign (.Tuple elts kk pos) env v) (fun _ s₂ => wpAny (model prog w) A (execs body env) (LPost h₀ env.locals { s with heap := h, toks := tk } I it Led ps stored m₀ (P r) Q) E s₂) E { s with heap := h, toks := tk })
    (done : ∀ c (u : Str → Option Value) h tk, P [] c → Fr h₀ env.locals h (kstB (fun z => if stored.contains z then u z else m₀ z) (ps c)) → News h₀ env.locals h (Led c) → Q .next { s with heap := h, toks := tk }) :
    wpAny (model prog w) A (pyIter (.ref vw)) (fun it s₂ => TurnsAt prog w A h₀ env (.Tuple elts kk pos) body Q E it s₂) E s :=
  kta_items (enc := PyData.int) hh F (fun p hp => N p (hL p hp)) hvw (hlp c₀) hd (fun k v h => by obtain ⟨t, rfl⟩ := Value.isInt_shape h; exact ⟨t, rfl⟩) rfl fun I hI =>
    items_ind (keep := [(d, od)]) P (fun c => And.intro (hlp c) trivial) (turn I hI) done _ c₀ m₀ hp (fun p hp => Nat.ne_of_lt (hI p hp)) hk fun _ _ _ => rfl
/-- for v in d.values() -/
theorem vals_loop {d vw : Addr} {od : Obj} {kvs : List (Int × Value)} {news : List (Addr × Obj)} (Led : σ → List (Addr × Obj)) (ps : σ → List (Str × Value)) (stored : List Str) (P : List Itm → σ → Prop) (c₀ : σ)
    (hh : A.handled = none) (F : Fr h₀ env.locals s.heap m₀) (N : News h₀ env.locals s.heap news) (hvw : s.heap.IsValuesView vw d) (hd : od.IsDictOf (intKind prog w) kvs)
    (hL : ∀ p ∈ Led c₀, p ∈ news) (hk : ∀ p ∈ ps c₀, m₀ p.1 = some p.2) (hp : P (kvs.map (fun p => Itm.val p.2)) c₀) (hlp : ∀ c, (d, od) ∈ Led c)
    (turn : ∀ I, (∀ p ∈ Led c₀, p.1 < I) → ∀ a r c (u : Str → Option Value) v it h tk, P (a :: r) c → a.Is v h → (∀ p ∈ Led c, @Ne Nat p.1 I) → Fr h₀ env.locals h (kstB (fun z => if stored.contains z then u z else m₀ z) (ps c)) → News h₀ env.locals h ((I, it) :: Led c) →
      wpAny (model prog w) A (assign target env v) (fun _ s₂ => wpAny (model prog w) A (execs body env) (LPost h₀ env.locals { s with heap := h, toks := tk } I it Led ps stored m₀ (P r) Q) E s₂) E { s with heap := h, toks := tk })
    (done : ∀ c (u : Str → Option Value) h tk, P [] c → Fr h₀ env.locals h (kstB (fun z => if stored.contains z then u z else m₀ z) (ps c)) → News h₀ env.locals h (Led c) → Q .next { s with heap := h, toks := tk }) :
    wpAny (model prog w) A (pyIter (.ref vw)) (fun it s₂ => TurnsAt prog w A h₀ env target body Q E it s₂) E s :=
  kta_vals hh F (fun p hp => N p (hL p hp)) hvw (hlp c₀) hd rfl fun I hI =>
    items_ind (keep := [(d, od)]) P (fun c => And.intro (hlp c) trivial) (turn I hI) done _ c₀ m₀ hp (fun p hp => Nat.ne_of_lt (hI p hp)) hk fun _ _ _ => rfl
end
theorem flat_cons {k : Int} {v : Value} {kvs : List (Int × Value)} {c : List (Int × Int)} (h : FlatPairs PyData.int ((k, v) :: kvs) (kdfD c)) : ∃ n t c', c = (k, n) :: c' ∧ v = .int n t ∧ FlatPairs PyData.int kvs (kdfD c') := by
  cases c with
  | nil => cases h
  | cons p c =>
    obtain ⟨a, n⟩ := p
    generalize hD : kdfD ((a, n) :: c) = D at h
    cases h with
    | cons hv h =>
      rw [kdfD, List.map_cons] at hD
      injection hD with e1 e2
      injection e1 with e3 e4
      injection e3 with e3
      subst e3 e4 e2
      obtain ⟨t, rfl⟩ := PyProof.V.Flat.int_inv hv
      exact ⟨n, t, c, rfl, rfl, h⟩
end
section
local macro_rules | `(tactic| walk_at $s:str) => `(tactic| k_extra $s)
local macro_rules | `(tactic| k_ne) => `(tactic| first | exact NeA.out (by assumption) | exact NeA.flip (by assumption))
structure CtS where
  nc : Int
  tk : Tok
abbrev CtP (tot : Int) (l : List Itm) (k : CtS) : Prop := ∃ (kvs : List (Int × Value)) (c : List (Int × Int)), l = kvs.map (fun p => Itm.val p.2) ∧ FlatPairs PyData.int kvs (kdfD c) ∧ k.nc + (c.map (·.2)).sum = tot
set_option maxHeartbeats 8000000 in
theorem spec_count (w : World) (d : Addr) (o : Obj) (kvs : List (Int × Value)) (c : List (Int × Int))
    (hio : o.IsDictOf (intKind PySem.Challenge.rw_ph0168_01.row.prog w) kvs) (hfp : FlatPairs PyData.int kvs (kdfD c)) (hlo : (d == sysModules) = false) (hc : c.length ≤ 16) :
    SpecF w 42 900 8000 [.ref d] [(d, o)] (PostU (α := Unit) (fun _ r => ∃ t, r = .int (c.map (·.2)).sum t) (fun _ => [(d, o)]) [(d, o)]) := by
  k_with_none
  w_top off
  have kf : SpecF w 0 0 0 [] [] (fun _ _ _ => True) → True := by unfold SpecF; k_fill; intro _; trivial
  clear kf
  k_with "execs cons" => (with_reducible refine gentk ?_; intro tk)
  k_with "execs nil" => (with_reducible refine gentk ?_; intro tk)
  intro p loose mean mg mb h₀ s R X T hk hs hret
  (refine' enterS (binds := [("callers", .ref d)]) ?kX ?kT ?kk ?ks ?ko ?kc ?kr ?kb ?kl ?_ ?c1 ?c2 ?c3 ?c4; (case kX => assumption); (case kT => assumption); (case kk => assumption); (case ks => assumption); (case ko => k_is); (case kc => k_is); (case kr => (first | decide | (simp only [recursionLimit]; omega))); (case kb => exact BindsTo.of_eq rfl); (case kl => exact locs rfl); (case c1 => exact rfl); (case c2 => exact rfl); (case c3 => exact rfl); (case c4 => decide); k_whole)
  intro g L' h' F' N' X' T' l1 st1 st2
  k_lt l1
  (try dsimp only)
  (try k_fold)
  k_with "exec For Name Call cons nil" => (k_here; (rename Fr _ _ _ _ => lF'); (with_unfolding_all refine' For_turns lF' ?_; k_whole))
  k_with "pyIter ref" => (refine Hold.mk ?_)
  k_with "LPost" => (refine Hold.mk ?_)
  k_steps
  refine Hold.out ?_
  rename News _ _ _ _ => N1
  refine' vals_loop (σ := CtS) (fun _ => [(d, o)]) (fun k => [("nc", .int k.nc k.tk)]) ["calls"] (CtP (c.map (·.2)).sum) ⟨0, _⟩ (by rfl) (by assumption) N1 ?lv hio ?lL ?lk ?lp (fun _ => .head _) ?turn ?done
  case lv => exact ⟨_, N1.get (.head _), rfl, rfl⟩
  case lL => exact List.forall_mem_cons.mpr ⟨by k_mem, List.forall_mem_nil _⟩
  case lk => kst_all
  case lp => exact ⟨kvs, c, rfl, hfp, Int.zero_add _⟩
  case turn =>
    clear N1
    intro I hI a r k u v it h tk hP hv hoI F N
    k_lt hI
    simp only [List.forall_mem_cons, List.not_mem_nil, false_implies, implies_true, and_true] at hoI
    obtain ⟨kv, cc, hl, hf, hsum⟩ := hP
    obtain ⟨nc, tn⟩ := k
    cases kv with
    | nil => cases hl
    | cons q kv =>
      obtain ⟨qk, qv⟩ := q
      obtain ⟨rfl, rfl⟩ := List.cons.inj hl
      obtain ⟨n, t, c', rfl, rfl, hf'⟩ := flat_cons hf
      dsimp only [Itm.Is] at hv
      subst hv
      dsimp only at hsum F
      try k_fold
      k_steps
      refine Hold.out ?_
      dsimp only [LPost]
      refine' lend ⟨nc + n, _⟩ (by k_asm) (by k_asm) (by k_mem) ?yl1 (by kst_all) ?yr1 ?yp1
      case yl1 => (repeat' (first | exact List.forall_mem_nil _ | (refine List.forall_mem_cons.mpr ⟨⟨by k_mem, by ((try dsimp only); omega)⟩, ?_⟩)))
      case yr1 => (intro z h2 h3; simp only [List.forall_mem_cons, List.not_mem_nil, false_implies, implies_true, and_true, ne_eq] at h2; simp only [List.contains_cons, List.contains_nil, Bool.or_false, Bool.or_eq_false_iff, beq_eq_false_iff_ne, ne_eq] at h3; simp [kstB, h2, h3])
      case yp1 => exact ⟨kv, c', rfl, hf', by simp only [List.map_cons, List.sum_cons] at hsum; (dsimp only; omega)⟩
  case done =>
    clear N1
    intro k u h tk hP F N
    obtain ⟨kv, cc, hl, hf, hsum⟩ := hP
    obtain ⟨nc, tn⟩ := k
    cases kv with
    | cons q kv => cases hl
    | nil =>
      cases cc with
      | cons q cc => cases hf
      | nil =>
        dsimp only at hsum F
        simp only [List.map_nil, List.sum_nil, Int.add_zero] at hsum
        try k_fold
        k_steps
        show LeaveS _ _ _ _
        refine' leaveU (s := s) st1 (by assumption) (by assumption) () ?lP ?ln hret
        case lP => exact ⟨tn, by rw [hsum]⟩
        case ln => exact List.forall_mem_cons.mpr ⟨by k_mem, List.forall_mem_nil _⟩
end
section
local macro_rules | `(tactic| walk_at $s:str) => `(tactic| k_extra $s)
local macro_rules | `(tactic| k_ne) => `(tactic| first | exact NeA.out (by assumption) | exact NeA.flip (by assumption))
structure MgS where
  q : Addr
  o : Obj
  kv : List (Int × Value)
  c : List (Int × Int)
def mg1 (acc : List (Int × Int)) (p : Int × Int) : List (Int × Int) := kdfPut acc p.1 p.2
def mg2 (acc : List (Int × Int)) (p : Int × Int) : List (Int × Int) := kdfPut acc p.1 (if kdfHas acc p.1 then kdfLook acc p.1 0 + p.2 else p.2)
abbrev MgP (w : World) (d e : Addr) (f : List (Int × Int) → Int × Int → List (Int × Int)) (tot : List (Int × Int)) (l : List Itm) (k : MgS) : Prop := ∃ (kvs : List (Int × Value)) (c : List (Int × Int)), l = kvs.map (fun p => Itm.pair (kyVal (PyData.int p.1)) p.2) ∧ FlatPairs PyData.int kvs (kdfD c) ∧
  k.o.IsDictOf (intKind PySem.Challenge.rw_ph0168_01.row.prog w) k.kv ∧ FlatPairs PyData.int k.kv (kdfD k.c) ∧ c.foldl f k.c = tot ∧ k.c.length + c.length ≤ 100 ∧ (k.q == sysModules) = false ∧ NeA k.q d ∧ NeA k.q e
def mergeZ (c ce : List (Int × Int)) : List (Int × Int) := ce.foldl mg2 (c.foldl mg1 [])
theorem mg1_len : ∀ (c acc : List (Int × Int)), (c.foldl mg1 acc).length ≤ acc.length + c.length
  | [], acc => by simp
  | p :: c, acc => by
    rw [List.foldl_cons]
    have h1 := mg1_len c (mg1 acc p)
    have h2 := kdfPut_len acc p.1 p.2
    simp only [mg1, List.length_cons] at *
    omega
theorem kdf_getI {w : World} {A : Around} {E : Value → Shared → Prop} {s : Shared} {h₀ : Heap} {L d : Addr} {news : List (Addr × Obj)} {o : Obj} {kvs : List (Int × Value)} {c : List (Int × Int)} {k : Int} {tk : Tok} {prog : Program} {Q : Value → Shared → Prop}
    (N : News h₀ L s.heap news) (hm : (d, o) ∈ news) (lo : (d == sysModules) = false) (hd : o.IsDictOf (intKind prog w) kvs) (hf : FlatPairs PyData.int kvs (kdfD c)) (hk : kdfHas c k = true) (h : ∀ t, Q (.int (kdfLook c k 0) t) { s with toks := s.toks + 1 }) :
    wpAny (model prog w) A (getItem (.ref d) (.int k tk)) Q E s :=
  getItem_tab PyProof.V.same_int (intKind_is _ _ _ _) (TabAt.ofObj lo (N.get hm) hd hf) (kdfD_item hk) fun v hv => by
    obtain ⟨t, rfl⟩ := PyProof.V.Flat.int_inv hv
    exact h t
structure MgR where
  q : Addr
  o : Obj
  kv : List (Int × Value)
set_option maxHeartbeats 8000000 in
theorem spec_callers (w : World) (d e : Addr) (o oe : Obj) (kvs kve : List (Int × Value)) (c ce : List (Int × Int)) (hlo : (d == sysModules) = false) (hle : (e == sysModules) = false)
   (hio : o.IsDictOf (intKind PySem.Challenge.rw_ph0168_01.row.prog w) kvs) (hfp : FlatPairs PyData.int kvs (kdfD c)) (hc : c.length ≤ 16)
   (hioe : oe.IsDictOf (intKind PySem.Challenge.rw_ph0168_01.row.prog w) kve) (hfpe : FlatPairs PyData.int kve (kdfD ce)) (hce : ce.length ≤ 16) :
    SpecF w 35 900 8000 [.ref d, .ref e] [(d, o), (e, oe)] (PostU (α := MgR) (fun k r => r = .ref k.q ∧ (k.q == sysModules) = false ∧ k.o.IsDictOf (intKind PySem.Challenge.rw_ph0168_01.row.prog w) k.kv ∧ FlatPairs PyData.int k.kv (kdfD (mergeZ c ce)) ∧ NeA k.q d ∧ NeA k.q e)
      (fun k => [(k.q, k.o), (d, o), (e, oe)]) [(d, o), (e, oe)]) := by
  k_with_none
  w_top off
  have kf : SpecF w 0 0 0 [] [] (fun _ _ _ => True) → True := by unfold SpecF; k_fill; intro _; trivial
  clear kf
  k_with "execs cons" => (with_reducible refine gentk ?_; intro tk)
  k_with "execs nil" => (with_reducible refine gentk ?_; intro tk)
  intro p loose mean mg mb h₀ s R X T hk hs hret
  (refine' enterS (binds := [("target", .ref d), ("source", .ref e)]) ?kX ?kT ?kk ?ks ?ko ?kc ?kr ?kb ?kl ?_ ?c1 ?c2 ?c3 ?c4; (case kX => assumption); (case kT => assumption); (case kk => assumption); (case ks => assumption); (case ko => k_is); (case kc => k_is); (case kr => (first | decide | (simp only [recursionLimit]; omega))); (case kb => exact BindsTo.of_eq rfl); (case kl => exact locs rfl); (case c1 => exact rfl); (case c2 => exact rfl); (case c3 => exact rfl); (case c4 => decide); k_whole)
  intro g L' h' F' N' X' T' l1 st1 st2
  k_lt l1
  (try dsimp only)
  (try k_fold)
  k_with "exec For Tuple Call cons nil" => (k_here; (rename Fr _ _ _ _ => lF'); (with_unfolding_all refine' For_turns lF' ?_; k_whole))
  k_with "pyIter ref" => (refine Hold.mk ?_)
  k_with "LPost" => (refine Hold.mk ?_)
  k_with "getItem ref int" => (refine' kdf_getI ?gN ?gm ?gl ?gd ?gf ?gk ?_; (case gN => k_asm); (case gm => k_mem); (case gl => k_asm); (case gd => k_asm); (case gf => k_asm); (case gk => k_asm); intro _)
  k_steps
  refine Hold.out ?_
  rename News _ _ _ _ => N1
  refine' items_loop (σ := MgS) (fun k => [(k.q, k.o), (d, o), (e, oe)]) (fun k => [("new_callers", .ref k.q)]) ["func", "caller"] (MgP w d e mg1 (c.foldl mg1 [])) ⟨_, _, [], []⟩ (by rfl) (by assumption) N1 ?lv hio ?lL ?lk ?lp (fun _ => .tail _ (.head _)) ?turn ?done
  case lk => kst_all
  case lv => exact ⟨_, N1.get (.head _), rfl, rfl⟩
  case lL => exact List.forall_mem_cons.mpr ⟨by k_mem, List.forall_mem_cons.mpr ⟨by k_mem, List.forall_mem_cons.mpr ⟨by k_mem, List.forall_mem_nil _⟩⟩⟩
  case lp => exact ⟨kvs, c, rfl, hfp, by assumption, by assumption, rfl, by (simp only [List.length_nil]; omega), by assumption, NeA.gt (by (dsimp only; omega)), NeA.gt (by (dsimp only; omega))⟩
  case turn =>
    clear N1
    intro I hI a r k u v it h tk hP hv hoI F N
    k_lt hI
    simp only [List.forall_mem_cons, List.not_mem_nil, false_implies, implies_true, and_true] at hoI
    obtain ⟨kv, cc, hl, hf, hko, hkf, hfold, hlen, hks, hkd, hke⟩ := hP
    obtain ⟨q, ko, kkv, kc⟩ := k
    cases kv with
    | nil => cases hl
    | cons pq kv =>
      obtain ⟨qk, qv⟩ := pq
      obtain ⟨rfl, rfl⟩ := List.cons.inj hl
      obtain ⟨n, t, c', rfl, rfl, hf'⟩ := flat_cons hf
      obtain ⟨T, t2, rfl, hT⟩ := hv
      replace hT : IsTup h T #[.int qk t2, .int n t] := hT
      dsimp only at hko hkf hfold hlen hks hkd hke F N hoI
      rw [List.foldl_cons] at hfold
      simp only [List.length_cons] at hlen
      try k_fold
      k_steps
      refine Hold.out ?_
      dsimp only [LPost]
      refine' lend ⟨q, _, _, kdfPut kc qk n⟩ (by k_asm) (by k_asm) (by k_mem) ?zl1 (by kst_all) ?zr1 ?zp1
      case zl1 => (repeat' (first | exact List.forall_mem_nil _ | (refine List.forall_mem_cons.mpr ⟨⟨by k_mem, by ((try dsimp only); omega)⟩, ?_⟩)))
      case zr1 => (intro z h2 h3; simp only [List.forall_mem_cons, List.not_mem_nil, false_implies, implies_true, and_true, ne_eq] at h2; simp only [List.contains_cons, List.contains_nil, Bool.or_false, Bool.or_eq_false_iff, beq_eq_false_iff_ne, ne_eq] at h3; simp [kstB, h2, h3])
      case zp1 =>
        refine ⟨kv, c', rfl, hf', by assumption, by assumption, ?_, ?_, hks, hkd, hke⟩
        · exact hfold
        · have := kdfPut_len kc qk n
          (dsimp only; omega)
  case done =>
    clear N1
    intro k u h tk hP F N
    obtain ⟨kv, cc, hl, hf, hko, hkf, hfold, hlen, hks, hkd, hke⟩ := hP
    obtain ⟨q, ko, kkv, kc⟩ := k
    cases kv with
    | cons q kv => cases hl
    | nil =>
      cases cc with
      | cons q cc => cases hf
      | nil =>
        dsimp only at hko hkf hfold hlen hks hkd hke F N
        rw [List.foldl_nil] at hfold
        subst hfold
        try k_fold
        k_steps
        refine Hold.out ?_
        rename News _ _ _ _ => N1
        have hml := mg1_len c []
        simp only [List.length_nil, Nat.zero_add] at hml
        refine' items_loop (σ := MgS) (fun k => [(k.q, k.o), (d, o), (e, oe)]) (fun k => [("new_callers", .ref k.q)]) ["func", "caller"] (MgP w d e mg2 (mergeZ c ce)) ⟨q, ko, kkv, c.foldl mg1 []⟩ (by rfl) (by assumption) N1 ?lv2 hioe ?lL2 ?lk2 ?lp2 (fun _ => .tail _ (.tail _ (.head _))) ?turn2 ?done2
        case lk2 => kst_all
        case lv2 => exact ⟨_, N1.get (.head _), rfl, rfl⟩
        case lL2 => exact List.forall_mem_cons.mpr ⟨by k_mem, List.forall_mem_cons.mpr ⟨by k_mem, List.forall_mem_cons.mpr ⟨by k_mem, List.forall_mem_nil _⟩⟩⟩
        case lp2 => exact ⟨kve, ce, rfl, hfpe, hko, hkf, rfl, by (dsimp only; omega), hks, hkd, hke⟩
        case turn2 =>
          clear N1 N hl hf hkf hlen hko hks hkd hke
          intro I hI a r k u v it h tk hP hv hoI F N
          k_lt hI
          simp only [List.forall_mem_cons, List.not_mem_nil, false_implies, implies_true, and_true] at hoI
          obtain ⟨kv, cc, hl, hf, hko, hkf, hfold, hlen, hks, hkd, hke⟩ := hP
          obtain ⟨q, ko, kkv, kc⟩ := k
          cases kv with
          | nil => cases hl
          | cons pq kv =>
          obtain ⟨qk, qv⟩ := pq
          obtain ⟨rfl, rfl⟩ := List.cons.inj hl
          obtain ⟨n, t, c', rfl, rfl, hf'⟩ := flat_cons hf
          obtain ⟨T, t2, rfl, hT⟩ := hv
          replace hT : IsTup h T #[.int qk t2, .int n t] := hT
          dsimp only at hko hkf hfold hlen hks hkd hke F N hoI
          rw [List.foldl_cons] at hfold
          simp only [List.length_cons] at hlen
          try k_fold
          k_steps
          · refine Hold.out ?_
            dsimp only [LPost]
            refine' lend ⟨q, _, _, kdfPut kc qk (kdfLook kc qk 0 + n)⟩ (by k_asm) (by k_asm) (by k_mem) ?zl2 (by kst_all) ?zr2 ?zp2
            case zl2 => (repeat' (first | exact List.forall_mem_nil _ | (refine List.forall_mem_cons.mpr ⟨⟨by k_mem, by ((try dsimp only); omega)⟩, ?_⟩)))
            case zr2 => (intro z h2 h3; simp only [List.forall_mem_cons, List.not_mem_nil, false_implies, implies_true, and_true, ne_eq] at h2; simp only [List.contains_cons, List.contains_nil, Bool.or_false, Bool.or_eq_false_iff, beq_eq_false_iff_ne, ne_eq] at h3; simp [kstB, h2, h3])
            case zp2 =>
              refine ⟨kv, c', rfl, hf', by assumption, by assumption, ?_, ?_, hks, hkd, hke⟩
              · rename (kdfHas kc qk = true) => hcond
                rw [← hfold]
                dsimp only [mg2]
                rw [hcond]
                rfl
              · have := kdfPut_len kc qk (kdfLook kc qk 0 + n)
                (dsimp only; omega)
          · refine Hold.out ?_
            dsimp only [LPost]
            refine' lend ⟨q, _, _, kdfPut kc qk n⟩ (by k_asm) (by k_asm) (by k_mem) ?zl3 (by kst_all) ?zr3 ?zp3
            case zl3 => (repeat' (first | exact List.forall_mem_nil _ | (refine List.forall_mem_cons.mpr ⟨⟨by k_mem, by ((try dsimp only); omega)⟩, ?_⟩)))
            case zr3 => (intro z h2 h3; simp only [List.forall_mem_cons, List.not_mem_nil, false_implies, implies_true, and_true, ne_eq] at h2; simp only [List.contains_cons, List.contains_nil, Bool.or_false, Bool.or_eq_false_iff, beq_eq_false_iff_ne, ne_eq] at h3; simp [kstB, h2, h3])
            case zp3 =>
              refine ⟨kv, c', rfl, hf', by assumption, by assumption, ?_, ?_, hks, hkd, hke⟩
              · rename (kdfHas kc qk = false) => hcond
                rw [← hfold]
                dsimp only [mg2]
                rw [hcond]
                rfl
              · have := kdfPut_len kc qk n
                (dsimp only; omega)
        case done2 =>
          clear N1
          intro k u h tk hP F N
          obtain ⟨kv, cc, hl, hf, hko, hkf, hfold, hlen, hks, hkd, hke⟩ := hP
          obtain ⟨q, ko, kkv, kc⟩ := k
          cases kv with
          | cons q kv => cases hl
          | nil =>
          cases cc with
          | cons q cc => cases hf
          | nil =>
          dsimp only at hko hkf hfold hlen hks hkd hke F N
          rw [List.foldl_nil] at hfold
          subst hfold
          try k_fold
          k_steps
          show LeaveS _ _ _ _
          refine' leaveU (s := s) st1 (by assumption) (by assumption) ⟨q, ko, kkv⟩ ?lP ?ln hret
          case ln => exact List.forall_mem_cons.mpr ⟨by k_mem, List.forall_mem_cons.mpr ⟨by k_mem, List.forall_mem_cons.mpr ⟨by k_mem, List.forall_mem_nil _⟩⟩⟩
          case lP => exact ⟨rfl, hks, hko, hkf, hkd, hke⟩
end
section
local macro_rules | `(tactic| walk_at $s:str) => `(tactic| k_extra $s)
local macro_rules | `(tactic| k_ne) => `(tactic| first | exact NeA.out (by assumption) | exact NeA.flip (by assumption))
structure StR where
  t : Addr
  q : Addr
  o : Obj
  kv : List (Int × Value)
  ob : Obj
theorem leaveUO {α : Type} {P : α → Value → Prop} {all : α → List (Addr × Obj)} {sel : List (Addr × Obj)} {s : Shared} {g h' : Heap} {tk' : Nat} {L' : Addr} {m' : Str → Option Value} {news' : List (Addr × Obj)} {R : Result → Shared → Prop} {t : Addr} {o : Obj}
    (st1 : Stay s.heap g (sel.map (·.1))) (F' : Fr g L' h' m') (N' : News g L' h' ((t, o) :: news')) (mk : Addr → Obj → α) (hP : P (mk t o) (.ref t)) (hn : ∀ q ∈ all (mk t o), q ∈ (t, o) :: news')
    (hret : ∀ r h' tk', Stay s.heap h' (sel.map (·.1)) → PostU P all sel r s.heap h' → R (.ok (.ret r)) { s with heap := h', toks := tk' }) :
    LeaveS g R (.ref t) { s with heap := h', toks := tk' } := leaveU st1 F' N' (mk t o) hP hn hret
set_option maxHeartbeats 8000000 in
theorem spec_stats (w : World) (a b d e : Addr) (o oe : Obj) (kvs kve : List (Int × Value)) (c ce : List (Int × Int)) (a1 a2 a3 a4 b1 b2 b3 b4 : Int) (p1 p2 p3 p4 q1 q2 q3 q4 : Tok) (hlo : (d == sysModules) = false) (hle : (e == sysModules) = false)
   (hio : o.IsDictOf (intKind PySem.Challenge.rw_ph0168_01.row.prog w) kvs) (hfp : FlatPairs PyData.int kvs (kdfD c)) (hc : c.length ≤ 16)
   (hioe : oe.IsDictOf (intKind PySem.Challenge.rw_ph0168_01.row.prog w) kve) (hfpe : FlatPairs PyData.int kve (kdfD ce)) (hce : ce.length ≤ 16)
   (n1 : NeA a d) (n2 : NeA a e) (n3 : NeA b d) (n4 : NeA b e) :
    SpecF w 28 890 7900 [.ref a, .ref b] [(a, tupObj [.int a1 p1, .int a2 p2, .int a3 p3, .int a4 p4, .ref d]), (b, tupObj [.int b1 q1, .int b2 q2, .int b3 q3, .int b4 q4, .ref e]), (d, o), (e, oe)]
     (PostU (α := StR) (fun k r => r = .ref k.t ∧ (∃ k1 k2 k3 k4, k.ob = tupObj [.int (b1 + a1) k1, .int (b2 + a2) k2, .int (b3 + a3) k3, .int (b4 + a4) k4, .ref k.q]) ∧ (k.q == sysModules) = false ∧ k.o.IsDictOf (intKind PySem.Challenge.rw_ph0168_01.row.prog w) k.kv ∧ FlatPairs PyData.int k.kv (kdfD (mergeZ c ce)) ∧ NeA k.q a ∧ NeA k.q b ∧ NeA k.q d ∧ NeA k.q e ∧ NeA k.t k.q ∧ NeA k.t a ∧ NeA k.t b ∧ NeA k.t d ∧ NeA k.t e)
      (fun k => [(k.t, k.ob), (k.q, k.o), (a, tupObj [.int a1 p1, .int a2 p2, .int a3 p3, .int a4 p4, .ref d]), (b, tupObj [.int b1 q1, .int b2 q2, .int b3 q3, .int b4 q4, .ref e]), (d, o), (e, oe)])
      [(a, tupObj [.int a1 p1, .int a2 p2, .int a3 p3, .int a4 p4, .ref d]), (b, tupObj [.int b1 q1, .int b2 q2, .int b3 q3, .int b4 q4, .ref e]), (d, o), (e, oe)]) := by
  k_with_none
  w_top off
  have kf : SpecF w 0 0 0 [] [] (fun _ _ _ => True) → True := by unfold SpecF; k_fill; intro _; trivial
  clear kf
  k_with "execs cons" => (with_reducible refine gentk ?_; intro tk)
  k_with "execs nil" => (with_reducible refine gentk ?_; intro tk)
  intro p loose mean mg mb h₀ s R X T hk hs hret
  (refine' enterS (binds := [("target", .ref a), ("source", .ref b)]) ?kX ?kT ?kk ?ks ?ko ?kc ?kr ?kb ?kl ?_ ?c1 ?c2 ?c3 ?c4; (case kX => assumption); (case kT => assumption); (case kk => assumption); (case ks => assumption); (case ko => k_is); (case kc => k_is); (case kr => (first | decide | (simp only [recursionLimit]; omega))); (case kb => exact BindsTo.of_eq rfl); (case kl => exact locs rfl); (case c1 => exact rfl); (case c2 => exact rfl); (case c3 => exact rfl); (case c4 => decide); k_whole)
  intro g L' h' F' N' X' T' l1 st1 st2
  k_lt l1
  (try dsimp only)
  (try k_fold)
  k_with "call ref" => (refine Hold.mk ?_)
  k_steps
  refine Hold.out ?_
  rename News _ _ _ _ => N1
  have N2 := news_pick2 N1 [2, 3, 0, 1]
  dsimp only [picks, pickAt, List.cons_append, List.nil_append] at N2
  clear N1
  refine' useU (spec_callers w d e o oe kvs kve c ce hlo hle hio hfp hc hioe hfpe hce) ?uh1 ?ud1 ?uu1 ?uF1 ?uX1 N2 ?uT1 ?uo1 ?_
  (case uX1 => k_asm); (case uF1 => k_asm); (case uT1 => k_asm)
  (case uh1 => exact rfl); (case ud1 => first | exact Nat.le_of_ble_eq_true rfl | (show _ + 1 ≤ _; omega)); (case uu1 => first | exact Nat.le_of_ble_eq_true rfl | (show _ + 3 ≤ _; omega))
  (case uo1 => first | exact fun _ _ => List.forall_mem_nil _ | (repeat' (first | exact List.forall_mem_nil _ | (refine List.forall_mem_cons.mpr ⟨?_, ?_⟩) | k_ne)))
  clear N2
  intro z9 r9 h9 tk9 hP9 F9 N9 hne9
  obtain ⟨q, qo, qkv⟩ := z9
  dsimp only at hP9 N9 hne9
  obtain ⟨rfl, hP1, hP2, hP3, hP4, hP5⟩ := hP9
  simp only [List.cons_append, List.nil_append] at N9
  replace hne9 := AllL.two hne9
  dsimp only [AllL, List.nil_append, List.cons_append] at hne9
  (repeat (rename ((NeA _ _ ∧ _) ∧ _) => hN0; have hN2 := hN0.1; have hN1 := hN0.2; clear hN0)); (repeat (rename (NeA _ _ ∧ _) => hN0; have hN2 := hN0.1; have hN1 := hN0.2; clear hN0))
  k_steps
  show LeaveS _ _ _ _
  refine' leaveUO (s := s) st1 (by assumption) (by assumption) (fun t ob => ⟨t, q, qo, qkv, ob⟩) ?lP ?ln hret
  case lP => exact ⟨rfl, ⟨_, _, _, _, rfl⟩, hP1, hP2, hP3, by first | assumption | exact NeA.flip (by assumption), by first | assumption | exact NeA.flip (by assumption), hP4, hP5, NeA.gt (by (dsimp only; omega)), NeA.gt (by (dsimp only; omega)), NeA.gt (by (dsimp only; omega)), NeA.gt (by (dsimp only; omega)), NeA.gt (by (dsimp only; omega))⟩
  case ln => exact List.forall_mem_cons.mpr ⟨by k_mem, List.forall_mem_cons.mpr ⟨by k_mem, List.forall_mem_cons.mpr ⟨by k_mem, List.forall_mem_cons.mpr ⟨by k_mem, List.forall_mem_cons.mpr ⟨by k_mem, List.forall_mem_cons.mpr ⟨by k_mem, List.forall_mem_nil _⟩⟩⟩⟩⟩⟩
end
section
open PyProof.Rows.LCg in
section
variable {prog : Program} {w : World} {A : Around} {s : Shared} {h₀ : Heap} {L : Addr} {m : Str → Option Value} {env : Env} {elt ct : Expr} {x : Str} {scope : Scope} {cl : List (Str × Addr)} {S : List (Addr × Obj) → Prop} {P : Nat → Value → Prop}
  {Fin : List Value → List (Addr × Obj) → Prop} {σ : Type} {Led : σ → List (Addr × Obj)} {J : Nat → List Value → σ → Prop} {n : Nat}
/-- what a turn of a block leaves: another state of the same make -/
def CNext (Led : σ → List (Addr × Obj)) (J : Nat → List Value → σ → Prop) (i : Nat) (ys : List Value) (news' : List (Addr × Obj)) : Prop := ∃ c', (∀ p ∈ Led c', p ∈ news') ∧ J i ys c'
theorem comp_ind (hS : ∀ c, S (Led c))
    (turn : ∀ i ys c v I oI C oC D m₂ h tk (E' : Value → Shared → Prop), i < n → J i ys c → P i v → NsObj oC m₂ → m₂ x = some v → Fr h₀ L h m → News h₀ L h ((I, oI) :: (C, oC) :: (D, lst ys) :: Led c) → Off3 I C D (Led c) → ((@Ne Nat I C) ∧ (@Ne Nat I D) ∧ (@Ne Nat C D)) →
      wpAny (model prog w) A (eval elt (compEnvC scope cl C env)) (CompEnd h₀ L m { s with heap := h, toks := tk } I oI C oC D (lst ys) S (fun y news' => CNext Led J (i + 1) (ys ++ [y]) news')) E' { s with heap := h, toks := tk })
    (done : ∀ ys c, J n ys c → Fin ys (Led c)) : ∀ (k i : Nat) (ys : List Value) (c : σ), i + k = n → J i ys c → CompRest prog w A h₀ L m env elt x scope cl s S P Fin k i ys (Led c)
  | 0, i, ys, c, hi, hJ => CompRest.zero (done ys c (by rw [← hi]; exact hJ))
  | k + 1, i, ys, c, hi, hJ => CompRest.succ fun v I oI C oC D m₂ h tk E' hP hC hx F N off ne =>
    wpAny_mono (turn i ys c v I oI C oC D m₂ h tk E' (by omega) hJ hP hC hx F N off ne) (fun y s₂ q => by
      obtain ⟨h', tk', news', e, F', N', off', _, c', hc, hJ'⟩ := q
      refine ⟨h', tk', Led c', e, F', fun p hp => N' p ?_, Off3.of fun p hp => off'.mem p (hc p hp), hS c', comp_ind hS turn done k (i + 1) (ys ++ [y]) c' (by omega) hJ'⟩
      rcases List.mem_cons.mp hp with rfl | hp
      · exact .head _
      rcases List.mem_cons.mp hp with rfl | hp
      · exact .tail _ (.head _)
      rcases List.mem_cons.mp hp with rfl | hp
      · exact .tail _ (.tail _ (.head _))
      exact .tail _ (.tail _ (.tail _ (hc p hp)))) fun _ _ e => e
/-- with one test -/
theorem compT_ind (hS : ∀ c, S (Led c))
    (turn : ∀ i ys c v I oI C oC D m₂ h tk (E' : Value → Shared → Prop), i < n → J i ys c → P i v → NsObj oC m₂ → m₂ x = some v → Fr h₀ L h m → News h₀ L h ((I, oI) :: (C, oC) :: (D, lst ys) :: Led c) → Off3 I C D (Led c) → ((@Ne Nat I C) ∧ (@Ne Nat I D) ∧ (@Ne Nat C D)) →
      wpAny (model prog w) A (isTrue ct (compEnvC scope cl C env) (eval ct (compEnvC scope cl C env))) (fun ok s' => if ok = true then
        wpAny (model prog w) A (eval elt (compEnvC scope cl C env)) (CompEnd h₀ L m { s with heap := h, toks := tk } I oI C oC D (lst ys) S (fun y news' => CNext Led J (i + 1) (ys ++ [y]) news')) E' s'
        else CompEnd h₀ L m { s with heap := h, toks := tk } I oI C oC D (lst ys) S (fun _ news' => CNext Led J (i + 1) ys news') Value.none s') E' { s with heap := h, toks := tk })
    (done : ∀ ys c, J n ys c → Fin ys (Led c)) : ∀ (k i : Nat) (ys : List Value) (c : σ), i + k = n → J i ys c → LCt.CompRestT prog w A h₀ L m env ct elt x scope cl s S P Fin k i ys (Led c)
  | 0, i, ys, c, hi, hJ => LCt.CompRestT.zero (done ys c (by rw [← hi]; exact hJ))
  | k + 1, i, ys, c, hi, hJ => LCt.CompRestT.succ fun v I oI C oC D m₂ h tk E' hP hC hx F N off ne => by
    have next : ∀ (ys' : List Value) (y : Value) (s₂ : Shared), CompEnd h₀ L m { s with heap := h, toks := tk } I oI C oC D (lst ys) S (fun _ news' => CNext Led J (i + 1) ys' news') y s₂ →
        CompEnd h₀ L m { s with heap := h, toks := tk } I oI C oC D (lst ys) S (fun _ news' => LCt.CompRestT prog w A h₀ L m env ct elt x scope cl s S P Fin k (i + 1) ys' news') y s₂ := by
      intro ys' y s₂ q
      obtain ⟨h', tk', news', e, F', N', off', _, c', hc, hJ'⟩ := q
      refine ⟨h', tk', Led c', e, F', fun p hp => N' p ?_, Off3.of fun p hp => off'.mem p (hc p hp), hS c', compT_ind hS turn done k (i + 1) ys' c' (by omega) hJ'⟩
      rcases List.mem_cons.mp hp with rfl | hp
      · exact .head _
      rcases List.mem_cons.mp hp with rfl | hp
      · exact .tail _ (.head _)
      rcases List.mem_cons.mp hp with rfl | hp
      · exact .tail _ (.tail _ (.head _))
      exact .tail _ (.tail _ (.tail _ (hc p hp)))
    refine wpAny_mono (turn i ys c v I oI C oC D m₂ h tk E' (by omega) hJ hP hC hx F N off ne) (fun ok s₁ q => ?_) fun _ _ e => e
    cases ok with
    | true =>
      simp only [if_true] at q ⊢
      exact wpAny_mono q (fun y s₂ q => next (ys ++ [y]) y s₂ q) fun _ _ e => e
    | false =>
      simp only [Bool.false_eq_true, if_false] at q ⊢
      exact next ys _ s₁ q
end
end
section
inductive TupsAre : List (Addr × Obj) → List Value → List (Int × Int) → Prop
  | nil : TupsAre [] [] []
  | cons {tu : List (Addr × Obj)} {vs : List Value} {c : List (Int × Int)} {a : Addr} {o : Obj} {nt : Nat} {t1 t2 : Tok} {k n : Int} : o.cls = .type "tuple" → o.data = .seq #[.int k t1, .int n t2] nt → TupsAre tu vs c → TupsAre ((a, o) :: tu) (.ref a :: vs) ((k, n) :: c)
theorem TupsAre.snoc {tu : List (Addr × Obj)} {vs : List Value} {c : List (Int × Int)} (h : TupsAre tu vs c) {a : Addr} {o : Obj} {nt : Nat} {t1 t2 : Tok} {k n : Int} (hc : o.cls = .type "tuple") (hd : o.data = .seq #[.int k t1, .int n t2] nt) :
    TupsAre (tu ++ [(a, o)]) (vs ++ [.ref a]) (c ++ [(k, n)]) := by
  induction h with
  | nil => exact .cons hc hd .nil
  | cons c1 d1 _ ih => exact .cons c1 d1 ih
theorem TupsAre.reads {h : Heap} {tu : List (Addr × Obj)} {vs : List Value} {c : List (Int × Int)} (T : TupsAre tu vs c) (N : ∀ q ∈ tu, h.get? q.1 = some q.2) : ∃ as, ReadsAll h vs (c.map fun p => PyData.tuple [.int p.1, .int p.2]) as := by
  induction T with
  | nil => exact ⟨_, .nil⟩
  | @cons tu vs c a o nt t1 t2 k n c1 d1 _ ih =>
    obtain ⟨as, q⟩ := ih fun q hq => N q (.tail _ hq)
    exact ⟨_, .cons (reads_tuple_at (N _ (.head _)) c1 d1 (ReadsAll.cons (.int _ _) (.cons (.int _ _) .nil))) q⟩
theorem tups_of {h : Heap} : ∀ (as : List Addr) (kvs : List (Int × Value)) (c : List (Int × Int)), as.length = kvs.length → FlatPairs PyData.int kvs (kdfD c) →
    (∀ (j : Nat) (a : Addr), as[j]? = some a → ∃ (t : Tok) (k : Int) (x : Value), kvs[j]? = some (k, x) ∧ h.get? a = some { cls := .type "tuple", data := .seq #[.int k t, x] }) →
    ∃ tu, TupsAre tu (as.map Value.ref) c ∧ ∀ q ∈ tu, h.get? q.1 = some q.2 ∧ q.1 ∈ as
  | [], [], [], _, _, _ => ⟨[], .nil, List.forall_mem_nil _⟩
  | [], [], _ :: _, _, hf, _ => by cases hf
  | [], _ :: _, _, hl, _, _ => by simp at hl
  | _ :: _, [], _, hl, _, _ => by simp at hl
  | a :: as, (k, v) :: kvs, c, hl, hf, hp => by
    obtain ⟨n, t, c', rfl, rfl, hf'⟩ := flat_cons hf
    obtain ⟨t1, k1, x1, e1, e2⟩ := hp 0 a rfl
    injection e1 with e1
    injection e1 with e3 e4
    subst e3 e4
    obtain ⟨tu, hT, hq⟩ := tups_of as kvs c' (by simpa using hl) hf' fun j b hj => hp (j + 1) b hj
    exact ⟨_, .cons rfl rfl hT, List.forall_mem_cons.mpr ⟨⟨e2, .head _⟩, fun q hq' => ⟨(hq q hq').1, .tail _ (hq q hq').2⟩⟩⟩
theorem tups_canLay : ∀ c : List (Int × Int), PyData.canLayAll0 (c.map fun p => PyData.tuple [.int p.1, .int p.2]) = true
  | [] => rfl
  | _ :: c => by simp [PyData.canLayAll0, PyData.canLay0, tups_canLay c]
theorem tups_depth : ∀ c : List (Int × Int), PyData.depthAll (c.map fun p => PyData.tuple [.int p.1, .int p.2]) ≤ 1
  | [] => by simp [PyData.depthAll]
  | _ :: c => by
    have := tups_depth c
    simp [PyData.depthAll, PyData.depth] at *
    omega
theorem tups_shaped (c : List (Int × Int)) : SeqAt.shaped (.list (c.map fun p => PyData.tuple [.int p.1, .int p.2])) = true := by
  have h1 := tups_canLay c
  have h2 := tups_depth c
  simp [SeqAt.shaped, PyData.canLay0, PyData.depth] at *
  exact ⟨h1, by omega⟩
theorem tups_eqv : ∀ c : List (Int × Int), PyData.eqvAll (c.map fun p => PyData.tuple [.int p.1, .int p.2]) (c.map fun p => PyData.tuple [.int p.1, .int p.2]) = true
  | [] => by simp [PyData.eqvAll]
  | _ :: c => by simp [PyData.eqvAll, PyData.eqv, tups_eqv c]
section
variable {prog : Program} {w : World} {A : Around} {E : Value → Shared → Prop} {s : Shared} {h₀ : Heap} {L a b : Addr} {m : Str → Option Value} {news tu tv : List (Addr × Obj)} {oa ob : Obj} {xs ys : List Value} {ka kb : Nat} {c c' : List (Int × Int)} {Q : Value → Shared → Prop}
theorem ne_tups (N : News h₀ L s.heap news) (ma : (a, oa) ∈ news) (ca : oa.cls = .type "list") (da : oa.data = .seq xs.toArray ka) (Ta : TupsAre tu xs c) (sa : ∀ p ∈ tu, p ∈ news)
    (mb : (b, ob) ∈ news) (cb : ob.cls = .type "list") (db : ob.data = .seq ys.toArray kb) (Tb : TupsAre tv ys c') (sb : ∀ p ∈ tv, p ∈ news) (hu : A.units + 64 < cLine) (e : c = c') (h : Q (.bool false) s) :
    wpAny (model prog w) A (compareOp .NotEq (.ref a) (.ref b)) Q E s := by
  subst e
  obtain ⟨as, ra⟩ := Ta.reads fun q hq => N.get (sa q hq)
  obtain ⟨bs, rb⟩ := Tb.reads fun q hq => N.get (sb q hq)
  refine ne_dataH (reads_list_at (N.get ma) ca da (by simpa using ra)) (reads_list_at (N.get mb) cb db (by simpa using rb)) (tups_shaped c) (tups_shaped c) hu ?_
  rw [show PyData.eqv (.list (c.map fun p => PyData.tuple [.int p.1, .int p.2])) (.list (c.map fun p => PyData.tuple [.int p.1, .int p.2])) = true from by simp [PyData.eqv, tups_eqv c]]
  exact h
/-- list(d.items()) -/
theorem list_items {v d : Addr} {od ov : Obj} {kvs : List (Int × Value)} (hh : A.handled = none) (F : Fr h₀ L s.heap m) (N : News h₀ L s.heap news) (hvw : (v, ov) ∈ news) (hvc : ov.cls = .type "dict_items") (hvd : ov.data = .fields #[.ref d]) (hmd : (d, od) ∈ news) (hod : od.IsDictOf (intKind prog w) kvs)
    (hf : FlatPairs PyData.int kvs (kdfD c)) (hn : c.length ≤ 100)
    (h : ∀ B tu vs n h' tk, TupsAre tu vs c → (∀ q ∈ news, @LT.lt Nat _ q.1 B) → (∀ q ∈ tu, @LT.lt Nat _ B q.1) → Fr h₀ L h' m → News h₀ L h' ((B, W.listOf vs.toArray n) :: (news ++ tu)) → Q (.ref B) { s with heap := h', toks := tk }) :
    wpAny (model prog w) A (call (.type "list") [.ref v]) Q E s := by
  obtain ⟨ep, hat⟩ := KdkAt.of hod
  have hl : kvs.length = c.length := by
    have := hf.length
    rw [kdfD_length] at this
    exact this.symm
  refine kdx_call (knd := intKind prog w) (kvs := kvs) (ep := ep) hh ⟨_, (N _ hvw).1, hvc, hvd⟩ (hat.dictAt (N _ hmd).1) (kdl_size (by omega)) fun h' tk acc n as hk hS hal hG hacc => ?_
  obtain ⟨tu, hT, hq⟩ := tups_of (h := h') as kvs c hal hf fun j a hj => by
    obtain ⟨key, k, x, e1, e2, e3⟩ := hG.pairs j a hj
    obtain ⟨t, rfl⟩ := Value.isInt_shape e2
    exact ⟨t, k, x, e1, e3⟩
  have ea : acc = (as.map Value.ref).toArray := by rw [← hacc, Array.toArray_toList]
  have F' := F.keeps hk
  refine h _ tu _ n h' tk hT (fun q hq => Heap.lt_size (N q hq).1) (fun q hq' => hG.above _ (hq q hq').2) F' fun q hq' => ?_
  rcases List.mem_cons.mp hq' with rfl | hq'
  · exact ⟨by rw [← ea]; exact hS, kdx_fresh F (Nat.le_refl _)⟩
  rcases List.mem_append.mp hq' with hq' | hq'
  · exact ⟨hk _ _ (N q hq').1, (N q hq').2⟩
  · exact ⟨(hq q hq').1, kdx_fresh F (Nat.le_of_lt (hG.above _ (hq q hq').2))⟩
end
end
section
/-- t[:4] of a tuple of five -/
theorem cut4_item {prog : Program} {w : World} {A : Around} {E : Value → Shared → Prop} {s : Shared} {t sl : Addr} {a b c d e : Value} {u : Tok} {Q : Value → Shared → Prop} (ht : IsTup s.heap t #[a, b, c, d, e]) (hs : s.heap.IsSliceOf sl .none (.int 4 u) .none)
    (h : Q (.ref s.heap.objs.size) { s with heap := s.heap.push { cls := .type "tuple", data := .seq #[a, b, c, d] } }) : wpAny (model prog w) A (getItem (.ref t) (.ref sl)) Q E s := by
  obtain ⟨os, hos, hcs, hds⟩ := id hs
  have hTs : s.TypeIs (.ref sl) "slice" := ⟨os, hos, hcs⟩
  have part : ∀ (A : Around) (E : Value → Shared → Prop) (Q : Int × Int × Nat → Shared → Prop), Q (0, 1, 4) s → wpAny (model prog w) A (Builtin.Slice.sliceApplied (.ref sl) (pure ((5 : Nat) : Int))) Q E s := fun A E Q hq => by
    unfold Builtin.Slice.sliceApplied Builtin.Slice.sliceFields
    refine wpAny_bind (wpAny_bind (wpAny_field hos hds (x := .none) rfl (wpAny_bind (wpAny_field hos hds (x := .int 4 u) rfl (wpAny_bind (wpAny_field hos hds (x := .none) rfl (wpAny_pure ?_)))))))
    refine wpAny_bind (slicePart_none ?_)
    show wpAny _ _ (if ((1 : Int) == 0) = true then _ else _) _ _ s
    rw [if_neg (by decide)]
    refine wpAny_bind (slicePart_none (wpAny_bind (slicePart_int (wpAny_bind (wpAny_pure ?_)))))
    exact wpAny_pure hq
  unfold getItem
  try with_reducible refine wpAny_holding ?_
  first | refine wpAny_bind (wpAny_pure ?_) | skip
  refine wpAny_bind (wpAny_sequenceKey ht.typeIs (by decide) ?_)
  refine wpAny_bind (wpAny_callSpecial?_slot (name := Str.ofString "__getitem__") ht.typeIs slot_tuple_getitem
    (wpAny_call_entry slot_tuple_getitem ht.typeIs entry_tuple_getitem ?_ (args_tuple_getitem _ _)))
  show wpAny _ _ (Builtin.Tuple.tupleItemsOf (.ref t) >>= _) _ _ s
  refine wpAny_bind (tupleItemsOf_ ht ?_)
  refine wpAny_bind (wpAny_typeOf hTs ?_)
  rw [if_pos (by decide)]
  refine wpAny_bind (part _ _ _ ?_)
  show wpAny _ _ (if ((0 : Int) == 0 && (1 : Int) == 1 && (4 : Nat) == 5) = true then _ else _) _ _ s
  rw [if_neg (by decide)]
  have hok : sizeOk (.seq #[a, b, c, d]) := by
    show (4 : Nat) ≤ sizeLine
    rw [sizeLine_eq]; omega
  first
    | exact wpAny_bind (m := Builtin.Tuple.tupleExact _) (wpAny_newObj_type (wpAny_pure ⟨_, rfl, wpAny_pure h⟩) hok)
    | exact wpAny_bind (m := Builtin.Tuple.tupleExact _) (wpAny_newObj_type (wpAny_bind (wpAny_pure (wpAny_pure ⟨_, rfl, wpAny_pure h⟩))) hok)
    | exact wpAny_bind (wpAny_bind (m := Builtin.Tuple.tupleExact _) (wpAny_newObj_type (wpAny_pure (wpAny_pure ⟨_, rfl, wpAny_pure h⟩)) hok))
    | exact wpAny_bind (wpAny_bind (m := Builtin.Tuple.tupleExact _) (wpAny_newObj_type (wpAny_pure ⟨_, rfl, wpAny_pure h⟩) hok))
theorem cut4 {prog : Program} {w : World} {A : Around} {E : Value → Shared → Prop} {s : Shared} {h₀ : Heap} {L : Addr} {m : Str → Option Value} {news : List (Addr × Obj)} {value slice : Expr} {t : Addr} {a b c d e : Value} {u : Tok} {Q : Value → Shared → Prop}
    (F : Fr h₀ L s.heap m) (N : News h₀ L s.heap news) (ht : IsTup s.heap t #[a, b, c, d, e])
    (h : ∀ T h', Fr h₀ L h' m → News h₀ L h' ((T, { cls := .type "tuple", data := .seq #[a, b, c, d] }) :: news) → (∀ p ∈ news, @LT.lt Nat _ p.1 T) → Q (.ref T) { s with heap := h' })
    (hs : subscripted slice false (.ref t) (.ref s.heap.objs.size) = operate [.ref s.heap.objs.size, .ref t] (getItem (.ref t) (.ref s.heap.objs.size))) (hg : ∀ r, letTemporaryGo value (.ref t) r = pure ()) :
    wpAny (model prog w) A (subscriptTail value slice (.ref t) (.ref s.heap.objs.size)) Q E { s with heap := s.heap.push { cls := .type "slice", data := .fields #[.none, .int 4 u, .none] } } := by
  have ht' : IsTup (s.heap.push { cls := .type "slice", data := .fields #[.none, .int 4 u, .none] }) t #[a, b, c, d, e] := ht.keeps fun _ _ e => Heap.get?_push_of_some _ e
  refine subscriptTail_ops (s := { s with heap := s.heap.push { cls := .type "slice", data := .fields #[.none, .int 4 u, .none] } }) ht'.typeIs slot_tuple_getitem.lookup (cut4_item ht' (Heap.IsSliceOf.new ..) ?_) hs hg
  have N1 := News.push (F.push { cls := .type "slice", data := .fields #[.none, .int 4 u, .none] }) (N.grown fun _ _ e => Heap.get?_push_of_some _ e) { cls := .type "tuple", data := .seq #[a, b, c, d] }
  exact h _ _ ((F.push _).push _) N1 fun p hp => by
    have := Heap.lt_size (N p hp).1
    show p.1 < (s.heap.push _).objs.size
    rw [Heap.size_push]
    exact Nat.lt_succ_of_lt this
end
section
-- the plain law
def mkF : Int → List Int → List (Int × Int)
  | _, [] => []
  | i, v :: r => (i, v) :: mkF (i + 1) r
theorem mkF_len : ∀ (l : List Int) (i : Int), (mkF i l).length = l.length
  | [], _ => rfl
  | _ :: l, i => by simp only [mkF, List.length_cons, mkF_len l]
theorem mkF_app : ∀ (a b : List Int) (i : Int), mkF i (a ++ b) = mkF i a ++ mkF (i + a.length) b
  | [], b, i => by simp [mkF]
  | x :: a, b, i => by
    simp only [List.cons_append, mkF, mkF_app a b, List.length_cons]
    rw [show i + 1 + (a.length : Int) = i + ((a.length + 1 : Nat) : Int) from by omega]
theorem mkF_key : ∀ (l : List Int) (i : Int) (p : Int × Int), p ∈ mkF i l → i ≤ p.1 ∧ p.1 < i + l.length
  | [], _, _, h => by cases h
  | x :: l, i, p, h => by
    rcases List.mem_cons.mp h with rfl | h
    · simp only [List.length_cons]; omega
    · have := mkF_key l (i + 1) p h
      simp only [List.length_cons]; omega
theorem any_key {c : List (Int × Int)} {k : Int} (h : ∀ p ∈ c, p.1 ≠ k) : (c.any fun p => decide (p.1 = k)) = false := by
  rw [List.any_eq_false]
  intro p hp
  simpa using h p hp
theorem find_key {c : List (Int × Int)} {k : Int} (h : ∀ p ∈ c, p.1 ≠ k) : (c.find? fun p => decide (p.1 = k)) = none := by
  rw [List.find?_eq_none]
  intro p hp
  simpa using h p hp
theorem map_key {c : List (Int × Int)} {k v : Int} (h : ∀ p ∈ c, p.1 ≠ k) : (c.map fun p => if decide (p.1 = k) = true then (p.1, v) else p) = c := by
  exact (List.map_congr_left (g := id) (fun p hp => if_neg (by simpa using h p hp))).trans (List.map_id c)
theorem put_new (l : List Int) (v : Int) : kdfPut (mkF 0 l) l.length v = mkF 0 (l ++ [v]) := by
  have h : ∀ p ∈ mkF 0 l, p.1 ≠ (l.length : Int) := fun p hp => by have := mkF_key l 0 p hp; omega
  rw [kdfPut, any_key h, if_neg (by decide), mkF_app, Int.zero_add]
  rfl
theorem put_old (a b : List Int) (x v : Int) : kdfPut (mkF 0 (a ++ x :: b)) a.length v = mkF 0 (a ++ v :: b) := by
  have h : ∀ p ∈ mkF 0 a, p.1 ≠ (a.length : Int) := fun p hp => by have := mkF_key a 0 p hp; omega
  have h2 : ∀ p ∈ mkF ((a.length : Int) + 1) b, p.1 ≠ (a.length : Int) := fun p hp => by have := mkF_key b _ p hp; omega
  rw [mkF_app, mkF_app, Int.zero_add]
  simp only [mkF]
  rw [kdfPut, if_pos (by simp), List.map_append, map_key h, List.map_cons, map_key h2]
  simp
theorem has_new (l : List Int) : kdfHas (mkF 0 l) l.length = false := any_key fun p hp => by have := mkF_key l 0 p hp; omega
theorem has_old (a b : List Int) (x : Int) : kdfHas (mkF 0 (a ++ x :: b)) a.length = true := by
  rw [mkF_app, Int.zero_add, kdfHas, mkF]
  simp
theorem look_mk : ∀ (l : List Int) (i : Int) (j : Nat), kdfLook (mkF i l) (i + j) 0 = l.getD j 0
  | [], i, j => by simp [mkF, kdfLook]
  | x :: l, i, 0 => by simp [mkF, kdfLook]
  | x :: l, i, j + 1 => by
    have ih := look_mk l (i + 1) j
    rw [kdfLook] at ih
    rw [mkF, kdfLook, List.find?_cons_of_neg (by simp only [decide_eq_true_eq]; omega), show i + ((j + 1 : Nat) : Int) = i + 1 + (j : Int) from by omega, ih]
    simp
def addL : List Int → List Int → List Int
  | [], b => b
  | a, [] => a
  | x :: a, y :: b => (x + y) :: addL a b
theorem addL_nil (a : List Int) : addL a [] = a := by cases a <;> rfl
theorem addL_len : ∀ (a b : List Int), (addL a b).length = max a.length b.length
  | [], b => by simp [addL]
  | x :: a, [] => by simp [addL]
  | x :: a, y :: b => by simp only [addL, List.length_cons, addL_len a b]; omega
theorem addL_getD : ∀ (a b : List Int) (j : Nat), (addL a b).getD j 0 = a.getD j 0 + b.getD j 0
  | [], b, j => by simp [addL]
  | x :: a, [], j => by simp [addL]
  | x :: a, y :: b, 0 => by simp [addL]
  | x :: a, y :: b, j + 1 => by
    have := addL_getD a b j
    simpa [addL] using this
theorem fold_mg1 : ∀ (b a : List Int), (mkF a.length b).foldl mg1 (mkF 0 a) = mkF 0 (a ++ b)
  | [], a => by simp [mkF]
  | v :: b, a => by
    have ih := fold_mg1 b (a ++ [v])
    simp only [List.length_append, List.length_singleton, List.append_assoc, List.singleton_append] at ih
    rw [mkF, List.foldl_cons, mg1, put_new, ← ih]
    rfl
theorem fold_mg2 : ∀ (b a pre : List Int), (mkF pre.length b).foldl mg2 (mkF 0 (pre ++ a)) = mkF 0 (pre ++ addL a b)
  | [], a, pre => by simp [mkF, addL_nil]
  | v :: b, [], pre => by
    have ih := fold_mg2 b [] (pre ++ [v])
    simp only [List.length_append, List.length_singleton, List.append_assoc, List.singleton_append, addL, List.append_nil] at ih
    rw [mkF, List.foldl_cons, mg2]
    simp only [List.append_nil, has_new, put_new, addL, Bool.false_eq_true, if_false]
    rw [← ih]
    rfl
  | v :: b, x :: a, pre => by
    have ih := fold_mg2 b a (pre ++ [x + v])
    simp only [List.length_append, List.length_singleton, List.append_assoc, List.singleton_append] at ih
    have hl : kdfLook (mkF 0 (pre ++ x :: a)) pre.length 0 = x := by
      have := look_mk (pre ++ x :: a) 0 pre.length
      rw [Int.zero_add] at this
      rw [this]; simp
    rw [mkF, List.foldl_cons, mg2]
    simp only [has_old, if_true, put_old, hl, addL]
    rw [← ih]
    rfl
theorem merge_mk (a b : List Int) : mergeZ (mkF 0 a) (mkF 0 b) = mkF 0 (addL a b) := by
  have h1 := fold_mg1 a []
  simp only [List.length_nil, Int.natCast_zero, List.nil_append] at h1
  have h2 := fold_mg2 b a []
  simp only [List.length_nil, Int.natCast_zero, List.nil_append] at h2
  rw [mergeZ]
  rw [show mkF 0 [] = [] from rfl] at h1
  rw [h1, h2]
/-- the figures of a column in the base s over q, and how often s was taken off -/
inductive Dg (s q : Int) : Int → List Int → Int → Prop
  | stop {w : Int} : 0 ≤ w → w < s → Dg s q w [w] 0
  | step {w e : Int} {ds : List Int} : s ≤ w → Dg s q (q * (w / s)) ds e → Dg s q w (w % s :: ds) (w / s + e)
def DgO (s q w : Int) (ds : List Int) (e : Int) : Prop := (w = 0 ∧ ds = [] ∧ e = 0) ∨ Dg s q w ds e
theorem Dg.pos {s q w e : Int} {ds : List Int} (hs : 0 < s) (h : Dg s q w ds e) : 0 ≤ w := by
  cases h with
  | stop h _ => exact h
  | step h _ => omega
theorem DgO.pos {s q w e : Int} {ds : List Int} (hs : 0 < s) (h : DgO s q w ds e) : 0 ≤ w := by
  rcases h with ⟨rfl, _⟩ | h
  · exact Int.le_refl _
  · exact h.pos hs
theorem DgO.head {s q w e : Int} {ds : List Int} (hs : 0 < s) (h : DgO s q w ds e) : ds.getD 0 0 = w % s ∧ DgO s q (q * (w / s)) ds.tail (e - w / s) ∧ (w < s → ds.length ≤ 1 ∧ e = 0) ∧ (0 < w → ds ≠ []) := by
  rcases h with ⟨rfl, rfl, rfl⟩ | h
  · refine ⟨by simp, .inl ⟨by simp, rfl, by simp⟩, fun _ => ⟨by simp, rfl⟩, fun h => by omega⟩
  · cases h with
    | stop h1 h2 =>
      have e1 := Int.emod_eq_of_lt h1 h2
      have e2 := Int.ediv_eq_zero_of_lt h1 h2
      rw [e1, e2]
      refine ⟨by simp, .inl ⟨by simp, rfl, by simp⟩, fun _ => ⟨by simp, rfl⟩, fun h => by simp⟩
    | step h1 h2 =>
      refine ⟨by simp, .inr ?_, fun h => by omega, fun h => by simp⟩
      rw [show ∀ a b : Int, a + b - a = b from by omega]
      exact h2
theorem carry_merge {s q : Int} (hq : 0 < q) (hs : q < s) (c : List (Int × Int)) {w e : Int} {ds : List Int} (hw : Dg s q w ds e) : ∀ (n : Nat) (pre a b : List Int) (come tabs u v ea eb : Int), DgO s q u a ea → DgO s q v b eb → w = come + u + v → 0 ≤ come → w < 64 →
    (∀ j : Nat, kdfLook c (pre.length + j) 0 = a.getD j 0 + b.getD j 0) → (∀ j : Nat, ((pre.length : Int) + j < c.length ↔ j < a.length ∨ j < b.length)) → (a ≠ [] ∨ b ≠ [] ∨ 0 < come) → ds.length < n →
    carryF s q c n pre.length come tabs (mkF 0 pre) = some (mkF 0 (pre ++ ds), tabs + e - ea - eb) := by
  have hs0 : 0 < s := by omega
  have main : ∀ (n : Nat) (pre a b : List Int) (come tabs u v ea eb w : Int), DgO s q u a ea → DgO s q v b eb → w = come + u + v → 0 ≤ come → w < 64 →
    (∀ j : Nat, kdfLook c (pre.length + j) 0 = a.getD j 0 + b.getD j 0) → (∀ j : Nat, ((pre.length : Int) + j < c.length ↔ j < a.length ∨ j < b.length)) → (a ≠ [] ∨ b ≠ [] ∨ 0 < come) →
    carryF s q c (n + 1) pre.length come tabs (mkF 0 pre) = carryF s q c n ((pre ++ [w % s]).length : Nat) (q * (w / s) - q * (u / s) - q * (v / s)) (tabs + w / s - u / s - v / s) (mkF 0 (pre ++ [w % s])) ∧ 0 ≤ q * (w / s) - q * (u / s) - q * (v / s) ∧
      (w < s → u / s = 0 ∧ v / s = 0) := by
    intro n pre a b come tabs u v ea eb w hu hv he hc hw hlook hlen hne
    have hu0 := hu.pos hs0
    have hv0 := hv.pos hs0
    have e0 := hlook 0
    rw [hu.head hs0 |>.1, hv.head hs0 |>.1] at e0
    simp only [Int.natCast_zero, Int.add_zero] at e0
    have l0 := hlen 0
    simp only [Int.natCast_zero, Int.add_zero] at l0
    have hu1 := Int.emod_nonneg u (show s ≠ 0 by omega)
    have hv1 := Int.emod_nonneg v (show s ≠ 0 by omega)
    have hud := Int.mul_ediv_add_emod u s
    have hvd := Int.mul_ediv_add_emod v s
    have huq := Int.ediv_nonneg hu0 (Int.le_of_lt hs0)
    have hvq := Int.ediv_nonneg hv0 (Int.le_of_lt hs0)
    have key : w = (come + (u % s + v % s)) + s * (u / s + v / s) := by rw [Int.mul_add]; omega
    have hmu := Int.mul_nonneg (Int.le_of_lt hs0) huq
    have hmv := Int.mul_nonneg (Int.le_of_lt hs0) hvq
    have hd : w / s = (come + (u % s + v % s)) / s + (u / s + v / s) := by rw [key, Int.add_mul_ediv_left _ _ (by omega)]
    have hm : w % s = (come + (u % s + v % s)) % s := by rw [key, Int.add_mul_emod_self_left]
    have hz : 0 ≤ (come + (u % s + v % s)) / s := Int.ediv_nonneg (by omega) (Int.le_of_lt hs0)
    refine ⟨?_, ?_, ?_⟩
    · rw [carryF, if_pos, if_pos]
      · rw [e0, ← hm, put_new]
        congr 1
        · simp
        · rw [hd, Int.mul_add, Int.mul_add]; omega
        · rw [hd]; omega
      · rw [e0]
        rw [Int.mul_add] at key
        omega
      · rcases hne with h | h | h
        · exact .inl (l0.mpr (.inl (List.length_pos_iff.mpr h)))
        · exact .inl (l0.mpr (.inr (List.length_pos_iff.mpr h)))
        · exact .inr h
    · have : q * (w / s) - q * (u / s) - q * (v / s) = q * ((come + (u % s + v % s)) / s) := by rw [hd, Int.mul_add, Int.mul_add]; omega
      rw [this]
      exact Int.mul_nonneg (Int.le_of_lt hq) hz
    · intro h
      exact ⟨Int.ediv_eq_zero_of_lt hu0 (by omega), Int.ediv_eq_zero_of_lt hv0 (by omega)⟩
  induction hw with
  | @stop w h1 h2 =>
    intro n pre a b come tabs u v ea eb hu hv he hc hw hlook hlen hne hn
    obtain ⟨n, rfl⟩ : ∃ k, n = k + 2 := ⟨n - 2, by simp only [List.length_singleton] at hn; omega⟩
    obtain ⟨m1, m2, m3⟩ := main (n + 1) pre a b come tabs u v ea eb w hu hv he hc hw hlook hlen hne
    obtain ⟨d1, d2⟩ := m3 h2
    have hu0 := hu.pos hs0
    have hv0 := hv.pos hs0
    have d3 := Int.ediv_eq_zero_of_lt h1 h2
    have d4 := Int.emod_eq_of_lt h1 h2
    obtain ⟨_, _, hu3, _⟩ := hu.head hs0
    obtain ⟨_, _, hv3, _⟩ := hv.head hs0
    have hu4 := hu3 (by omega)
    have hv4 := hv3 (by omega)
    rw [m1, d1, d2, d3, d4, hu4.2, hv4.2, carryF, if_neg]
    have := hlen 1
    simp only [List.length_append, List.length_singleton, Int.mul_zero]
    omega
  | @step w e ds h1 h2 ih =>
    intro n pre a b come tabs u v ea eb hu hv he hc hw hlook hlen hne hn
    obtain ⟨n, rfl⟩ : ∃ k, n = k + 1 := ⟨n - 1, by simp only [List.length_cons] at hn; omega⟩
    obtain ⟨m1, m2, m3⟩ := main n pre a b come tabs u v ea eb w hu hv he hc hw hlook hlen hne
    obtain ⟨_, hu2, _, _⟩ := hu.head hs0
    obtain ⟨_, hv2, _, _⟩ := hv.head hs0
    have hwq : 1 ≤ w / s := (Int.le_ediv_iff_mul_le hs0).mpr (by omega)
    have hwm := Int.mul_ediv_add_emod w s
    have hwr := Int.emod_nonneg w (show s ≠ 0 by omega)
    have hlt : q * (w / s) ≤ s * (w / s) := Int.mul_le_mul_of_nonneg_right (Int.le_of_lt hs) (by omega)
    have hpos : 0 < q * (w / s) := Int.mul_pos hq (by omega)
    have ih' := ih n (pre ++ [w % s]) a.tail b.tail (q * (w / s) - q * (u / s) - q * (v / s)) (tabs + w / s - u / s - v / s) _ _ _ _ hu2 hv2 (by omega) m2 (by omega) (fun j => ?_) (fun j => ?_) ?_ ?_
    · rw [m1, ih']
      simp only [List.append_assoc, List.singleton_append]
      congr 2
      omega
    · have := hlook (j + 1)
      simp only [List.length_append, List.length_singleton, List.getD_eq_getElem?_getD, List.getElem?_tail] at this ⊢
      rw [show ((pre.length + 1 : Nat) : Int) + (j : Int) = (pre.length : Int) + ((j + 1 : Nat) : Int) from by omega]
      exact this
    · have := hlen (j + 1)
      simp only [List.length_append, List.length_singleton, List.length_tail]
      omega
    · obtain ⟨_, _, _, hu4⟩ := hu2.head hs0
      obtain ⟨_, _, _, hv4⟩ := hv2.head hs0
      by_cases z1 : 0 < q * (u / s)
      · exact .inl (hu4 z1)
      · by_cases z2 : 0 < q * (v / s)
        · exact .inr (.inl (hv4 z2))
        · exact .inr (.inr (by omega))
    · simp only [List.length_cons] at hn; omega
end
section
-- the numbers, by reckoning
def dgF (s q : Int) : Nat → Int → List Int
  | 0, _ => []
  | n + 1, w => w % s :: if w < s then [] else dgF s q n (q * (w / s))
def emF (s q : Int) : Nat → Int → Int
  | 0, _ => 0
  | n + 1, w => if w < s then 0 else w / s + emF s q n (q * (w / s))
def dgC (s q : Int) : Nat → Int → Bool
  | 0, _ => false
  | n + 1, w => if w < s then true else dgC s q n (q * (w / s))
theorem dg_of {s q : Int} (hs : 0 < s) (hq : 0 ≤ q) : ∀ (n : Nat) (w : Int), 0 ≤ w → dgC s q n w = true → Dg s q w (dgF s q n w) (emF s q n w)
  | 0, _, _, h => by cases h
  | n + 1, w, hw, h => by
    by_cases hc : w < s
    · rw [dgF, emF, if_pos hc, if_pos hc, Int.emod_eq_of_lt hw hc]
      exact .stop hw hc
    · rw [dgC, if_neg hc] at h
      rw [dgF, emF, if_neg hc, if_neg hc]
      exact .step (by omega) (dg_of hs hq n _ (Int.mul_nonneg hq (Int.ediv_nonneg hw (Int.le_of_lt hs))) h)
def figs (s q w : Int) : List Int := dgF s q 14 w
def emp (s q w : Int) : Int := emF s q 14 w
def rowF (s q w : Int) : List Int := figs s q w ++ List.replicate (16 - (figs s q w).length) 0
def dropF (s q : Int) : Nat → Nat → List Int → Option (Nat × List Int)
  | 0, _, _ => none
  | n + 1, p, ns => if ns.getD p 0 < s then some (p, ns) else if p + 1 ≤ 14 then dropF s q n (p + 1) ((ns.set p (ns.getD p 0 - s)).set (p + 1) ((ns.set p (ns.getD p 0 - s)).getD (p + 1) 0 + q)) else none
theorem drops_of {s q : Int} : ∀ (n p : Nat) (ns : List Int) (r : Nat × List Int), dropF s q n p ns = some r → Drops s q p ns r.1 r.2
  | 0, _, _, _, h => by cases h
  | n + 1, p, ns, r, h => by
    rw [dropF] at h
    split at h
    · injection h with h; subst h; exact .stop (by assumption)
    · split at h
      · exact .step (by assumption) (by omega) (drops_of n _ _ r h)
      · cases h
def topL (ns : List Int) : List Int := ((List.range 16).filter fun i => decide (ns.getD i 0 > 0)).map fun (i : Nat) => (i : Int)
def topF (ns : List Int) : Int := (topL ns).foldl max 0
def worthF (s q : Int) : List Int → Int → Option Int
  | [], w => some w
  | f :: r, w => if 0 ≤ w ∧ w < 64 ∧ w % q = 0 then worthF s q r (f + s * (w / q)) else none
def wChk (s q w : Int) : Bool :=
  dgC s q 14 w && decide ((figs s q w).length ≤ 14) && decide (dropF s q 16 0 ((rowF s q w).set 0 ((rowF s q w).getD 0 0 + 1)) = some ((emp s q (w + 1) - emp s q w).toNat, rowF s q (w + 1))) &&
  decide (0 ≤ emp s q w) && decide (emp s q w ≤ emp s q (w + 1)) && decide (w - (figs s q w).sum = emp s q w * (s - q)) && decide (0 ≤ w - (figs s q w).sum) && decide (topF (rowF s q w) + 1 = (figs s q w).length) &&
  decide (worthF s q (figs s q w).reverse 0 = some w) && (if w < 16 then decide (carryF s q [(0, w)] 40 0 0 0 [] = some (mkF 0 (figs s q w), emp s q w)) else true) && (figs s q w).all (fun d => decide (0 ≤ d ∧ d < 6))
theorem wChk_all : ((List.range 4).all fun s => (List.range (s + 2)).all fun q => (List.range 62).all fun w => wChk ((s : Int) + 3) ((q : Int) + 1) w) = true := by decide +kernel
theorem wChk_at {s q w : Int} (h1 : 3 ≤ s) (h2 : s ≤ 6) (h3 : 1 ≤ q) (h4 : q < s) (h5 : 0 ≤ w) (h6 : w ≤ 61) : wChk s q w = true := by
  have h := List.all_eq_true.mp wChk_all (s - 3).toNat (List.mem_range.mpr (by omega))
  have h := List.all_eq_true.mp h (q - 1).toNat (List.mem_range.mpr (by omega))
  have h := List.all_eq_true.mp h w.toNat (List.mem_range.mpr (by omega))
  rw [Int.toNat_of_nonneg (by omega), Int.toNat_of_nonneg (by omega), Int.toNat_of_nonneg (by omega), Int.sub_add_cancel, Int.sub_add_cancel] at h
  exact h
structure WOK (s q w : Int) : Prop where
  dg : Dg s q w (figs s q w) (emp s q w)
  len : (figs s q w).length ≤ 14
  drop : Drops s q 0 ((rowF s q w).set 0 ((rowF s q w).getD 0 0 + 1)) (emp s q (w + 1) - emp s q w).toNat (rowF s q (w + 1))
  emp0 : 0 ≤ emp s q w
  up : emp s q w ≤ emp s q (w + 1)
  sum : w - (figs s q w).sum = emp s q w * (s - q)
  sum0 : 0 ≤ w - (figs s q w).sum
  top : topF (rowF s q w) + 1 = (figs s q w).length
  worth : worthF s q (figs s q w).reverse 0 = some w
  single : w < 16 → carryF s q [(0, w)] 40 0 0 0 [] = some (mkF 0 (figs s q w), emp s q w)
  dig : ∀ d ∈ figs s q w, 0 ≤ d ∧ d < 6
theorem w_ok {s q w : Int} (h1 : 3 ≤ s) (h2 : s ≤ 6) (h3 : 1 ≤ q) (h4 : q < s) (h5 : 0 ≤ w) (h6 : w ≤ 61) : WOK s q w := by
  have h := wChk_at h1 h2 h3 h4 h5 h6
  simp only [wChk, Bool.and_eq_true, decide_eq_true_eq, List.all_eq_true] at h
  obtain ⟨⟨⟨⟨⟨⟨⟨⟨⟨⟨a1, a2⟩, a3⟩, a4⟩, a5⟩, a6⟩, a7⟩, a8⟩, a9⟩, a10⟩, a11⟩ := h
  refine ⟨dg_of (by omega) (by omega) 14 w h5 a1, a2, drops_of _ _ _ _ a3, a4, a5, a6, a7, a8, a9, fun h => ?_, a11⟩
  rw [if_pos h] at a10
  exact of_decide_eq_true a10
theorem mkF_snd : ∀ (l : List Int) (i : Int), (mkF i l).map (·.2) = l
  | [], _ => rfl
  | _ :: l, i => by rw [mkF, List.map_cons, mkF_snd l]
theorem held_len {s q w : Int} {held : List (Int × Int)} (h1 : 3 ≤ s) (h2 : s ≤ 6) (h3 : 1 ≤ q) (h4 : q < s) (h5 : 0 ≤ w) (h6 : w ≤ 61) (h : held = [] ∧ w = 0 ∨ held = mkF 0 (figs s q w)) : held.length ≤ 14 := by
  rcases h with ⟨rfl, _⟩ | rfl
  · exact Nat.zero_le _
  · rw [mkF_len]; exact (w_ok h1 h2 h3 h4 h5 h6).len
theorem held_worth {s q w : Int} {held : List (Int × Int)} (h1 : 3 ≤ s) (h2 : s ≤ 6) (h3 : 1 ≤ q) (h4 : q < s) (h5 : 0 ≤ w) (h6 : w ≤ 61) (h : held = [] ∧ w = 0 ∨ held = mkF 0 (figs s q w)) : worthF s q (held.map (·.2)).reverse 0 = some w := by
  rcases h with ⟨rfl, rfl⟩ | rfl
  · rfl
  · rw [mkF_snd]; exact (w_ok h1 h2 h3 h4 h5 h6).worth
/-- the row of one column more, many times -/
theorem held_carry {s q u v : Int} {held : List (Int × Int)} (h1 : 3 ≤ s) (h2 : s ≤ 6) (h3 : 1 ≤ q) (h4 : q < s) (h5 : 0 ≤ u) (h6 : 0 ≤ v) (h7 : u + v ≤ 61) (h : held = [] ∧ u = 0 ∨ held = mkF 0 (figs s q u)) :
    carryF s q (mergeZ held (mkF 0 (figs s q v))) 40 0 0 0 [] = some (mkF 0 (figs s q (u + v)), emp s q (u + v) - emp s q u - emp s q v) := by
  have wu := w_ok h1 h2 h3 h4 h5 (by omega)
  have wv := w_ok h1 h2 h3 h4 h6 (by omega)
  have ws := w_ok h1 h2 h3 h4 (show 0 ≤ u + v by omega) h7
  obtain ⟨a, hd, ha⟩ : ∃ a, held = mkF 0 a ∧ DgO s q u a (emp s q u) := by
    rcases h with ⟨rfl, rfl⟩ | rfl
    · refine ⟨[], rfl, .inl ⟨rfl, rfl, ?_⟩⟩
      rw [emp, emF, if_pos (by omega)]
    · exact ⟨_, rfl, .inr wu.dg⟩
  rw [hd, merge_mk]
  have key := carry_merge (s := s) (q := q) (by omega) (by omega) (mkF 0 (addL a (figs s q v))) ws.dg 40 [] a (figs s q v) 0 0 u v (emp s q u) (emp s q v) ha (.inr wv.dg) (by omega) (Int.le_refl 0) (by omega)
    (fun j => by
      have := look_mk (addL a (figs s q v)) 0 j
      rw [addL_getD] at this
      exact this) (fun j => by
      rw [mkF_len, addL_len]
      simp only [List.length_nil, Int.natCast_zero, Int.zero_add]
      omega) (.inr (.inl (by rw [figs, dgF]; simp))) (by have := ws.len; omega)
  simp only [List.length_nil, Int.natCast_zero, List.nil_append, Int.zero_add] at key
  exact key
end
section
/-- what is said of a lead: its column, and the text behind which a sign stands -/
def leadChk (s : Int) (r : Nat) : Bool :=
  let ld := leadZ r
  let ws := ld ++ Str.ofString "x\t "
  let st := wsOf ws
  decide (ld.length ≤ 16) && decide (ws.cps.size ≤ 40) && ws.cps.toList.any (fun k => k != 32 && k != 9) && decide (st.n = ld.length) && decide (0 ≤ st.b ∧ st.b ≤ 40) && decide (0 ≤ st.nt ∧ st.nt ≤ 40) &&
    decide ((st.count.length : Int) ≤ s ∨ (s = 3 ∧ st.count.length = 4 ∧ 0 ≤ st.count.getD 3 0 ∧ st.count.getD 3 0 ≤ 40)) && decide (indZ st s = colZ s ld) && decide (0 ≤ colZ s ld ∧ colZ s ld ≤ 15)
theorem leadChk_all : ((List.range 4).all fun s => (List.range 192).all fun r => leadChk ((s : Int) + 3) r) = true := by decide +kernel
structure LeadOK (s : Int) (ld : Str) : Prop where
  len : ld.length ≤ 16
  size : (ld ++ Str.ofString "x\t ").cps.size ≤ 40
  ends : ∃ k ∈ (ld ++ Str.ofString "x\t ").cps.toList, k ≠ 32 ∧ k ≠ 9
  n : (wsOf (ld ++ Str.ofString "x\t ")).n = ld.length
  b : 0 ≤ (wsOf (ld ++ Str.ofString "x\t ")).b ∧ (wsOf (ld ++ Str.ofString "x\t ")).b ≤ 40
  nt : 0 ≤ (wsOf (ld ++ Str.ofString "x\t ")).nt ∧ (wsOf (ld ++ Str.ofString "x\t ")).nt ≤ 40
  count : ((wsOf (ld ++ Str.ofString "x\t ")).count.length : Int) ≤ s ∨ (s = 3 ∧ (wsOf (ld ++ Str.ofString "x\t ")).count.length = 4 ∧ 0 ≤ (wsOf (ld ++ Str.ofString "x\t ")).count.getD 3 0 ∧ (wsOf (ld ++ Str.ofString "x\t ")).count.getD 3 0 ≤ 40)
  ind : indZ (wsOf (ld ++ Str.ofString "x\t ")) s = colZ s ld
  col : 0 ≤ colZ s ld ∧ colZ s ld ≤ 15
theorem lead_ok {s x : Int} (h1 : 3 ≤ s) (h2 : s ≤ 6) : LeadOK s (leadZ (x.fmod 192)) := by
  have hr := fmod_rng x 192 (by decide)
  have h := List.all_eq_true.mp leadChk_all (s - 3).toNat (List.mem_range.mpr (by omega))
  have h := List.all_eq_true.mp h (x.fmod 192).toNat (List.mem_range.mpr (by omega))
  rw [Int.toNat_of_nonneg (by omega), Int.sub_add_cancel] at h
  simp only [leadChk, Bool.and_eq_true, decide_eq_true_eq, List.any_eq_true, bne_iff_ne, ne_eq, Int.toNat_of_nonneg hr.1] at h
  obtain ⟨⟨⟨⟨⟨⟨⟨⟨a1, a2⟩, a3⟩, a4⟩, a5⟩, a6⟩, a7⟩, a8⟩, a9⟩ := h
  exact ⟨a1, a2, a3, a4, a5, a6, a7, a8, a9⟩
end
section
theorem fm_of_ints {vs : List Value} {ns : List Int} (_ : IntsAre vs ns) : 0 ≤ ns.sum.fmod 4 ∧ ns.sum.fmod 4 < 4 := by
  rw [Int.fmod_eq_emod_of_nonneg _ (by decide)]; omega
theorem AAF_use {α : Type} {M : Model} {A : Around} {t : Sem α} {Q : α → Shared → Prop} {E : Value → Shared → Prop} {s : Shared} (d u : Nat)
    (h : wpAny M (AA d u) t Q (fun _ _ => False) s) (hh : A.handled = none) (hde : A.depth ≤ d) (hu : A.units ≤ u) : wpAny M A t Q E s :=
  wpAny_mono (AA_use d u h hh hde hu) (fun _ _ q => q) fun _ _ e => e.elim
/-- the texts of leads -/
def LeadsAre (vs : List Value) : Prop := ∀ v ∈ vs, ∃ (x : Int) (t : Tok), v = .str (leadZ (x.fmod 192)) t
theorem LeadsAre.snoc {vs : List Value} (h : LeadsAre vs) (x : Int) (t : Tok) : LeadsAre (vs ++ [.str (leadZ (x.fmod 192)) t]) := fun v hv => by
  rcases List.mem_append.mp hv with hv | hv
  · exact h v hv
  · exact ⟨x, t, List.mem_singleton.mp hv⟩
end
section
theorem ints_at : ∀ {vs : List Value} {ns : List Int} {i : Nat} {v : Value}, IntsAre vs ns → vs.toArray[i]? = some v → ∃ x t, v = .int x t := by
  intro vs ns i v h e
  rw [List.getElem?_toArray] at e
  induction h generalizing i with
  | nil => simp at e
  | cons n t _ ih =>
    cases i with
    | zero => exact ⟨n, t, by simpa using e.symm⟩
    | succ i => exact ih (by simpa using e)
end
section
theorem sizes_of {n : Int} {o1 o2 : Obj} {u v : Tok} (h : 0 ≤ n.fmod 4 ∧ n.fmod 4 < 4) (hd1 : o1.data = .cell (some (.int (3 + n.fmod 4) u))) (hd2 : o2.data = .cell (some (.int (3 + n.fmod 4 - 1 - (n.fdiv 4).fmod (3 + n.fmod 4 - 1)) v))) :
    ∃ s q t1 t2, o1.data = .cell (some (.int s t1)) ∧ o2.data = .cell (some (.int q t2)) ∧ 3 ≤ s ∧ s ≤ 6 ∧ 1 ≤ q ∧ q < s := by
  have e := fmod_rng (n.fdiv 4) (3 + n.fmod 4 - 1) (by omega)
  exact ⟨_, _, _, _, hd1, hd2, by omega, by omega, by omega, by omega⟩
/-- addresses apart, two by two -/
def PairNe : List Addr → Prop
  | [] => True
  | a :: r => (∀ b ∈ r, NeA a b) ∧ PairNe r
theorem figs_zero {s q : Int} (h : 0 < s) : figs s q 0 = [0] := by
  rw [figs, dgF, if_pos h, Int.zero_emod]
theorem emp_zero {s q : Int} (h : 0 < s) : emp s q 0 = 0 := by
  rw [emp, emF, if_pos h]
theorem rowF_zero {s q : Int} (h : 0 < s) : rowF s q 0 = List.replicate 16 0 := by
  rw [rowF, figs_zero h]; rfl
structure LawS where
  y : Tb
  vs : List Value
  n : Nat
  e : Addr
  d : Addr
  o : Obj
  kv : List (Int × Value)
  held : List (Int × Int)
  U : Int
  S : Int
  B : Int
  k1 : Tok
  k2 : Tok
  k3 : Tok
  k4 : Tok
  t1 : Tok
  t2 : Tok
  t3 : Tok
  t4 : Tok
abbrev LawP (w : World) (s q : Int) (st : List Addr) (r : List Value) (k : LawS) : Prop :=
  LeadsAre r ∧ TbOK k.y ∧ IntsAre k.vs (rowF s q k.U) ∧ k.o.IsDictOf (intKind PySem.Challenge.rw_ph0168_01.row.prog w) k.kv ∧ FlatPairs PyData.int k.kv (kdfD k.held) ∧ (k.d == sysModules) = false ∧
  (k.held = [] ∧ k.U = 0 ∨ k.held = mkF 0 (figs s q k.U)) ∧ 0 ≤ k.U ∧ k.U + 15 * (r.length : Int) ≤ 60 ∧ NeA k.e k.d ∧ (∀ b ∈ st ++ [58, 65, k.y.c1, k.y.c2], NeA k.e b) ∧ (∀ b ∈ st ++ [58, 65, k.y.c1, k.y.c2], NeA k.d b) ∧ (∀ b ∈ st, NeA k.y.c1 b) ∧ (∀ b ∈ st, NeA k.y.c2 b)
end
section
theorem flat_ints : ∀ {kvs : List (Int × Value)} {c : List (Int × Int)}, FlatPairs PyData.int kvs (kdfD c) → IntsAre (kvs.map (·.2)) (c.map (·.2))
  | [], [], _ => .nil
  | [], _ :: _, h => by cases h
  | (k, v) :: kvs, c, h => by
    obtain ⟨n, t, c', rfl, rfl, h'⟩ := flat_cons h
    exact .cons n t (flat_ints h')
theorem list_vals {prog : Program} {w : World} {A : Around} {E : Value → Shared → Prop} {s : Shared} {h₀ : Heap} {L v d : Addr} {m : Str → Option Value} {news : List (Addr × Obj)} {od : Obj} {kvs : List (Int × Value)} {c : List (Int × Int)} {Q : Value → Shared → Prop}
    (hh : A.handled = none) (F : Fr h₀ L s.heap m) (N : News h₀ L s.heap news) (hvw : (v, { cls := .type "dict_values", data := .fields #[.ref d] }) ∈ news) (hmd : (d, od) ∈ news) (hod : od.IsDictOf (intKind prog w) kvs)
    (hf : FlatPairs PyData.int kvs (kdfD c)) (hn : c.length ≤ 100)
    (h : ∀ B vs n h' tk, IntsAre vs (c.map (·.2)) → (∀ q ∈ news, @LT.lt Nat _ q.1 B) → Fr h₀ L h' m → News h₀ L h' ((B, W.listOf vs.toArray n) :: news) → Q (.ref B) { s with heap := h', toks := tk }) :
    wpAny (model prog w) A (call (.type "list") [.ref v]) Q E s := by
  have hl : kvs.length = c.length := by
    have := hf.length
    rw [kdfD_length] at this
    exact this.symm
  exact kdl_list_valuesP (knd := intKind prog w) hh F N hvw hmd hod (by omega) fun B n h' tk F' N' l1 => h B _ n h' tk (flat_ints hf) l1 F' N'
structure WorthS where
  y : Tb
  W : Int
  tw : Tok
abbrev WorthP (s q U : Int) (st : List Addr) (r : List Value) (k : WorthS) : Prop :=
  TbOK k.y ∧ (∃ ns, IntsAre r ns ∧ worthF s q ns k.W = some U) ∧ (∀ b ∈ st, NeA k.y.c1 b) ∧ (∀ b ∈ st, NeA k.y.c2 b)
theorem worth_cons {s q U x W : Int} {ns : List Int} (h : worthF s q (x :: ns) W = some U) : 0 ≤ W ∧ W < 64 ∧ W % q = 0 ∧ worthF s q ns (x + s * (W / q)) = some U := by
  rw [worthF] at h
  split at h
  · rename_i hc; exact ⟨hc.1, hc.2.1, hc.2.2, h⟩
  · cases h
end
section
theorem tab_one {a1 a2 : Obj} {c1 c2 : Addr} {o1 o2 : Obj} (h : TbOK ⟨a1, a2, c1, o1, c2, o2⟩) : ∃ ps, a1 = tabObj ps := by
  rcases h with h | h
  · injection h with h; exact ⟨_, h⟩
  · exact ⟨_, h.1⟩
theorem tab_two {a1 a2 : Obj} {c1 c2 : Addr} {o1 o2 : Obj} (h : TbOK ⟨a1, a2, c1, o1, c2, o2⟩) : ∃ ps, a2 = tabObj ps := by
  rcases h with h | h
  · injection h with _ h; exact ⟨_, h⟩
  · exact ⟨_, h.2.1⟩
end
section
structure RowS where
  vs : List Value
  n : Nat
abbrev RowJ (s q U : Int) (i : Nat) (ys : List Value) (k : RowS) : Prop := IntsAre k.vs (rowF s q (U + i)) ∧ ∃ es, IntsAre ys es ∧ es.sum = emp s q (U + i) - emp s q U
open PyProof.Rows.LCg in
theorem comp_row {prog : Program} {w : World} {A : Around} {s : Shared} {h₀ : Heap} {L : Addr} {m : Str → Option Value} {env : Env} {elt : Expr} {x : Str} {scope : Scope} {cl : List (Str × Addr)} {P : Nat → Value → Prop}
    {Fin : List Value → List (Addr × Obj) → Prop} {n : Nat} {lr : Addr} {rest : List (Addr × Obj)} {vs₀ : List Value} {n₀ : Nat} (J : Nat → List Value → RowS → Prop) (h0 : J 0 [] ⟨vs₀, n₀⟩)
    (turn : ∀ i ys c v I oI C oC D m₂ h tk (E' : Value → Shared → Prop), i < n → J i ys c → P i v → NsObj oC m₂ → m₂ x = some v → Fr h₀ L h m → News h₀ L h ((I, oI) :: (C, oC) :: (D, lst ys) :: (lr, W.listOf c.vs.toArray c.n) :: rest) → Off3 I C D ((lr, W.listOf c.vs.toArray c.n) :: rest) → ((@Ne Nat I C) ∧ (@Ne Nat I D) ∧ (@Ne Nat C D)) →
      wpAny (model prog w) A (eval elt (compEnvC scope cl C env)) (CompEnd h₀ L m { s with heap := h, toks := tk } I oI C oC D (lst ys) (fun _ => True) (fun y news' => CNext (fun k : RowS => (lr, W.listOf k.vs.toArray k.n) :: rest) J (i + 1) (ys ++ [y]) news')) E' { s with heap := h, toks := tk })
    (done : ∀ ys c, J n ys c → Fin ys ((lr, W.listOf c.vs.toArray c.n) :: rest)) : CompRest prog w A h₀ L m env elt x scope cl s (fun _ => True) P Fin n 0 [] ((lr, W.listOf vs₀.toArray n₀) :: rest) :=
  comp_ind (σ := RowS) (Led := fun k => (lr, W.listOf k.vs.toArray k.n) :: rest) (J := J) (fun _ => trivial) turn done n 0 [] ⟨vs₀, n₀⟩ (Nat.zero_add _) h0
end
section
theorem rowF_len {s q w : Int} (h1 : 3 ≤ s) (h2 : s ≤ 6) (h3 : 1 ≤ q) (h4 : q < s) (h5 : 0 ≤ w) (h6 : w ≤ 61) : (rowF s q w).length = 16 := by
  have := (w_ok h1 h2 h3 h4 h5 h6).len
  rw [rowF, List.length_append, List.length_replicate]; omega
theorem rowJ_next {s q U : Int} {i : Nat} {ys : List Value} {k : RowS} (h1 : 3 ≤ s) (h2 : s ≤ 6) (h3 : 1 ≤ q) (h4 : q < s) (h5 : 0 ≤ U + i) (h6 : U + i ≤ 61) (hJ : RowJ s q U i ys k) {vs' : List Value} {n' : Nat} {t : Tok}
    (hi : IntsAre vs' (rowF s q (U + i + 1))) : RowJ s q U (i + 1) (ys ++ [.int ((emp s q (U + i + 1) - emp s q (U + i)).toNat : Nat) t]) ⟨vs', n'⟩ := by
  obtain ⟨_, es, he, hs⟩ := hJ
  have hw := w_ok h1 h2 h3 h4 h5 h6
  have e : U + ((i + 1 : Nat) : Int) = U + i + 1 := by omega
  refine ⟨by rw [e]; exact hi, es ++ [(((emp s q (U + i + 1) - emp s q (U + i)).toNat : Nat) : Int)], IntsAre.append he (.cons _ _ .nil), ?_⟩
  rw [List.sum_append, hs, e, List.sum_singleton, Int.toNat_of_nonneg (by have := hw.up; omega)]
  omega
end
section
theorem held_mlen {s q w : Int} {held : List (Int × Int)} {b : List Int} (h1 : held.length ≤ 14) (h2 : b.length ≤ 14) (h : held = [] ∧ w = 0 ∨ held = mkF 0 (figs s q w)) : (mergeZ held (mkF 0 b)).length ≤ 16 := by
  obtain ⟨a, rfl⟩ : ∃ a, held = mkF 0 a := by
    rcases h with ⟨rfl, _⟩ | rfl
    · exact ⟨[], rfl⟩
    · exact ⟨_, rfl⟩
  rw [mkF_len] at h1
  rw [merge_mk, mkF_len, addL_len]
  omega
end
section
open PyProof.Rows.LCg in
theorem compT_const {prog : Program} {w : World} {A : Around} {s : Shared} {h₀ : Heap} {L : Addr} {m : Str → Option Value} {env : Env} {ct elt : Expr} {x : Str} {scope : Scope} {cl : List (Str × Addr)} {P : Nat → Value → Prop}
    {Fin : List Value → List (Addr × Obj) → Prop} {n : Nat} {news : List (Addr × Obj)} (J : Nat → List Value → Prop) (h0 : J 0 [])
    (turn : ∀ i ys v I oI C oC D m₂ h tk (E' : Value → Shared → Prop), i < n → J i ys → P i v → NsObj oC m₂ → m₂ x = some v → Fr h₀ L h m → News h₀ L h ((I, oI) :: (C, oC) :: (D, lst ys) :: news) → Off3 I C D news → ((@Ne Nat I C) ∧ (@Ne Nat I D) ∧ (@Ne Nat C D)) →
      wpAny (model prog w) A (isTrue ct (compEnvC scope cl C env) (eval ct (compEnvC scope cl C env))) (fun ok s' => if ok = true then
        wpAny (model prog w) A (eval elt (compEnvC scope cl C env)) (CompEnd h₀ L m { s with heap := h, toks := tk } I oI C oC D (lst ys) (fun _ => True) (fun y news' => CNext (fun _ : Unit => news) (fun i ys _ => J i ys) (i + 1) (ys ++ [y]) news')) E' s'
        else CompEnd h₀ L m { s with heap := h, toks := tk } I oI C oC D (lst ys) (fun _ => True) (fun _ news' => CNext (fun _ : Unit => news) (fun i ys _ => J i ys) (i + 1) ys news') Value.none s') E' { s with heap := h, toks := tk })
    (done : ∀ ys, J n ys → Fin ys news) : LCt.CompRestT prog w A h₀ L m env ct elt x scope cl s (fun _ => True) P Fin n 0 [] news :=
  compT_ind (σ := Unit) (Led := fun _ => news) (J := fun i ys _ => J i ys) (fun _ => trivial) (fun i ys _ => turn i ys) (fun ys _ => done ys) n 0 [] () (Nat.zero_add _) h0
def topP (i : Nat) (ns : List Int) : List Int := ((List.range i).filter fun j => decide (ns.getD j 0 > 0)).map fun (j : Nat) => (j : Int)
theorem topP_pos {i : Nat} {ns : List Int} (h : ns.getD i 0 > 0) : topP (i + 1) ns = topP i ns ++ [(i : Int)] := by
  rw [topP, List.range_succ, List.filter_append, List.filter_cons_of_pos (by simpa using h), List.filter_nil, List.map_append]; rfl
theorem topP_neg {i : Nat} {ns : List Int} (h : ¬ ns.getD i 0 > 0) : topP (i + 1) ns = topP i ns := by
  rw [topP, List.range_succ, List.filter_append, List.filter_cons_of_neg (by simpa using h), List.filter_nil, List.append_nil]; rfl
theorem topP_len (i : Nat) (ns : List Int) : (topP i ns).length ≤ i := by
  rw [topP, List.length_map]
  exact Nat.le_trans (List.length_filter_le _ _) (by rw [List.length_range]; exact Nat.le_refl _)
theorem max_fold : ∀ (l : List Int) (a M : Int), M ∈ a :: l → (∀ x ∈ a :: l, x ≤ M) → M = l.foldl max a
  | [], a, M, h1, _ => by simpa using h1
  | b :: l, a, M, h1, h2 => by
    rw [List.foldl_cons]
    refine max_fold l (max a b) M ?_ fun x hx => ?_
    · have ha := h2 a (.head _)
      have hb := h2 b (.tail _ (.head _))
      rcases List.mem_cons.mp h1 with rfl | h1
      · rw [show max M b = M from by omega]; exact .head _
      · rcases List.mem_cons.mp h1 with rfl | h1
        · rw [show max a M = M from by omega]; exact .head _
        · exact .tail _ h1
    · have ha := h2 a (.head _)
      have hb := h2 b (.tail _ (.head _))
      rcases List.mem_cons.mp hx with rfl | hx
      · omega
      · exact h2 x (.tail _ (.tail _ hx))
end
section
theorem ne_four {prog : Program} {w : World} {A : Around} {E : Value → Shared → Prop} {s : Shared} {h₀ : Heap} {L a b : Addr} {news : List (Addr × Obj)} {oa ob : Obj} {i j k l : Int} {t1 t2 t3 t4 u1 u2 u3 u4 : Tok} {na nb : Nat} {Q : Value → Shared → Prop}
    (N : News h₀ L s.heap news) (ma : (a, oa) ∈ news) (ca : oa.cls = .type "tuple") (da : oa.data = .seq #[.int i t1, .int j t2, .int k t3, .int l t4] na) (mb : (b, ob) ∈ news) (cb : ob.cls = .type "tuple") (db : ob.data = .seq #[.int i u1, .int j u2, .int k u3, .int l u4] nb)
    (hu : A.units + 64 < cLine) (h : Q (.bool false) s) : wpAny (model prog w) A (compareOp .NotEq (.ref a) (.ref b)) Q E s := by
  refine ne_dataH (reads_tuple_at (N.get ma) ca da (.cons (.int _ _) (.cons (.int _ _) (.cons (.int _ _) (.cons (.int _ _) .nil))))) (reads_tuple_at (N.get mb) cb db (.cons (.int _ _) (.cons (.int _ _) (.cons (.int _ _) (.cons (.int _ _) .nil))))) (by simp [SeqAt.shaped, PyData.canLay0, PyData.canLayAll0, PyData.depth, PyData.depthAll]) (by simp [SeqAt.shaped, PyData.canLay0, PyData.canLayAll0, PyData.depth, PyData.depthAll]) hu ?_
  rw [show PyData.eqv (.tuple [.int i, .int j, .int k, .int l]) (.tuple [.int i, .int j, .int k, .int l]) = true from by simp [PyData.eqv, PyData.eqvAll]]
  exact h
end
section
open PyProof.Rows.LCg in
theorem comp_tups {prog : Program} {w : World} {A : Around} {s : Shared} {h₀ : Heap} {L : Addr} {m : Str → Option Value} {env : Env} {elt : Expr} {x : Str} {scope : Scope} {cl : List (Str × Addr)} {P : Nat → Value → Prop}
    {Fin : List Value → List (Addr × Obj) → Prop} {n : Nat} {base : List (Addr × Obj)} (J : Nat → List Value → List (Addr × Obj) → Prop) (h0 : J 0 [] [])
    (turn : ∀ i ys k v I oI C oC D m₂ h tk (E' : Value → Shared → Prop), i < n → J i ys k → P i v → NsObj oC m₂ → m₂ x = some v → Fr h₀ L h m → News h₀ L h ((I, oI) :: (C, oC) :: (D, lst ys) :: (base ++ k)) → Off3 I C D (base ++ k) → ((@Ne Nat I C) ∧ (@Ne Nat I D) ∧ (@Ne Nat C D)) →
      wpAny (model prog w) A (eval elt (compEnvC scope cl C env)) (CompEnd h₀ L m { s with heap := h, toks := tk } I oI C oC D (lst ys) (fun _ => True) (fun y news' => CNext (fun k : List (Addr × Obj) => base ++ k) J (i + 1) (ys ++ [y]) news')) E' { s with heap := h, toks := tk })
    (done : ∀ ys k, J n ys k → Fin ys (base ++ k)) : CompRest prog w A h₀ L m env elt x scope cl s (fun _ => True) P Fin n 0 [] base := by
  have := comp_ind (σ := List (Addr × Obj)) (Led := fun k => base ++ k) (J := J) (S := fun _ => True) (fun _ => trivial) turn done n 0 [] [] (Nat.zero_add _) h0
  simpa only [List.append_nil] using this
open PyProof.Rows.LCg in
theorem tup_end {h₀ h' : Heap} {L I C D T : Addr} {m : Str → Option Value} {s : Shared} {oI oC oD o : Obj} {base k : List (Addr × Obj)} {J : Nat → List Value → List (Addr × Obj) → Prop} {i : Nat} {ys : List Value} {y : Value} {tk : Nat}
    (F : Fr h₀ L h' m) (N : News h₀ L h' ((T, o) :: (I, oI) :: (C, oC) :: (D, oD) :: (base ++ k))) (off : Off3 I C D (base ++ k)) (n1 : NeA T I) (n2 : NeA T C) (n3 : NeA T D) (hJ : J (i + 1) (ys ++ [y]) (k ++ [(T, o)])) :
    CompEnd h₀ L m s I oI C oC D oD (fun _ => True) (fun y news' => CNext (fun k : List (Addr × Obj) => base ++ k) J (i + 1) (ys ++ [y]) news') y { s with heap := h', toks := tk } := by
  refine ⟨h', tk, base ++ (k ++ [(T, o)]), rfl, F, fun p hp => N p ?_, Off3.of fun p hp => ?_, trivial, k ++ [(T, o)], fun _ hp => hp, hJ⟩
  · rcases List.mem_cons.mp hp with rfl | hp
    · exact .tail _ (.head _)
    rcases List.mem_cons.mp hp with rfl | hp
    · exact .tail _ (.tail _ (.head _))
    rcases List.mem_cons.mp hp with rfl | hp
    · exact .tail _ (.tail _ (.tail _ (.head _)))
    rw [← List.append_assoc] at hp
    rcases List.mem_append.mp hp with hp | hp
    · exact .tail _ (.tail _ (.tail _ (.tail _ hp)))
    · rw [List.mem_singleton.mp hp]; exact .head _
  · rw [← List.append_assoc] at hp
    rcases List.mem_append.mp hp with hp | hp
    · exact off.mem p hp
    · rw [List.mem_singleton.mp hp]; exact ⟨n1, n2, n3⟩
def rowPairs (i : Nat) (ns : List Int) : List (Int × Int) := (List.range i).map fun (j : Nat) => ((j : Int), ns.getD j 0)
theorem rowPairs_succ (i : Nat) (ns : List Int) : rowPairs (i + 1) ns = rowPairs i ns ++ [((i : Int), ns.getD i 0)] := by
  rw [rowPairs, List.range_succ, List.map_append]; rfl
theorem mkF_pairs : ∀ (l : List Int) (i : Int), mkF i l = (List.range l.length).map fun (j : Nat) => (i + (j : Int), l.getD j 0)
  | [], _ => rfl
  | x :: l, i => by
    rw [mkF, mkF_pairs l (i + 1), List.length_cons, List.range_succ_eq_map, List.map_cons, List.map_map]
    refine congr (congrArg _ (by simp)) (List.map_congr_left fun j _ => ?_)
    simp only [Function.comp_apply, Nat.succ_eq_add_one, List.getD_cons_succ]
    rw [show i + 1 + (j : Int) = i + ((j + 1 : Nat) : Int) from by omega]
theorem figs_pairs (s q w : Int) : mkF 0 (figs s q w) = rowPairs (figs s q w).length (rowF s q w) := by
  rw [mkF_pairs, rowPairs]
  refine List.map_congr_left fun j hj => ?_
  rw [rowF, Int.zero_add]
  have := List.mem_range.mp hj
  simp only [List.getD_eq_getElem?_getD, List.getElem?_append_left this]
end
section
theorem sum_nonneg : ∀ {l : List Int}, (∀ d ∈ l, 0 ≤ d ∧ d < 6) → 0 ≤ l.sum
  | [], _ => Int.le_refl _
  | x :: l, h => by
    have h1 := (h x (.head _)).1
    have h2 := sum_nonneg (l := l) fun d hd => h d (.tail _ hd)
    rw [List.sum_cons]; omega
theorem ne_two {prog : Program} {w : World} {A : Around} {E : Value → Shared → Prop} {s : Shared} {h₀ : Heap} {L a b : Addr} {news : List (Addr × Obj)} {oa ob : Obj} {i j : Int} {t1 t2 u1 u2 : Tok} {na nb : Nat} {Q : Value → Shared → Prop}
    (N : News h₀ L s.heap news) (ma : (a, oa) ∈ news) (ca : oa.cls = .type "tuple") (da : oa.data = .seq #[.int i t1, .int j t2] na) (mb : (b, ob) ∈ news) (cb : ob.cls = .type "tuple") (db : ob.data = .seq #[.int i u1, .int j u2] nb)
    (hu : A.units + 64 < cLine) (h : Q (.bool false) s) : wpAny (model prog w) A (compareOp .NotEq (.ref a) (.ref b)) Q E s := by
  refine ne_dataH (reads_tuple_at (N.get ma) ca da (.cons (.int _ _) (.cons (.int _ _) .nil))) (reads_tuple_at (N.get mb) cb db (.cons (.int _ _) (.cons (.int _ _) .nil))) (by simp [SeqAt.shaped, PyData.canLay0, PyData.canLayAll0, PyData.depth, PyData.depthAll]) (by simp [SeqAt.shaped, PyData.canLay0, PyData.canLayAll0, PyData.depth, PyData.depthAll]) hu ?_
  rw [show PyData.eqv (.tuple [.int i, .int j]) (.tuple [.int i, .int j]) = true from by simp [PyData.eqv, PyData.eqvAll]]
  exact h
end
end Mine
open Mine
local macro_rules | `(tactic| walk_at $s:str) => `(tactic| k_extra $s)
local macro_rules | `(tactic| k_ne) => `(tactic| first | exact NeA.out (by assumption) | exact NeA.flip (by assumption))
set_option maxHeartbeats 0 in
theorem PySem.Challenge.cw_ph0168_01_holds : PySem.Challenge.rw_ph0168_01.Holds := by
  refine hd (by
    k_with_none
    k_go0
    (all_goals try k_fold)
    k_with "execs cons" => (with_reducible refine gentk ?_; intro tk)
    k_with "execs nil" => (with_reducible refine gentk ?_; intro tk)
    k_with "CompSrc" => (refine Hold.mk ?_)
    k_with "call ref" => (refine Hold.mk ?_)
    refine AAF_use 310 100 ?_ rfl (Nat.le_of_ble_eq_true rfl) (Nat.le_of_ble_eq_true rfl)
    rename IntsAre _ _ => hI0
    have hfm := fm_of_ints hI0
    k_steps
    refine Hold.out ?_
    rename News _ _ _ _ => N1
    rename Fr _ _ _ _ => F1
    rename IntsAre _ ([86, 115] ++ _) => hIL
    refine LCg.CompSrc.ledger (by rfl) F1 N1 (.head _) ?hsz_0 ?_
    case hsz_0 => (have hz := hIL.length; simp only [List.length_append, List.length_cons, List.length_nil, List.length_take] at hz; simp only [List.size_toArray]; rw [sizeLine_eq]; omega)
    intro g'
    simp only [List.size_toArray]
    refine comp_ind (Led := fun _ : Unit => _) (J := fun i ys _ => LeadsAre ys ∧ ys.length = i) (fun _ => .inr ⟨_, .head _, rfl, _, rfl⟩) ?turn_0 ?done_0 _ 0 [] () (Nat.zero_add _) ⟨List.forall_mem_nil _, rfl⟩
    case turn_0 =>
      clear N1 F1
      intro i ys u v I oI C oC D m2 h tk E' hi hJ hP hC hx F N off ne
      dsimp only [LCg.Off3] at off
      as_aux_lemma =>
        k_with_none
        w_top off
        k_with "execs cons" => (with_reducible refine gentk ?_; intro tk)
        k_with "execs nil" => (with_reducible refine gentk ?_; intro tk)
        k_with "CompSrc" => (refine Hold.mk ?_)
        k_with "call ref" => (refine Hold.mk ?_)
        k_with "CompEnd" => (refine Hold.mk ?_)
        obtain ⟨x, t, rfl⟩ := ints_at hIL hP
        k_steps
        refine Hold.out ?_
        refine useS0 (spec_lead _ x t) (by rfl) (Nat.le_of_ble_eq_true rfl) (Nat.le_of_ble_eq_true rfl) F (by assumption) N (by assumption) ?_
        intro r h1 tk1 po F9 N9
        obtain ⟨_, ⟨t1, rfl⟩, _⟩ := po
        k_steps
        refine Hold.out ?_
        refine LCg.CompEnd.intro F9 N9 _ (fun _ hp => hp) ?off_B (.inr ⟨_, .head _, rfl, _, rfl⟩) ⟨(), fun _ hp => hp, hJ.1.snoc x t1, by rw [List.length_append, hJ.2]; rfl⟩
        case off_B => exact off
    case done_0 =>
      intro ys u hJ
      as_aux_lemma =>
        k_with_none
        w_top off
        k_with "execs cons" => (with_reducible refine gentk ?_; intro tk)
        k_with "execs nil" => (with_reducible refine gentk ?_; intro tk)
        k_with "call ref" => (refine Hold.mk ?_)
        k_with "pyIter ref" => (refine Hold.mk ?_)
        k_with "binaryOp Mult ref int" => (refine' rep0 ?mF_C ?mN_C ?ml_C ?mlo_C ?mhi_C ?_; (case mF_C => k_asm); (case mN_C => k_asm); (case ml_C => is_list); (case mlo_C => decide); (case mhi_C => decide); intro lr h' us F' N' l1 hR; k_lt l1)
        k_with "exec For Name Name cons nil" => (k_here; (rename Fr _ _ _ _ => lF'); (with_unfolding_all refine' For_invVF lF' ?k1_C ?k2_C ?_; (case k1_C => exact rfl); (case k2_C => exact rfl); k_whole))
        intro D h tk F N off
        clear hT8
        dsimp only [LCg.Off1] at off
        k_steps
        refine Hold.out ?_
        rename (_ = Data.cell (some (Value.int (3 + _) _))) => hd1
        rename (_ = Data.cell (some (Value.int (_ - 1 - _) _))) => hd2
        obtain ⟨sz, qq, u1, u2, hz1, hz2, b1, b2, b3, b4⟩ := sizes_of hfm hd1 hd2
        clear hd1 hd2 hfm
        rename News _ _ _ _ => N1
        rename Fr _ _ _ _ => F1
        have N2 := news_pick2 N1 [0, 1, 2, 4, 8, 9, 10, 12, 11]
        dsimp only [picks, pickAt, List.cons_append, List.nil_append] at N2
        clear N1
        rename_i oz1 _ _ oz2 _ _ _ l1a _ _ _ _ _ _ l1b _ _ _ l1c _ _ _ l1d _ oz3 hz3 _ da _ dob lo' _ _ hi' fi' l1e ea _ l1f _ _ _ _ _ _ _ _ _
        rename Shared => s1
        rename World => ww
        have he0 : emp sz qq 0 = 0 := emp_zero (by omega)
        have hr0 : rowF sz qq 0 = List.replicate 16 0 := rowF_zero (by omega)
        have hlen : ys.length ≤ 4 := by
          have hz := hIL.length
          have h2 := hJ.2
          simp only [List.length_append, List.length_cons, List.length_nil, List.length_take] at hz
          omega
        have hst : PairNe [58, 65, lr, D, s1.heap.objs.size + 1 + 1 + 1, s1.heap.objs.size + 1 + 1, s1.heap.objs.size + 1] := by
          clear l1a l1b l1c l1f
          refine ⟨?_, ?_, ?_, ?_, ?_, ?_, ?_, trivial⟩
          all_goals simp only [List.forall_mem_cons, List.not_mem_nil, false_implies, implies_true, and_true, NeA, ne_eq]
          all_goals omega
        refine' list_loop (σ := LawS) (ax := D) (lo := LCg.lst ys) (vs := ys) (n := ys.length) (fun k => [(k.e, tupObj [.int k.B k.k1, .int (emp sz qq k.U) k.k2, .int k.U k.k3, .int k.S k.k4, .ref k.d]), (k.d, k.o), (lr, W.listOf k.vs.toArray k.n), (D, LCg.lst ys),
            (s1.heap.objs.size + 1 + 1 + 1, oz3), (s1.heap.objs.size + 1 + 1, oz2), (s1.heap.objs.size + 1, oz1), (58, k.y.a1), (65, k.y.a2), (k.y.c1, k.y.o1), (k.y.c2, k.y.o2)])
          (fun k => [("entry", .ref k.e), ("begun", .int k.B k.t1), ("emptied", .int (emp sz qq k.U) k.t2), ("units", .int k.U k.t3), ("signs", .int k.S k.t4)]) ["lead", "column", "white", "figures", "tabs", "cc", "nc", "tt", "ct", "callers", "held", "more", "top"]
          (LawP ww sz qq [lr, D, s1.heap.objs.size + 1 + 1 + 1, s1.heap.objs.size + 1 + 1, s1.heap.objs.size + 1]) ⟨tb0, us, 0, ea, da, dob, [], [], 0, 0, 0, _, _, _, _, _, _, _, _⟩ (by rfl) F1 N2 (by rfl) (by rfl) ?lL_C ?lk_C ?lp_C ?hlp_C ?turn_C ?done_C
        case lL_C => (dsimp only; rw [he0]; exact List.forall_mem_cons.mpr ⟨by k_mem, List.forall_mem_cons.mpr ⟨by k_mem, List.forall_mem_cons.mpr ⟨by k_mem, List.forall_mem_cons.mpr ⟨by k_mem, List.forall_mem_cons.mpr ⟨by k_mem, List.forall_mem_cons.mpr ⟨by k_mem, List.forall_mem_cons.mpr ⟨by k_mem, List.forall_mem_cons.mpr ⟨by k_mem, List.forall_mem_cons.mpr ⟨by k_mem, List.forall_mem_cons.mpr ⟨by k_mem, List.forall_mem_cons.mpr ⟨by k_mem, List.forall_mem_nil _⟩⟩⟩⟩⟩⟩⟩⟩⟩⟩⟩)
        case lk_C => (dsimp only; rw [he0]; kst_all)
        case lp_C =>
          refine ⟨hJ.1, .inl rfl, ?_, hi', fi', lo', .inl ⟨rfl, rfl⟩, Int.le_refl _, ?_, NeA.gt (by (dsimp only; omega)), ?_, ?_, ?_, ?_⟩
          · dsimp only; rw [hr0]; exact hR
          · dsimp only; omega
          all_goals (clear l1a l1b l1c l1d; simp only [tb0, List.cons_append, List.nil_append, List.forall_mem_cons, List.not_mem_nil, false_implies, implies_true, and_true, NeA, ne_eq]; omega)
        case hlp_C => exact fun k => .tail _ (.tail _ (.tail _ (.head _)))
        case turn_C =>
          clear l1 off N2 F1 l1a l1b l1c l1d l1e l1f hIL he0 hr0 hlen hR hi' fi'
          as_aux_lemma =>
            k_with_none
            w_top off
            k_with "execs cons" => (with_reducible refine gentk ?_; intro tk)
            k_with "execs nil" => (with_reducible refine gentk ?_; intro tk)
            k_with "call ref" => (refine Hold.mk ?_)
            k_with "CompSrc" => (refine Hold.mk ?_)
            intro I hI v r k u' it h2 tk2 hP hoI F N
            clear hI
            obtain ⟨hld, hy, hi, hko, hkf, hks, hheld, hU0, hU, hne1, hne2, hne3, hne4, hne5⟩ := hP
            obtain ⟨⟨a1, a2, c1, o1, c2, o2⟩, vs, n, e, d, o, kv, held, U, S, B, q1, q2, q3, q4, t1, t2, t3, t4⟩ := k
            dsimp only at hy hi hko hkf hks hheld hU0 hU hne1 hne2 hne3 hne4 hne5 F N hoI
            obtain ⟨x, tx, rfl⟩ := hld v (.head _)
            have hld2 : LeadsAre r := fun v hv => hld v (.tail _ hv)
            clear hld
            have hl := lead_ok (x := x) b1 b2
            generalize leadZ (x.fmod 192) = ld at hl F
            simp only [List.length_cons] at hU
            simp only [PairNe, List.cons_append, List.nil_append, List.forall_mem_cons, List.not_mem_nil, false_implies, implies_true, and_true, and_assoc] at hst hne2 hne3 hne4 hne5 hoI
            replace hoI : NeA e I ∧ NeA d I ∧ NeA lr I ∧ NeA D I ∧ NeA (s1.heap.objs.size + 1 + 1 + 1) I ∧ NeA (s1.heap.objs.size + 1 + 1) I ∧ NeA (s1.heap.objs.size + 1) I ∧ NeA 58 I ∧ NeA 65 I ∧ NeA c1 I ∧ NeA c2 I := hoI
            (repeat (rename (NeA _ _ ∧ _) => hN0; have hN2 := hN0.1; have hN1 := hN0.2; clear hN0))
            try k_fold
            k_steps
            refine Hold.out ?_
            rename News _ _ _ _ => N1
            refine useS0 (spec_column ww ld _ sz _ (by omega) b2 hl.len) (by rfl) (Nat.le_of_ble_eq_true rfl) (Nat.le_of_ble_eq_true rfl) (by assumption) (by assumption) N1 (by assumption) ?_
            clear N1
            intro r9 h9 tk9 po F9 N9
            obtain ⟨_, ⟨t9, rfl⟩, _⟩ := po
            have hcol := hl.col
            have hind := hl.ind
            generalize colZ sz ld = cl at hcol hind
            k_steps
            refine Hold.out ?_
            rename IsRange _ _ _ _ _ _ _ _ => R1
            rename News _ _ _ _ => N1
            rename Fr _ _ _ _ => F1
            have N2 := news_pick2 N1 [3, 0, 1, 2, 4, 5, 6, 7, 8, 9, 10, 11]
            dsimp only [picks, pickAt, List.cons_append, List.nil_append] at N2
            clear N1
            refine LCg.CompSrc.range (n := cl.toNat) (by rfl) F1 N2 R1 (small_one (by omega) (by omega) (by omega) (by omega)) (by rw [rangeSize_one]; split <;> omega) (by rw [sizeLine_eq]; omega) ?_
            clear N2 F1 R1 F9 N9
            intro g'
            refine comp_row (RowJ sz qq U) ⟨?j1_D, [], .nil, ?j2_D⟩ ?turn_D ?done_D
            case j1_D => (dsimp only; rw [Int.natCast_zero, Int.add_zero]; exact hi)
            case j2_D => (rw [Int.natCast_zero, Int.add_zero]; exact (Int.sub_self _).symm)
            case turn_D =>
              clear hi hkf hko hheld hks hy hld2
              as_aux_lemma =>
                k_with_none
                w_top off
                k_with "execs cons" => (with_reducible refine gentk ?_; intro tk)
                k_with "execs nil" => (with_reducible refine gentk ?_; intro tk)
                k_with "call ref" => (refine Hold.mk ?_)
                k_with "CompEnd" => (refine Hold.mk ?_)
                intro i zs k v I' oI C oC D' m2 h8 tk8 E' hi' hJ hP hC hx F N off ne
                have offH : Hold (LCg.Off3 I' C D' _) := off
                obtain ⟨g1, g2, g3⟩ : NeA lr I' ∧ NeA lr C ∧ NeA lr D' := off.1
                obtain ⟨g4, g5, g6⟩ : NeA I' C ∧ NeA I' D' ∧ NeA C D' := ne
                clear off
                have hi2 : U + (i : Int) ≤ 60 ∧ 0 ≤ U + (i : Int) := by omega
                obtain ⟨t0, rfl⟩ := hP
                clear hl hind hU hcol
                k_steps
                refine Hold.out ?_
                rename News _ _ _ _ => N1
                have N2 := news_pick2 N1 [3, 0, 1, 2, 4, 5, 6, 7, 8, 9, 10, 11, 12, 13, 14]
                dsimp only [picks, pickAt, List.cons_append, List.nil_append] at N2
                clear N1
                refine' useU (spec_drop ww lr k.vs (rowF sz qq (U + i)) (rowF sz qq (U + i + 1)) (emp sz qq (U + i + 1) - emp sz qq (U + i)).toNat k.n hJ.1 (rowF_len b1 b2 b3 b4 hi2.2 (by omega)) sz _ qq _ (by omega) b2 (by omega) b4 (w_ok b1 b2 b3 b4 hi2.2 (by omega)).drop) ?uh1_H ?ud1_H ?uu1_H ?uF1_H ?uX1_H N2 ?uT1_H ?uo1_H ?_
                (case uX1_H => k_asm); (case uF1_H => k_asm); (case uT1_H => k_asm)
                (case uh1_H => exact rfl); (case ud1_H => first | exact Nat.le_of_ble_eq_true rfl | (show _ + 1 ≤ _; omega)); (case uu1_H => first | exact Nat.le_of_ble_eq_true rfl | (show _ + 3 ≤ _; omega))
                (case uo1_H => first | exact fun _ _ => List.forall_mem_nil _ | (repeat' (first | exact List.forall_mem_nil _ | (refine List.forall_mem_cons.mpr ⟨?_, ?_⟩) | k_ne)))
                clear N2
                intro z9 r9 h9 tk9 hP9 F9 N9 hne9
                obtain ⟨vs9, n9⟩ := z9
                obtain ⟨hi9, t9, rfl⟩ := hP9
                clear hne9
                dsimp only at N9 hi9
                simp only [List.cons_append, List.nil_append] at N9
                k_steps
                refine Hold.out ?_
                refine LCg.CompEnd.intro (by assumption) N9 _ (fun p hp => ?s1_H) ?s2_H trivial ⟨⟨vs9, n9⟩, fun _ hp => hp, rowJ_next b1 b2 b3 b4 hi2.2 (by omega) hJ hi9⟩
                case s1_H => 
                  rcases List.mem_cons.mp hp with rfl | hp
                  · exact .tail _ (.head _)
                  rcases List.mem_cons.mp hp with rfl | hp
                  · exact .tail _ (.tail _ (.head _))
                  rcases List.mem_cons.mp hp with rfl | hp
                  · exact .tail _ (.tail _ (.tail _ (.head _)))
                  rcases List.mem_cons.mp hp with rfl | hp
                  · exact .head _
                  exact .tail _ (.tail _ (.tail _ (.tail _ hp)))
                case s2_H => exact offH
            case done_D =>
              clear hi
              as_aux_lemma =>
                k_with_none
                w_top off
                k_with "execs cons" => (with_reducible refine gentk ?_; intro tk)
                k_with "execs nil" => (with_reducible refine gentk ?_; intro tk)
                k_with "storeName" => (k_here; k_dflt (refine' storeX_L ?F_K ?N_K ?_ ?a_K ?b_K; (case F_K => k_asm); (case N_K => k_asm); (case a_K => rfl); (case b_K => rfl); k_whole; intro h' F' N'; (try k_sweep)))
                k_with "callWith ref" => (k_here; k_dflt (refine' callWith_K ?k1_K ?k2_K ?_; (case k1_K => k_asm); (case k2_K => k_is); k_whole))
                k_with "call ref" => (refine Hold.mk ?_)
                intro zs k hJ
                obtain ⟨hi, es, hes, hsum⟩ := hJ
                obtain ⟨vs2, n2⟩ := k
                rw [Int.toNat_of_nonneg hcol.1] at hi hsum
                dsimp only at hi
                intro D2 h8 tk8 F N off
                clear off
                have hll := hl.len
                dsimp only at N
                k_steps
                refine Hold.out ?_
                rename News _ _ _ _ => N1
                rename Fr _ _ _ _ => F1
                have N2 := news_pick2 N1 [1, 2, 3, 4, 5, 6, 7, 8, 9, 10, 11, 12]
                dsimp only [picks, pickAt, List.cons_append, List.nil_append] at N2
                have hE : emp sz qq U + es.sum = emp sz qq (U + cl) := by rw [hsum]; omega
                rw [hE] at F1
                clear N1 hE hsum hes
                have w1 := hl.size
                have w2 := hl.ends
                have w3 := hl.n
                have w4 := hl.b
                have w5 := hl.nt
                have w6 := hl.count
                clear hl
                obtain ⟨st, hst2⟩ : ∃ st, wsOf (ld ++ Str.ofString "x\t ") = st := ⟨_, rfl⟩
                rw [hst2] at w3 w4 w5 w6 hind
                refine use_whiteN w1 w2 hst2 rfl (Nat.le_of_ble_eq_true rfl) (Nat.le_of_ble_eq_true rfl) F1 (by assumption) N2 (by assumption) ?_
                clear N2 F1 w1 w2 hst2
                intro x dx zz h7 tk7 hi7 hx7 hx9 hne7 F7 N7
                obtain ⟨cnt, wb, wn, wt⟩ := st
                dsimp only at w3 w4 w5 w6 hi7
                simp only [wsObjs, List.nil_append, List.cons_append] at N7
                replace hne7 := AllL.one hne7
                dsimp only [AllL] at hne7
                (repeat (rename ((NeA _ _ ∧ _) ∧ _) => hN0; have hN2 := hN0.1; have hN1 := hN0.2; clear hN0)); (repeat (rename (NeA _ _ ∧ _) => hN0; have hN2 := hN0.1; have hN1 := hN0.2; clear hN0))
                k_steps
                refine Hold.out ?_
                rename News _ _ _ _ => N1
                (repeat (rename (@LT.lt Nat _ _ _ ∧ _) => hN0; obtain ⟨hN2, hN1⟩ := hN0; replace hN2 := NeA.gt hN2; (try replace hN1 := NeA.gt hN1)))
                have N2 := news_pick2 N1 [1, 2, 3, 4, 0, 5, 6, 7, 8, 9, 10, 11, 12, 13, 14, 15, 16]
                dsimp only [picks, pickAt, List.cons_append, List.nil_append] at N2
                clear N1
                refine' useG (spec_indent ww x dx _ _ ⟨cnt, wb, wn, wt⟩ zz sz _ hx7 hi7 (by omega) b2 w6 w4 w5) ?uh1_K ?ud1_K ?uu1_K ?uF1_K ?uX1_K N2 ?uT1_K ?uo1_K ?ua1_K ?_
                (case uX1_K => k_asm); (case uF1_K => k_asm); (case uT1_K => k_asm)
                (case uh1_K => exact rfl); (case ud1_K => first | exact Nat.le_of_ble_eq_true rfl | (show _ + 1 ≤ _; omega)); (case uu1_K => first | exact Nat.le_of_ble_eq_true rfl | (show _ + 3 ≤ _; omega))
                (case ua1_K => first | exact fun _ => List.forall_mem_nil _ | (intro a q hq; exact List.mem_map_of_mem (f := fun x => x.1) hq))
                (case uo1_K => first | exact fun _ _ => List.forall_mem_nil _ | (repeat' (first | exact List.forall_mem_nil _ | (refine List.forall_mem_cons.mpr ⟨?_, ?_⟩) | k_ne)))
                clear N2
                intro z8 r8 h8 tk8 hP8 F8 N8 hne8
                obtain ⟨t8, rfl⟩ := hP8
                k_steps
                refine Hold.out ?_
                rename News _ _ _ _ => N1
                rename ((_ == sysModules) = false) => hlo0
                rename FlatPairs _ _ _ => hff
                rename (Obj.IsDictOf _ _ _) => hioD
                rw [hind] at hff hioD
                replace hff : FlatPairs PyData.int _ (kdfD [(0, cl)]) := hff
                have N2 := news_pick2 N1 [4, 13, 14, 15, 16, 0, 1, 2, 3, 5, 6, 7, 8, 9, 10, 11, 12]
                dsimp only [picks, pickAt, List.cons_append, List.nil_append] at N2
                clear N1
                have hsing := (w_ok (w := cl) b1 b2 b3 b4 hcol.1 (by omega)).single (by omega)
                refine' useU (spec_carr ww ⟨a1, a2, c1, o1, c2, o2⟩ hy _ _ _ [(0, cl)] sz qq _ _ hioD hff hlo0 (Nat.le_of_ble_eq_true rfl) ⟨by assumption, by assumption, by assumption, by assumption⟩ (by omega) b4 b1 b2 _ hsing) ?uh2_K ?ud2_K ?uu2_K ?uF2_K ?uX2_K N2 ?uT2_K ?uo2_K ?_
                (case uX2_K => k_asm); (case uF2_K => k_asm); (case uT2_K => k_asm)
                (case uh2_K => exact rfl); (case ud2_K => first | exact Nat.le_of_ble_eq_true rfl | (show _ + 1 ≤ _; omega)); (case uu2_K => first | exact Nat.le_of_ble_eq_true rfl | (show _ + 3 ≤ _; omega))
                (case uo2_K => first | exact fun _ _ => List.forall_mem_nil _ | (repeat' (first | exact List.forall_mem_nil _ | (refine List.forall_mem_cons.mpr ⟨?_, ?_⟩) | k_ne)))
                clear N2 hff hsing
                intro z5 r5 h5 tk5 hP5 F5 N5 hne5
                obtain ⟨⟨b1', b2', d1, p1, d2, p2⟩, t5, q5, qo, qkv, k5⟩ := z5
                dsimp only [CaQ] at hP5 N5 hne5
                obtain ⟨rfl, hy5, hqo, hqf, hqs, hP51, hP52, hP53, hP54, hP55, hP56, hP57, hP58, hP59, hP5a, hP5b, hP5c, hP5d⟩ := hP5
                simp only [List.cons_append, List.nil_append] at N5
                replace hne5 := AllL.two hne5
                dsimp only [AllL, List.nil_append, List.cons_append] at hne5
                (repeat (rename ((NeA _ _ ∧ _) ∧ _) => hN0; have hN2 := hN0.1; have hN1 := hN0.2; clear hN0)); (repeat (rename (NeA _ _ ∧ _) => hN0; have hN2 := hN0.1; have hN1 := hN0.2; clear hN0))
                as_aux_lemma =>
                  k_with_none
                  w_top off
                  k_with "execs cons" => (with_reducible refine gentk ?_; intro tk)
                  k_with "execs nil" => (with_reducible refine gentk ?_; intro tk)
                  k_with "storeName" => (k_here; k_dflt (refine' storeX_L ?F_M ?N_M ?_ ?a_M ?b_M; (case F_M => k_asm); (case N_M => k_asm); (case a_M => rfl); (case b_M => rfl); k_whole; intro h' F' N'; (try k_sweep)))
                  k_with "callWith ref" => (k_here; k_dflt (refine' callWith_K ?k1_M ?k2_M ?_; (case k1_M => k_asm); (case k2_M => k_is); k_whole))
                  k_with "call ref" => (refine Hold.mk ?_)
                  subst w3
                  have N6 := news_pick2 N5 [0, 1, 3, 4, 5, 6, 7, 8, 9, 10, 11, 12, 13, 14, 15, 16, 17, 18]
                  dsimp only [picks, pickAt, List.cons_append, List.nil_append] at N6
                  clear N5
                  try k_fold
                  k_steps
                  refine Hold.out ?_
                  rename News _ _ _ _ => N1
                  have N2 := news_pick2 N1 [6, 7, 8, 9, 0, 1, 2, 3, 4, 5, 10, 11, 12, 13, 14, 15, 16, 17]
                  dsimp only [picks, pickAt, List.cons_append, List.nil_append] at N2
                  clear N1
                  refine' useG (spec_indent ww x dx _ _ ⟨cnt, wb, (ld.length : Int), wt⟩ zz sz _ hx7 hi7 (by omega) b2 w6 w4 w5) ?uh1_M ?ud1_M ?uu1_M ?uF1_M ?uX1_M N2 ?uT1_M ?uo1_M ?ua1_M ?_
                  (case uX1_M => k_asm); (case uF1_M => k_asm); (case uT1_M => k_asm)
                  (case uh1_M => exact rfl); (case ud1_M => first | exact Nat.le_of_ble_eq_true rfl | (show _ + 1 ≤ _; omega)); (case uu1_M => first | exact Nat.le_of_ble_eq_true rfl | (show _ + 3 ≤ _; omega))
                  (case ua1_M => first | exact fun _ => List.forall_mem_nil _ | (intro a q hq; exact List.mem_map_of_mem (f := fun x => x.1) hq))
                  (case uo1_M => first | exact fun _ _ => List.forall_mem_nil _ | (repeat' (first | exact List.forall_mem_nil _ | (refine List.forall_mem_cons.mpr ⟨?_, ?_⟩) | k_ne)))
                  clear N2
                  intro z8 r8 h8 tk8 hP8 F8 N8 hne8
                  obtain ⟨t8, rfl⟩ := hP8
                  rw [hind]
                  simp only [wsObjs, List.cons_append, List.nil_append] at N8
                  clear hne8
                  k_steps
                  refine Hold.out ?_
                  rename News _ _ _ _ => N1
                  (repeat (rename (@LT.lt Nat _ _ _ ∧ _) => hN0; obtain ⟨hN2, hN1⟩ := hN0; replace hN2 := NeA.gt hN2; (try replace hN1 := NeA.gt hN1)))
                  have N2 := news_pick2 N1 [13, 0, 14, 6, 7, 8, 9, 10, 11, 12, 15, 16, 17, 18]
                  dsimp only [picks, pickAt, List.cons_append, List.nil_append] at N2
                  clear N1
                  have hhl := held_len b1 b2 b3 b4 hU0 (by omega) hheld
                  have hcl := (w_ok (w := cl) b1 b2 b3 b4 hcol.1 (by omega)).len
                  refine' useU (spec_stats ww e _ d q5 o qo kv qkv held (mkF 0 (figs sz qq cl)) B (emp sz qq U) U S 1 (emp sz qq cl) cl _ q1 q2 q3 q4 _ _ _ _ hks hqs hko hkf (by omega) hqo hqf (by rw [mkF_len]; omega) (by assumption) (by first | assumption | exact NeA.flip (by assumption)) (by first | assumption | exact NeA.flip (by assumption)) (by first | assumption | exact NeA.flip (by assumption))) ?uh2_M ?ud2_M ?uu2_M ?uF2_M ?uX2_M N2 ?uT2_M ?uo2_M ?_
                  (case uX2_M => k_asm); (case uF2_M => k_asm); (case uT2_M => k_asm)
                  (case uh2_M => exact rfl); (case ud2_M => first | exact Nat.le_of_ble_eq_true rfl | (show _ + 1 ≤ _; omega)); (case uu2_M => first | exact Nat.le_of_ble_eq_true rfl | (show _ + 3 ≤ _; omega))
                  (case uo2_M => first | exact fun _ _ => List.forall_mem_nil _ | (repeat' (first | exact List.forall_mem_nil _ | (refine List.forall_mem_cons.mpr ⟨?_, ?_⟩) | k_ne)))
                  clear N2
                  intro z9 r9 h9 tk9 hP9 F9 N9 hne9
                  obtain ⟨t9, q9, o9, kv9, ob9⟩ := z9
                  dsimp only at hP9 N9 hne9
                  obtain ⟨rfl, ⟨k1, k2, k3, k4, hob9⟩, hqs9, hqo9, hqf9, hP91, hP92, hP93, hP94, hP95, hP96, hP97, hP98, hP99⟩ := hP9
                  subst hob9
                  rw [Int.add_comm 1 B, Int.add_comm cl U, Int.add_comm (ld.length : Int) S] at N9
                  simp only [List.cons_append, List.nil_append] at N9
                  replace hne9 := AllL.two hne9
                  dsimp only [AllL, List.nil_append, List.cons_append] at hne9
                  (repeat (rename ((NeA _ _ ∧ _) ∧ _) => hN0; have hN2 := hN0.1; have hN1 := hN0.2; clear hN0)); (repeat (rename (NeA _ _ ∧ _) => hN0; have hN2 := hN0.1; have hN1 := hN0.2; clear hN0))
                  k_steps
                  refine Hold.out ?_
                  rename News _ _ _ _ => N1
                  have N2 := news_pick2 N1 [1, 6, 7, 8, 9, 10, 11, 12, 13, 14, 15]
                  dsimp only [picks, pickAt, List.cons_append, List.nil_append] at N2
                  clear N1
                  have hres := held_carry b1 b2 b3 b4 hU0 hcol.1 (by omega) hheld
                  refine' useU (spec_carr ww ⟨b1', b2', d1, p1, d2, p2⟩ hy5 q9 o9 kv9 (mergeZ held (mkF 0 (figs sz qq cl))) sz qq _ _ hqo9 hqf9 hqs9 (held_mlen hhl hcl hheld) ⟨by first | assumption | exact NeA.flip (by assumption), by first | assumption | exact NeA.flip (by assumption), by first | assumption | exact NeA.flip (by assumption), by first | assumption | exact NeA.flip (by assumption)⟩ (by omega) b4 b1 b2 _ hres) ?uh3_M ?ud3_M ?uu3_M ?uF3_M ?uX3_M N2 ?uT3_M ?uo3_M ?_
                  (case uX3_M => k_asm); (case uF3_M => k_asm); (case uT3_M => k_asm)
                  (case uh3_M => exact rfl); (case ud3_M => first | exact Nat.le_of_ble_eq_true rfl | (show _ + 1 ≤ _; omega)); (case uu3_M => first | exact Nat.le_of_ble_eq_true rfl | (show _ + 3 ≤ _; omega))
                  (case uo3_M => first | exact fun _ _ => List.forall_mem_nil _ | (repeat' (first | exact List.forall_mem_nil _ | (refine List.forall_mem_cons.mpr ⟨?_, ?_⟩) | k_ne)))
                  clear N2 hres
                  intro z10 r10 h10 tk10 hP10 F10 N10 hne10
                  obtain ⟨⟨e1', e2', f1, g1, f2, g2⟩, t10, q10, qo10, kv10, k10⟩ := z10
                  dsimp only [CaQ] at hP10 N10 hne10
                  obtain ⟨rfl, hy10, hqo10, hqf10, hqs10, hPa1, hPa2, hPa3, hPa4, hPa5, hPa6, hPa7, hPa8, hPa9, hPaa, hPab, hPac, hPad⟩ := hP10
                  simp only [List.cons_append, List.nil_append] at N10
                  replace hne10 := AllL.two hne10
                  dsimp only [AllL, List.nil_append, List.cons_append] at hne10
                  (repeat (rename ((NeA _ _ ∧ _) ∧ _) => hN0; have hN2 := hN0.1; have hN1 := hN0.2; clear hN0)); (repeat (rename (NeA _ _ ∧ _) => hN0; have hN2 := hN0.1; have hN1 := hN0.2; clear hN0))
                  as_aux_lemma =>
                    k_with_none
                    w_top off
                    k_with "execs cons" => (with_reducible refine gentk ?_; intro tk)
                    k_with "execs nil" => (with_reducible refine gentk ?_; intro tk)
                    k_with "storeName" => (k_here; k_dflt (refine' storeX_L ?F_O ?N_O ?_ ?a_O ?b_O; (case F_O => k_asm); (case N_O => k_asm); (case a_O => rfl); (case b_O => rfl); k_whole; intro h' F' N'; (try k_sweep)))
                    k_with "callWith ref" => (k_here; k_dflt (refine' callWith_K ?k1_O ?k2_O ?_; (case k1_O => k_asm); (case k2_O => k_is); k_whole))
                    k_with "call ref" => (refine Hold.mk ?_)
                    k_with "CompSrcT" => (refine Hold.mk ?_)
                    k_with "eval ListComp" => (k_here; k_dflt (refine LCt.ListComp_T (F₀ := by k_asm) (by with_unfolding_all rfl) (by decide) (by rfl) (by decide) (by rfl) ?_))
                    have N6 := news_pick2 N10 [0, 1, 3, 4, 5, 6, 7, 8, 9, 10, 11, 12]
                    dsimp only [picks, pickAt, List.cons_append, List.nil_append] at N6
                    clear N10
                    try k_fold
                    k_steps
                    refine Hold.out ?_
                    rename IsRange _ _ _ _ _ _ _ _ => R1
                    rename News _ _ _ _ => N1
                    rename Fr _ _ _ _ => F1
                    (repeat (rename (@LT.lt Nat _ _ _ ∧ _) => hN0; obtain ⟨hN2, hN1⟩ := hN0; replace hN2 := NeA.gt hN2; (try replace hN1 := NeA.gt hN1)))
                    refine LCt.CompSrcT.range (n := 16) (by rfl) F1 N1 R1 (by decide) (by decide) (by rw [sizeLine_eq]; omega) ?_
                    intro g'
                    refine compT_const (fun i ys => IntsAre ys (topP i (rowF sz qq (U + cl)))) .nil ?turn_O ?done_O
                    case turn_O =>
                      clear N1 F1 R1
                      as_aux_lemma =>
                        k_with_none
                        w_top off
                        k_with "execs cons" => (with_reducible refine gentk ?_; intro tk)
                        k_with "execs nil" => (with_reducible refine gentk ?_; intro tk)
                        k_with "storeName" => (k_here; k_dflt (refine' storeX_L ?F_P ?N_P ?_ ?a_P ?b_P; (case F_P => k_asm); (case N_P => k_asm); (case a_P => rfl); (case b_P => rfl); k_whole; intro h' F' N'; (try k_sweep)))
                        k_with "callWith ref" => (k_here; k_dflt (refine' callWith_K ?k1_P ?k2_P ?_; (case k1_P => k_asm); (case k2_P => k_is); k_whole))
                        k_with "CompEnd" => (refine Hold.mk ?_)
                        intro i zs v I' oI C oC D' m2 h8 tk8 E' hi' hJ hP hC hx F N off ne
                        have offH : Hold (LCg.Off3 I' C D' _) := off
                        have hlen := rowF_len (w := U + cl) b1 b2 b3 b4 (by omega) (by omega)
                        clear off ne
                        obtain ⟨t0, rfl⟩ := hP
                        rw [Int.zero_add] at hx
                        k_steps
                        · refine Hold.out ?_
                          refine LCg.CompEnd.intro (by assumption) (by assumption) _ (fun _ hp => hp) offH trivial ⟨(), fun _ hp => hp, ?j1_P⟩
                          dsimp only
                          rw [topP_pos (by assumption)]
                          exact IntsAre.append hJ (.cons _ _ .nil)
                        · refine Hold.out ?_
                          refine LCg.CompEnd.intro (by assumption) (by assumption) _ (fun _ hp => hp) offH trivial ⟨(), fun _ hp => hp, ?j2_P⟩
                          dsimp only
                          rw [topP_neg (by assumption)]
                          exact hJ
                    case done_O =>
                      clear N1 F1 R1
                      as_aux_lemma =>
                        k_with_none
                        w_top off
                        k_with "execs cons" => (with_reducible refine gentk ?_; intro tk)
                        k_with "execs nil" => (with_reducible refine gentk ?_; intro tk)
                        k_with "storeName" => (k_here; k_dflt (refine' storeX_L ?F_Q ?N_Q ?_ ?a_Q ?b_Q; (case F_Q => k_asm); (case N_Q => k_asm); (case a_Q => rfl); (case b_Q => rfl); k_whole; intro h' F' N'; (try k_sweep)))
                        k_with "callWith ref" => (k_here; k_dflt (refine' callWith_K ?k1_Q ?k2_Q ?_; (case k1_Q => k_asm); (case k2_Q => k_is); k_whole))
                        k_with "call ref" => (refine Hold.mk ?_)
                        k_with "call builtin:max" => (refine Hold.mk ?_)
                        intro zs hJ
                        intro D2 h8 tk8 F N off
                        clear off
                        have hlp : (topP 16 (rowF sz qq (U + cl))).length ≤ 16 := topP_len _ _
                        k_steps
                        refine Hold.out ?_
                        rename News _ _ _ _ => N1
                        rename Fr _ _ _ _ => F1
                        rename IntsAre _ ([0] ++ _) => hIm
                        have N2 := news_pick2 N1 [3, 5, 6, 7, 8, 9, 10, 11, 12, 13, 14, 15]
                        dsimp only [picks, pickAt, List.cons_append, List.nil_append] at N2
                        have hww := w_ok (w := U + cl) b1 b2 b3 b4 (by omega) (by omega)
                        have hEq : emp sz qq cl + emp sz qq U + (emp sz qq (U + cl) - emp sz qq U - emp sz qq cl) = emp sz qq (U + cl) := by omega
                        rw [hEq] at N2
                        refine kso_max F1 N2 (News.isList N1 (.head _)) hIm (Nat.zero_lt_succ _) rfl ?_
                        clear N1 N2 F1 hEq hlp hJ
                        intro h9 M t9' tk9 F9 N9 hM1 hM2
                        have hM : M + 1 = ((figs sz qq (U + cl)).length : Int) := by
                          rw [max_fold _ _ _ hM1 hM2]
                          exact hww.top
                        clear hM1 hM2 hIm
                        k_with "subscriptTail Name Slice ref ref" => (refine' cut4 ?cF_Q ?cN_Q ?ct_Q ?_ ?cs_Q ?cg_Q; (case cF_Q => k_asm); (case cN_Q => k_asm); (case ct_Q => exact News.isTup (by k_asm) (by k_mem)); (case cs_Q => with_unfolding_all rfl); (case cg_Q => kmk_pure); intro T4 h' F' N' l1)
                        k_with "compareOp NotEq ref ref" => (refine Hold.mk ?_)
                        k_steps
                        refine Hold.out ?_
                        rename News _ _ _ _ => N1
                        refine ne_four N1 (.tail _ (.head _)) rfl rfl (.head _) rfl rfl (Nat.le_of_ble_eq_true rfl) ?_
                        have N2 := news_pick2 N1 [2, 3, 4, 5, 6, 7, 8, 9, 10, 11, 12, 13]
                        dsimp only [picks, pickAt, List.cons_append, List.nil_append] at N2
                        clear N1
                        k_with "call type:list" => (refine Hold.mk ?_)
                        k_with "CompSrc" => (refine Hold.mk ?_)
                        k_steps
                        refine Hold.out ?_
                        rename News _ _ _ _ => N1
                        rename Fr _ _ _ _ => F1
                        as_aux_lemma =>
                          k_with_none
                          w_top off
                          k_with "execs cons" => (with_reducible refine gentk ?_; intro tk)
                          k_with "execs nil" => (with_reducible refine gentk ?_; intro tk)
                          k_with "storeName" => (k_here; k_dflt (refine' storeX_L ?F_R ?N_R ?_ ?a_R ?b_R; (case F_R => k_asm); (case N_R => k_asm); (case a_R => rfl); (case b_R => rfl); k_whole; intro h' F' N'; (try k_sweep)))
                          k_with "callWith ref" => (k_here; k_dflt (refine' callWith_K ?k1_R ?k2_R ?_; (case k1_R => k_asm); (case k2_R => k_is); k_whole))
                          k_with "call ref" => (refine Hold.mk ?_)
                          k_with "CompSrc" => (refine Hold.mk ?_)
                          have hfl : (mkF 0 (figs sz qq (U + cl))).length ≤ 100 := by rw [mkF_len]; have := hww.len; omega
                          refine list_items (by rfl) F1 N1 (.head _) rfl rfl (.tail _ (.tail _ (.head _))) hqo10 hqf10 hfl ?_
                          clear F1 N1
                          intro V tu vv nv h9 tk9 hT hB1 hB2 F9 N9
                          clear hB1 hB2
                          simp only [List.cons_append, List.nil_append] at N9
                          try k_fold
                          k_steps
                          refine Hold.out ?_
                          rename IsRange _ _ _ _ _ _ _ _ => R1
                          rename News _ _ _ _ => N1
                          rename Fr _ _ _ _ => F1
                          refine LCg.CompSrc.range (n := (figs sz qq (U + cl)).length) (by rfl) F1 N1 R1 (small_one (by omega) (by omega) (by have := hww.len; omega) (by have := hww.len; omega)) (by rw [rangeSize_one]; split <;> omega) (by rw [sizeLine_eq]; have := hww.len; omega) ?_
                          clear N1 F1 R1
                          intro g'
                          refine comp_tups (fun i ys k => TupsAre k ys (rowPairs i (rowF sz qq (U + cl)))) .nil ?turn_R ?done_R
                          case turn_R =>
                            as_aux_lemma =>
                              k_with_none
                              w_top off
                              k_with "execs cons" => (with_reducible refine gentk ?_; intro tk)
                              k_with "execs nil" => (with_reducible refine gentk ?_; intro tk)
                              k_with "storeName" => (k_here; k_dflt (refine' storeX_L ?F_S ?N_S ?_ ?a_S ?b_S; (case F_S => k_asm); (case N_S => k_asm); (case a_S => rfl); (case b_S => rfl); k_whole; intro h' F' N'; (try k_sweep)))
                              k_with "callWith ref" => (k_here; k_dflt (refine' callWith_K ?k1_S ?k2_S ?_; (case k1_S => k_asm); (case k2_S => k_is); k_whole))
                              k_with "CompEnd" => (refine Hold.mk ?_)
                              intro i zs k v I' oI C oC D' m2 h8 tk8 E' hi' hJ hP hC hx F N off ne
                              have offH : Hold (LCg.Off3 I' C D' _) := off
                              have hlen := rowF_len (w := U + cl) b1 b2 b3 b4 (by omega) (by omega)
                              have hwl := hww.len
                              clear off ne
                              obtain ⟨t0, rfl⟩ := hP
                              rw [Int.zero_add] at hx
                              simp only [List.cons_append] at N
                              k_steps
                              refine Hold.out ?_
                              rename News _ _ _ _ => N1
                              (repeat (rename (@LT.lt Nat _ _ _ ∧ _) => hN0; obtain ⟨hN2, hN1⟩ := hN0; replace hN2 := NeA.gt hN2; (try replace hN1 := NeA.gt hN1)))
                              refine tup_end (by assumption) N1 offH (by assumption) (by assumption) (by assumption) ?_
                              rw [rowPairs_succ]
                              exact TupsAre.snoc hJ rfl rfl
                          case done_R =>
                            as_aux_lemma =>
                              k_with_none
                              w_top off
                              k_with "execs cons" => (with_reducible refine gentk ?_; intro tk)
                              k_with "execs nil" => (with_reducible refine gentk ?_; intro tk)
                              k_with "storeName" => (k_here; k_dflt (refine' storeX_L ?F_T ?N_T ?_ ?a_T ?b_T; (case F_T => k_asm); (case N_T => k_asm); (case a_T => rfl); (case b_T => rfl); k_whole; intro h' F' N'; (try k_sweep)))
                              k_with "callWith ref" => (k_here; k_dflt (refine' callWith_K ?k1_T ?k2_T ?_; (case k1_T => k_asm); (case k2_T => k_is); k_whole))
                              k_with "call ref" => (refine Hold.mk ?_)
                              k_with "compareOp NotEq ref ref" => (refine Hold.mk ?_)
                              intro zs k hJ
                              intro D2 h8 tk8 F N off
                              clear off
                              simp only [List.cons_append] at N
                              k_steps
                              refine Hold.out ?_
                              refine ne_tups N (.tail _ (.head _)) rfl rfl hT (fun p hp => ?s1_T) (.head _) rfl rfl hJ (fun p hp => ?s2_T) (Nat.le_of_ble_eq_true rfl) (figs_pairs sz qq (U + cl)) ?_
                              case s1_T => exact (.tail _ (.tail _ (.tail _ (.tail _ (.tail _ (.tail _ (.tail _ (.tail _ (.tail _ (.tail _ (.tail _ (.tail _ (.tail _ (.tail _ (.tail _ (List.mem_append_left _ hp))))))))))))))))
                              case s2_T => exact (.tail _ (.tail _ (.tail _ (.tail _ (.tail _ (.tail _ (.tail _ (.tail _ (.tail _ (.tail _ (.tail _ (.tail _ (.tail _ (.tail _ (.tail _ (List.mem_append_right _ hp))))))))))))))))
                              have N2 := news_pick2 N [3, 4, 5, 6, 7, 8, 9, 10, 11, 12, 13, 14]
                              dsimp only [picks, pickAt, List.cons_append, List.nil_append] at N2
                              clear N hT hJ
                              k_steps
                              refine Hold.out ?_
                              rename News _ _ _ _ => N1
                              have N2 := news_pick2 N1 [1, 0, 2, 3, 4, 5, 6, 7, 8, 9, 10, 11]
                              dsimp only [picks, pickAt, List.cons_append, List.nil_append] at N2
                              clear N1
                              have hwl := hww.len
                              refine' useU (spec_count ww q10 qo10 kv10 (mkF 0 (figs sz qq (U + cl))) hqo10 hqf10 hqs10 (by rw [mkF_len]; omega)) ?uh1_T ?ud1_T ?uu1_T ?uF1_T ?uX1_T N2 ?uT1_T ?uo1_T ?_
                              (case uX1_T => k_asm); (case uF1_T => k_asm); (case uT1_T => k_asm)
                              (case uh1_T => exact rfl); (case ud1_T => first | exact Nat.le_of_ble_eq_true rfl | (show _ + 1 ≤ _; omega)); (case uu1_T => first | exact Nat.le_of_ble_eq_true rfl | (show _ + 3 ≤ _; omega))
                              (case uo1_T => first | exact fun _ _ => List.forall_mem_nil _ | (repeat' (first | exact List.forall_mem_nil _ | (refine List.forall_mem_cons.mpr ⟨?_, ?_⟩) | k_ne)))
                              clear N2
                              intro z9 r9 h9 tk9 hP9 F9 N9 hne9
                              obtain ⟨t9, rfl⟩ := hP9
                              rw [mkF_snd]
                              clear hne9
                              simp only [List.cons_append, List.nil_append] at N9
                              k_steps
                              refine Hold.out ?_
                              rename News _ _ _ _ => N1
                              have N2 := news_pick2 N1 [2, 3, 4, 5, 1, 0, 6, 7, 8, 9, 10, 11]
                              dsimp only [picks, pickAt, List.cons_append, List.nil_append] at N2
                              clear N1
                              have hs0 := hww.sum0
                              have hdg : 0 ≤ (figs sz qq (U + cl)).sum := sum_nonneg hww.dig
                              refine' useU (spec_idm ww ⟨e1', e2', f1, g1, f2, g2⟩ hy10 (U + cl - (figs sz qq (U + cl)).sum) (sz - qq) _ _ hs0 (by omega) (by omega) (by omega)) ?uh2_T ?ud2_T ?uu2_T ?uF2_T ?uX2_T N2 ?uT2_T ?uo2_T ?_
                              (case uX2_T => k_asm); (case uF2_T => k_asm); (case uT2_T => k_asm)
                              (case uh2_T => exact rfl); (case ud2_T => first | exact Nat.le_of_ble_eq_true rfl | (show _ + 1 ≤ _; omega)); (case uu2_T => first | exact Nat.le_of_ble_eq_true rfl | (show _ + 3 ≤ _; omega))
                              (case uo2_T => first | exact fun _ _ => List.forall_mem_nil _ | (repeat' (first | exact List.forall_mem_nil _ | (refine List.forall_mem_cons.mpr ⟨?_, ?_⟩) | k_ne)))
                              clear N2
                              intro z11 r11 h11 tk11 hP11 F11 N11 hne11
                              obtain ⟨⟨i1', i2', j1, m1, j2, m2⟩, t11, tq11, tr11⟩ := z11
                              dsimp only at hP11 N11 hne11
                              obtain ⟨rfl, hy11, hPb1, hPb2, hPb3, hPb4⟩ := hP11
                              simp only [List.cons_append, List.nil_append] at N11
                              replace hne11 := AllL.two hne11
                              dsimp only [AllL, List.nil_append, List.cons_append] at hne11
                              (repeat (rename ((NeA _ _ ∧ _) ∧ _) => hN0; have hN2 := hN0.1; have hN1 := hN0.2; clear hN0)); (repeat (rename (NeA _ _ ∧ _) => hN0; have hN2 := hN0.1; have hN1 := hN0.2; clear hN0))
                              rw [hww.sum, Int.mul_ediv_cancel _ (by omega), Int.mul_emod_left] at N11
                              k_with "LPost" => (refine Hold.mk ?_)
                              k_steps
                              refine Hold.out ?_
                              rename News _ _ _ _ => N1
                              rename Fr _ _ _ _ => F1
                              as_aux_lemma =>
                                k_with_none
                                w_top off
                                k_with "execs cons" => (with_reducible refine gentk ?_; intro tk)
                                k_with "execs nil" => (with_reducible refine gentk ?_; intro tk)
                                k_with "storeName" => (k_here; k_dflt (refine' storeX_L ?F_U ?N_U ?_ ?a_U ?b_U; (case F_U => k_asm); (case N_U => k_asm); (case a_U => rfl); (case b_U => rfl); k_whole; intro h' F' N'; (try k_sweep)))
                                k_with "callWith ref" => (k_here; k_dflt (refine' callWith_K ?k1_U ?k2_U ?_; (case k1_U => k_asm); (case k2_U => k_is); k_whole))
                                k_with "call ref" => (refine Hold.mk ?_)
                                k_with "LPost" => (refine Hold.mk ?_)
                                have hEq : emp sz qq cl + emp sz qq U + (emp sz qq (U + cl) - emp sz qq U - emp sz qq cl) = emp sz qq (U + cl) := by omega
                                rw [hEq] at N1
                                refine ne_two N1 (.tail _ (.head _)) rfl rfl (.head _) rfl rfl (Nat.le_of_ble_eq_true rfl) ?_
                                have N2 := news_pick2 N1 [7, 6, 8, 10, 11, 12, 13, 2, 3, 4, 5, 9]
                                dsimp only [picks, pickAt, List.cons_append, List.nil_append] at N2
                                clear N1 hEq
                                try k_fold
                                k_steps
                                refine Hold.out ?_
                                dsimp only [LPost]
                                refine' lend ⟨⟨i1', i2', j1, m1, j2, m2⟩, vs2, n2, _, q10, qo10, kv10, mkF 0 (figs sz qq (U + cl)), U + cl, S + (ld.length : Int), B + 1, _, _, _, _, _, _, _, _⟩ (by k_asm) N2 (by k_mem) ?yl1_U (by kst_all) ?yr1_U ?yp1_U
                                case yl1_U =>
                                  dsimp only
                                  repeat' (first | exact List.forall_mem_nil _ | refine List.forall_mem_cons.mpr ⟨⟨by k_mem, by first | assumption | exact NeA.flip (by assumption)⟩, ?_⟩)
                                case yr1_U => (intro z h2 h3; simp only [List.forall_mem_cons, List.not_mem_nil, false_implies, implies_true, and_true, ne_eq] at h2; simp only [List.contains_cons, List.contains_nil, Bool.or_false, Bool.or_eq_false_iff, beq_eq_false_iff_ne, ne_eq] at h3; simp [kstB, h2, h3])
                                case yp1_U =>
                                  refine ⟨hld2, hy11, hi, hqo10, hqf10, hqs10, .inr rfl, by (dsimp only; omega), by (dsimp only; omega), by first | assumption | exact NeA.flip (by assumption), ?_, ?_, ?_, ?_⟩
                                  all_goals (dsimp only; simp only [List.cons_append, List.nil_append, List.forall_mem_cons, List.not_mem_nil, false_implies, implies_true, and_true]; (repeat' (refine And.intro ?_ ?_)) <;> first | assumption | exact NeA.flip (by assumption))
        case done_C =>
          clear l1 off N2 F1 l1a l1b l1c l1d l1e l1f hIL he0 hr0 hlen hR hi' fi'
          as_aux_lemma =>
            k_with_none
            w_top off
            k_with "execs cons" => (with_reducible refine gentk ?_; intro tk)
            k_with "execs nil" => (with_reducible refine gentk ?_; intro tk)
            k_with "call ref" => (refine Hold.mk ?_)
            k_with "pyIter ref" => (refine Hold.mk ?_)
            k_with "call type:list" => (refine' list_vals ?vh_E ?vF_E ?vN_E ?vv_E ?vm_E ?vo_E ?vf_E ?vn_E ?_; (case vh_E => rfl); (case vF_E => k_asm); (case vN_E => k_asm); (case vv_E => k_mem); (case vm_E => k_mem); (case vo_E => k_asm); (case vf_E => k_asm); (case vn_E => k_asm); intro B vs n h' tk hIv l1 F' N'; k_lt l1)
            k_with "subscriptTail Call" => (k_here; (with_reducible show wpAny _ _ (subscriptTail _ (PySem.Expr.Slice none none (some _) _) (Value.ref _) (Value.ref _)) _ _ _); k_dflt (refine kba_turn (value' := PySem.Expr.Name (PySem.Str.ofString "_") ⟨0, 0, 0, 0⟩) (fun _ => rfl) ?_))
            k_with "subscriptTail" => (k_here; (with_reducible show wpAny _ _ (subscriptTail _ _ (Value.ref _) (Value.int _ _)) _ _ _); k_dflt (refine' item_tupleT ?it_E ?ia_E ?ib_E ?ic_E ?id_E ?_; (case it_E => exact News.isTup (by k_asm) (by k_mem)); (case ia_E => decide); (case ib_E => decide); (case ic_E => rfl); (case id_E => rfl); k_whole))
            k_with "exec For Name Subscript cons nil" => (k_here; (rename Fr _ _ _ _ => lF'); (with_unfolding_all refine' For_invVF lF' ?k1_E ?k2_E ?_; (case k1_E => exact rfl); (case k2_E => exact rfl); k_whole))
            intro k u h tk hP F N
            obtain ⟨_, hy, hi, hko, hkf, hks, hheld, hU0, hU, hne1, hne2, hne3, hne4, hne5⟩ := hP
            obtain ⟨⟨a1, a2, c1, o1, c2, o2⟩, vs, n, e, d, o, kv, held, U, S, B, q1, q2, q3, q4, t1, t2, t3, t4⟩ := k
            dsimp only at hy hi hko hkf hks hheld hU0 hU hne1 hne2 hne3 hne4 hne5 F N
            have hhl : held.length ≤ 100 := by have := held_len b1 b2 b3 b4 hU0 (by simp only [List.length_nil] at hU; omega) hheld; omega
            try k_fold
            k_steps
            refine Hold.out ?_
            rename News _ _ _ _ => N1
            rename Fr _ _ _ _ => F1
            rename IntsAre _ (List.reverse _) => hIr
            rename_i dr wr _ _ l1r
            have N2 := news_pick2 N1 [0, 8, 9, 10, 11, 12, 13]
            dsimp only [picks, pickAt, List.cons_append, List.nil_append] at N2
            have hw := held_worth b1 b2 b3 b4 hU0 (by simp only [List.length_nil] at hU; omega) hheld
            obtain ⟨p1, p2, _⟩ := hst
            simp only [List.cons_append, List.nil_append, List.forall_mem_cons, List.not_mem_nil, false_implies, implies_true, and_true] at p1 p2 hne4 hne5
            have r1 : NeA 58 dr ∧ NeA 65 dr ∧ NeA c1 dr ∧ NeA c2 dr := by
              clear p1 p2 hne4 hne5
              refine ⟨NeA.flip (NeA.gt ?_), NeA.flip (NeA.gt ?_), NeA.flip (NeA.gt ?_), NeA.flip (NeA.gt ?_)⟩ <;> omega
            clear N1 l1r
            refine' list_loop (σ := WorthS) (ax := dr) (lo := W.listOf wr.toArray 0) (vs := wr) (n := 0) (fun k => [(dr, W.listOf wr.toArray 0), (s1.heap.objs.size + 1 + 1, oz2), (s1.heap.objs.size + 1, oz1), (58, k.y.a1), (65, k.y.a2), (k.y.c1, k.y.o1), (k.y.c2, k.y.o2)])
              (fun k => [("worth", .int k.W k.tw)]) ["figure", "part", "rest"] (WorthP sz qq U [dr, s1.heap.objs.size + 1 + 1, s1.heap.objs.size + 1]) ⟨⟨a1, a2, c1, o1, c2, o2⟩, 0, _⟩ (by rfl) F1 N2 (by rfl) (by rfl) ?lL_E ?lk_E ?lp_E (fun _ => .head _) ?turn_E ?done_E
            case lL_E => exact fun _ hp => hp
            case lk_E => kst_all
            case lp_E =>
              refine ⟨hy, ⟨_, hIr, hw⟩, ?_, ?_⟩
              all_goals (simp only [List.forall_mem_cons, List.not_mem_nil, false_implies, implies_true, and_true])
              · exact ⟨r1.2.2.1, hne4.2.2.2.1, hne4.2.2.2.2⟩
              · exact ⟨r1.2.2.2, hne5.2.2.2.1, hne5.2.2.2.2⟩
            case turn_E =>
              clear N2 F1
              as_aux_lemma =>
                k_with_none
                w_top off
                k_with "execs cons" => (with_reducible refine gentk ?_; intro tk)
                k_with "execs nil" => (with_reducible refine gentk ?_; intro tk)
                k_with "call ref" => (refine Hold.mk ?_)
                k_with "LPost" => (refine Hold.mk ?_)
                intro I hI v r k u' it h2 tk2 hP hoI F N
                obtain ⟨hy, ⟨ns, hns, hwf⟩, hn1, hn2⟩ := hP
                obtain ⟨⟨a1', a2', c1', o1', c2', o2'⟩, W, tw⟩ := k
                dsimp only at hy hwf hn1 hn2 F N hoI
                cases hns with
                | @cons x t _ ns hns =>
                  obtain ⟨hw1, hw2, hw3, hw4⟩ := worth_cons hwf
                  simp only [List.forall_mem_cons, List.not_mem_nil, false_implies, implies_true, and_true] at hoI hn1 hn2
                  obtain ⟨j1, j2, j3, j4, j5, j6, j7⟩ : NeA dr I ∧ NeA (s1.heap.objs.size + 1 + 1) I ∧ NeA (s1.heap.objs.size + 1) I ∧ NeA 58 I ∧ NeA 65 I ∧ NeA c1' I ∧ NeA c2' I := hoI
                  obtain ⟨m1, m2, m3⟩ := hn1
                  obtain ⟨m4, m5, m6⟩ := hn2
                  obtain ⟨_, _, _, v1, v2, v3⟩ := p1
                  obtain ⟨_, _, v4, v5, v6⟩ := p2
                  obtain ⟨s1', s2', _, _⟩ := r1
                  clear hI
                  try k_fold
                  k_steps
                  refine Hold.out ?_
                  rename News _ _ _ _ => N1
                  have N2 := news_pick2 N1 [4, 5, 6, 7, 0, 1, 2, 3]
                  dsimp only [picks, pickAt, List.cons_append, List.nil_append] at N2
                  clear N1
                  refine' useU (spec_idm ww ⟨a1', a2', c1', o1', c2', o2'⟩ hy W qq _ _ hw1 hw2 (by omega) (by omega)) ?uh1_F ?ud1_F ?uu1_F ?uF1_F ?uX1_F N2 ?uT1_F ?uo1_F ?_
                  (case uX1_F => k_asm); (case uF1_F => k_asm); (case uT1_F => k_asm)
                  (case uh1_F => exact rfl); (case ud1_F => first | exact Nat.le_of_ble_eq_true rfl | (show _ + 1 ≤ _; omega)); (case uu1_F => first | exact Nat.le_of_ble_eq_true rfl | (show _ + 3 ≤ _; omega))
                  (case uo1_F => first | exact fun _ _ => List.forall_mem_nil _ | (repeat' (first | exact List.forall_mem_nil _ | (refine List.forall_mem_cons.mpr ⟨?_, ?_⟩) | k_ne)))
                  clear N2
                  intro z9 r9 h9 tk9 hP9 F9 N9 hne9
                  obtain ⟨⟨b1', b2', d1, p1', d2, p2'⟩, t9, tq9, tr9⟩ := z9
                  dsimp only at hP9 N9 hne9
                  obtain ⟨rfl, hy9, hP9, hP8, hP7, hP6⟩ := hP9
                  rw [hw3] at N9
                  simp only [List.cons_append, List.nil_append] at N9
                  replace hne9 := AllL.two hne9
                  dsimp only [AllL, List.nil_append, List.cons_append] at hne9
                  (repeat (rename ((NeA _ _ ∧ _) ∧ _) => hN0; have hN2 := hN0.1; have hN1 := hN0.2; clear hN0)); (repeat (rename (NeA _ _ ∧ _) => hN0; have hN2 := hN0.1; have hN1 := hN0.2; clear hN0))
                  have hm1 := Int.ediv_nonneg hw1 (show 0 ≤ qq by omega)
                  have hm2 : W / qq ≤ 64 := Int.le_trans (Int.ediv_le_self qq hw1) (by omega)
                  generalize W / qq = part at N9 hw4 hm1 hm2
                  k_steps
                  refine Hold.out ?_
                  dsimp only [LPost]
                  refine' lend ⟨⟨b1', b2', d1, p1', d2, p2'⟩, x + sz * part, _⟩ (by k_asm) (by k_asm) (by k_mem) ?yl1_F (by kst_all) ?yr1_F ?yp1_F
                  case yl1_F => exact List.forall_mem_cons.mpr ⟨⟨by k_mem, by first | assumption | exact NeA.flip (by assumption)⟩, List.forall_mem_cons.mpr ⟨⟨by k_mem, by first | assumption | exact NeA.flip (by assumption)⟩, List.forall_mem_cons.mpr ⟨⟨by k_mem, by first | assumption | exact NeA.flip (by assumption)⟩, List.forall_mem_cons.mpr ⟨⟨by k_mem, by first | assumption | exact NeA.flip (by assumption)⟩, List.forall_mem_cons.mpr ⟨⟨by k_mem, by first | assumption | exact NeA.flip (by assumption)⟩, List.forall_mem_cons.mpr ⟨⟨by k_mem, by first | assumption | exact NeA.flip (by assumption)⟩, List.forall_mem_cons.mpr ⟨⟨by k_mem, by first | assumption | exact NeA.flip (by assumption)⟩, List.forall_mem_nil _⟩⟩⟩⟩⟩⟩⟩
                  case yr1_F => (intro z h2 h3; simp only [List.forall_mem_cons, List.not_mem_nil, false_implies, implies_true, and_true, ne_eq] at h2; simp only [List.contains_cons, List.contains_nil, Bool.or_false, Bool.or_eq_false_iff, beq_eq_false_iff_ne, ne_eq] at h3; simp [kstB, h2, h3])
                  case yp1_F =>
                    refine ⟨hy9, ⟨ns, hns, hw4⟩, ?_, ?_⟩
                    all_goals (simp only [List.forall_mem_cons, List.not_mem_nil, false_implies, implies_true, and_true]; refine ⟨?_, ?_, ?_⟩ <;> first | assumption | exact NeA.flip (by assumption))
            case done_E =>
              clear N2 F1
              as_aux_lemma =>
                k_with_none
                w_top off
                k_with "execs cons" => (with_reducible refine gentk ?_; intro tk)
                k_with "execs nil" => (with_reducible refine gentk ?_; intro tk)
                k_with "call ref" => (refine Hold.mk ?_)
                intro k u' h2 tk2 hP F N
                obtain ⟨hy, ⟨ns, hns, hwf⟩, hn1, hn2⟩ := hP
                obtain ⟨⟨a1', a2', c1', o1', c2', o2'⟩, W, tw⟩ := k
                dsimp only at hy hwf hn1 hn2 F N
                cases hns with
                | nil =>
                  have e : W = U := by injection hwf
                  subst e
                  obtain ⟨pa, rfl⟩ := tab_one hy
                  obtain ⟨pb, rfl⟩ := tab_two hy
                  clear hwf hy hn1 hn2
                  try k_fold
                  k_steps)
