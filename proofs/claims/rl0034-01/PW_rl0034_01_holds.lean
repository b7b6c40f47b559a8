import PyProof.Rows.All
import Wide.All
import OpenK.AllK
import Wide.FinOn
import Lean
import PySem.Challenge.RW_rl0034_01
open PySem PySem.W PyProof.Rows PySem.Calls PySem.Spec
set_option Elab.async false
set_option maxRecDepth 100000
set_option rowWalk.seconds 0
namespace Mine
theorem left_boot {p q : Program} {loose : List Str} {Xt : Shared → Bool} {α : Type} {Yf : Shared → α} {Ya : World → α} {N : Nat} {g0 : Bool} {m₀ : Nat} {ann : Option Value} {M : Nat}
    (e : opening p = plainProg p.main.scope.names) (hN : Nat.ble 600 N = true) (f : ∀ s, fenceModules? p s = some s)
    (size : ∀ w : World, ((boot_heap w.params).isNs mainGlobals && (Array.mk ([] : List GenState)).size == 0, (boot_heap w.params).objs.size, (boot_heap w.params).nsMap mainGlobals "__annotations__") = (true, m₀, ann))
    (le : Nat.ble M N = true)
    (run : ∀ (w : World) (os : OsState), (topRun treeTable p w m₀ ann M ⟨boot_heap w.params, Array.mk [], boot_drawn, boot_toks, os⟩ (topStub p)).map (fun s =>
      (staticsOk (importedModules p.main.body) (boot_heap w.params) s.heap && namesBound p s.heap && gensDone s && laidKept (boot_heap w.params) s.heap, openSeen q loose (importedModules p.main.body) Xt g0 s, Yf s)) =
      some (true, openGood q loose, Ya w)) : LeftO p q loose Xt Yf Ya N g0 := fun w => by
  obtain ⟨⟨h, gs, d, k, os⟩, e1, e'⟩ := Option.map_eq_some_iff.mp (boot_open e hN f w)
  obtain ⟨rfl, rfl, rfl, rfl⟩ : h = boot_heap w.params ∧ gs = Array.mk [] ∧ d = boot_drawn ∧ k = boot_toks := by simpa using e'
  obtain ⟨z1, z2, z3⟩ : _ ∧ _ ∧ _ := by simpa only [Prod.mk.injEq] using size w
  obtain ⟨s, r, l⟩ := Option.map_eq_some_iff.mp (run w os)
  obtain ⟨l1, l2, l3⟩ : _ ∧ _ ∧ _ := by simpa only [Prod.mk.injEq] using l
  have r := topRun_mono (N - M) _ _ _ _ r
  rw [show M + (N - M) = N by have := Nat.le_of_ble_eq_true le; omega] at r
  have t : topFrom treeTable p w N ⟨boot_heap w.params, Array.mk [], boot_drawn, boot_toks, os⟩ = some s := by
    unfold topFrom
    dsimp only
    rw [z1, z2, z3, r]
    show (match staticsOk (importedModules p.main.body) (boot_heap w.params) s.heap && namesBound p s.heap && gensDone s && laidKept (boot_heap w.params) s.heap with | true => _ | false => _) = _
    rw [l1]
  unfold openEnds
  rw [e1]
  show (topFrom treeTable p w N _).map _ = _
  rw [t]
  exact congrArg some (Prod.ext l2 l3)
def keepS : Stmt → Bool | .Assign .. => false | _ => true
def view : Program := { PySem.Challenge.pw_rl0034_01 with main := { PySem.Challenge.pw_rl0034_01.main with body := PySem.Challenge.pw_rl0034_01.main.body.filter keepS } }
theorem law_said : PySem.Challenge.rw_rl0034_01.wellSaid = true := by
  rw [PySem.W.Fast.te9446332074065402090]
  kernel_rfl
local macro_rules | `(tactic| o_law) => `(tactic| refine holds_law law_said fun said => ?_)
local macro_rules | `(tactic| o_head $H) => `(tactic| (
      refine holds_open (q := Mine.view) (loose := []) (Xt := fun s => xlAt Mine.view [] s && recOk (RowW.records PySem.Challenge.rw_rl0034_01.row.toRowW) s) (XP := XL Mine.view []) (Yf := Hook.obs $H) (Ya := Hook.val $H) (YP := Hook.says $H) (N := 1504) ?$(Lean.mkIdent `hl) (Hook.of $H) (Hook.keeps $H) (fun s e => xl_of s (Bool.and_eq_true_iff.mp e).1) XL.keeps (by rfl) (by rfl) (by rfl) (fun s e => recFacts_of (Bool.and_eq_true_iff.mp e).2) (by rfl) (by first | assumption | decide +kernel) (by decide +kernel) ⟨rfl, rfl, rfl, rfl, rfl, by decide +kernel⟩ ?$(Lean.mkIdent `hw) ?$(Lean.mkIdent `hc)
      · exact left_boot (m₀ := 11) (ann := some (.ref 6)) (M := 1504) (by kernel_rfl) (by kernel_rfl) (by intro s; kernel_rfl) (by intro w; kernel_rfl) (by kernel_rfl) (by intro w os; rw [PySem.W.Fast.te14082659384304107361, PySem.W.Fast.te14364793385576792824, PySem.W.Fast.te4187177175401517315]; kernel_rfl)))
set_option maxRecDepth 100000 in
set_option maxHeartbeats 8000000 in
open_top hd for PySem.Challenge.rw_rl0034_01

theorem topOff : True := by
  w_top off
  trivial
local macro_rules | `(tactic| walk_at $s:str) => `(tactic| k_extra $s)
local macro_rules | `(tactic| k_ne) => `(tactic| k_extra "mine k_ne")
local macro_rules | `(tactic| k_all) => `(tactic| k_extra "mine k_all")
local macro_rules | `(tactic| k_inst) => `(tactic| k_extra "mine k_inst")
local macro_rules | `(tactic| k_mem) => `(tactic| k_extra "mine k_mem")
local macro_rules | `(tactic| is_list) => `(tactic| k_extra "mine is_list")
local macro_rules | `(tactic| k_lt $h:ident) => `(tactic| (k_extra "mine k_lt"; replace $h := allLt_of $h))
local macro_rules | `(tactic| walk_at "tail N") => `(tactic| (intro N9; try simp only [List.cons_append, List.nil_append] at N9))
local macro_rules | `(tactic| walk_at "tail Nd") => `(tactic| (intro N9; try dsimp only at N9))
local macro_rules | `(tactic| walk_at "tail l1") => `(tactic| (intro l1; try k_lt l1))
local macro_rules | `(tactic| walk_at "tail l2") => `(tactic| (walk_at "tail l1"; intro l1; try k_lt2 l1))
local macro_rules | `(tactic| walk_at "tail l4") => `(tactic| (walk_at "tail l2"; intro l1; (try k_lt2 l1); intro l2; try k_lt2 l2))
local macro_rules | `(tactic| walk_at "tail d49") => `(tactic| rename ((@Ne Nat _ 101) ∧ (@Ne Nat _ 101) ∧ (@Ne Nat _ 101) ∧ (@Ne Nat _ 101)) => d49)
local macro_rules | `(tactic| walk_at "tail fin") => `(tactic| (intro _ _ _ _ N' o1'; (try simp only [List.nil_append, List.cons_append] at N' o1'); (try dsimp only)))
local macro_rules | `(tactic| walk_at "tail rest") => `(tactic| (intro _ _ _ _ _ _ _ _ _ _ hv' _ _ _ _ _ _; (first | lcg_open hv' | (obtain ⟨t9', hv9'⟩ := hv'; subst hv9'))))
abbrev PR : Program := PySem.Challenge.rw_rl0034_01.row.prog

theorem fillK : PySem.Challenge.rw_rl0034_01 = PySem.Challenge.rw_rl0034_01 ∧ hd.heap_1 = hd.heap_1 := by
  k_fill
  exact ⟨rfl, rfl⟩

abbrev Ar (d u : Nat) (fr : Option (List Env)) : Around := { handled := none, depth := d, frames := fr, guards := some [], units := u }
structure Lvl (A : Around) (n : Nat) : Prop where
  handled : A.handled = none
  guards : A.guards = some []
  depth : A.depth ≤ n
  units : A.units ≤ n
theorem lower {α : Type} {M : Model} {A : Around} {t : Sem α} {Q : α → Shared → Prop} {E : Value → Shared → Prop} {s : Shared} {n : Nat} (R : Lvl A n) (h : wpAny M (Ar n n A.frames) t Q E s) : wpAny M A t Q E s :=
  fun Γ p hΓ => h Γ p ⟨hΓ.1.trans R.handled, Nat.le_trans hΓ.2.1 R.depth, hΓ.2.2.1, fun g hg => hΓ.2.2.2.1 g (R.guards.trans hg), Nat.le_trans hΓ.2.2.2.2 R.units⟩

structure Gr (w : World) (h : Heap) : Prop where
  kin : (hd.heap_1 w.params).In h
  top : ∃ p loose mean mg mb, Top p loose mean mg mb h
theorem Gr.keeps {w : World} {h h' : Heap} (G : Gr w h) (k : ∀ b o, h.get? b = some o → h'.get? b = some o) : Gr w h' :=
  ⟨G.kin.keeps k, let ⟨p, l, m, a, b, T⟩ := G.top; ⟨p, l, m, a, b, T.keeps k⟩⟩

section
variable {w : World} {A : Around} {s : Shared} {Q : Value → Shared → Prop} {E : Value → Shared → Prop}
theorem enterP {name qual : Str} {params : Arguments} {body : List Stmt} {scope : Scope} {dV kV doc pm cdv ct oc : Value} {an od : Option Addr} {osl : Array (Option Value)} {f : Addr} {args : List Value} {binds : List (Str × Value)}
    (hroom : A.depth < recursionLimit) (G : Gr w s.heap)
    (ho : (hd.heap_1 w.params).lookup f = some ⟨oc, od, .func (fnOf name qual params body scope dV kV doc pm an cdv ct), osl⟩) (hcd : codeIn (hd.heap_1 w.params) cdv qual = true)
    (hbind : BindsTo s (fnOf name qual params body scope dV kV doc pm an cdv ct) ⟨args, []⟩ binds) (hloc : ∀ y ∈ binds, scope.names.lookup y.1 = some .local)
    (hcell : ∀ x ∈ scope.names, x.2 ≠ .cell)
    (h : ∀ L h₁, Fr s.heap L h₁ (fun y => binds.reverse.lookup y) → News s.heap L h₁ [] →
      wpAny (model PR w) (A.deeper (envOf qual scope L f cdv)) (execs body (envOf qual scope L f cdv))
        (fun fl s' => Q (match fl with | .ret v => v | _ => .none) s') (fun _ _ => False) { s with heap := h₁, toks := s.toks + binds.length })
    (hco : scope.isCoroutine = false) (hgen : scope.isGenerator = false) (hk : scope.kind = .function) :
    wpAny (model PR w) A (call (.ref f) args) Q E s := by
  obtain ⟨p, l, m, a, b, T⟩ := G.top
  refine wpAny_call (codeAny_call_def (fd := fnOf name qual params body scope dV kV doc pm an cdv ct) (body := body) (binds := binds) hroom (G.kin _ _ ho) rfl T.nolimit (codeRec_of G.kin hcd) rfl hbind hcell hloc (fun h₁ hns hk₁ => ?_) hco hgen hk)
  exact wpAny_mono (h s.heap.objs.size h₁ ⟨hns, hk₁, Nat.le_refl _⟩ News.nil) (fun _ _ x => x) (fun _ _ x => x.elim)

theorem enterC {name qual : Str} {params : Arguments} {body : List Stmt} {scope : Scope} {dV kV doc pm cdv ct oc : Value} {an od : Option Addr} {osl : Array (Option Value)} {f : Addr} {args : List Value} {binds : List (Str × Value)}
    (hroom : A.depth < recursionLimit) (G : Gr w s.heap)
    (ho : (hd.heap_1 w.params).lookup f = some ⟨oc, od, .func (fnOf name qual params body scope dV kV doc pm an cdv ct), osl⟩) (hcd : codeIn (hd.heap_1 w.params) cdv qual = true)
    (hbind : BindsTo s (fnOf name qual params body scope dV kV doc pm an cdv ct) ⟨args, []⟩ binds)
    (hkind : (binds.all fun y => scope.names.lookup y.1 == some .local || scope.names.lookup y.1 == some .cell) = true)
    (hnd : ((cellsFrom 0 scope.names []).map (·.1)).Nodup)
    (h : ∀ L h₁ tk cells, Fr s.heap L h₁ (bindL (envOfC qual scope L f cdv).kindOf binds fun _ => none) → News s.heap L h₁ cells →
      CellsAre (bindC (envOfC qual scope L f cdv).kindOf binds fun _ => none) (cellsFrom (L + 1) scope.names []) cells →
      wpAny (model PR w) (A.deeper (envOfC qual scope L f cdv)) (execs body (envOfC qual scope L f cdv))
        (fun fl s' => Q (match fl with | .ret v => v | _ => .none) s') (fun _ _ => False) { s with heap := h₁, toks := tk })
    (hco : scope.isCoroutine = false) (hgen : scope.isGenerator = false) (hk : scope.kind = .function) :
    wpAny (model PR w) A (call (.ref f) args) Q E s := by
  obtain ⟨p, l, m, a, b, T⟩ := G.top
  refine wpAny_call (codeAny_call_function hroom (G.kin _ _ ho) rfl hco hgen rfl (codeRec_of G.kin hcd) (hbind _ _ _ _ ?_))
  refine wpAny_newFunctionEnv_cells hk (kindsX hkind _) fun env' he s' x => ?_
  subst he
  refine ⟨T.nolimit.keeps x.toInCall.keep, codeAny_func ?_⟩
  obtain ⟨h₁, tk, rfl, _⟩ := x.done
  have hk₁ := x.toInCall.keep
  obtain ⟨cells, NC, Y⟩ := Cl.news (h₀ := s.heap) (Nat.le_refl _) fun n c hm => ⟨x.cell n c (lookup_of_mem_nodup (cellsFrom_names scope.names 0 (s.heap.objs.size + 1) [] [] rfl ▸ hnd) hm), x.above n c hm⟩
  exact wpAny_mono (h s.heap.objs.size h₁ tk cells ⟨x.toInCall.ns, hk₁, Nat.le_refl _⟩ NC Y) (fun _ _ x => x) (fun _ _ x => x.elim)
end

section
variable {w : World} {A : Around} {s : Shared} {R : Result → Shared → Prop} {h₀ : Heap} {L₀ : Addr} {m : Str → Option Value} {news : List (Addr × Obj)} {p : Program} {loose : List Str} {mean : ExcName → Option Value} {mg mb : Str → Option Value}
theorem enterL {name qual : Str} {params : Arguments} {body : List Stmt} {scope : Scope} {dV kV doc pm cdv ct oc : Value} {an od : Option Addr} {osl : Array (Option Value)} {f : Addr} {args : Args} {binds : List (Str × Value)}
    (hroom : A.depth < recursionLimit) (F : Fr h₀ L₀ s.heap m) (N : News h₀ L₀ s.heap news) (X : (hd.heap_1 w.params).In h₀) (T : Top p loose mean mg mb h₀)
    (ho : (hd.heap_1 w.params).lookup f = some ⟨oc, od, .func (fnOf name qual params body scope dV kV doc pm an cdv ct), osl⟩) (hcd : codeIn (hd.heap_1 w.params) cdv qual = true)
    (hbind : BindsTo s (fnOf name qual params body scope dV kV doc pm an cdv ct) args binds) (hloc : ∀ y ∈ binds, scope.names.lookup y.1 = some .local)
    (hcell : ∀ x ∈ scope.names, x.2 ≠ .cell)
    (h : ∀ g L h₁, Fr g L h₁ (fun y => binds.reverse.lookup y) → News g L h₁ news → (hd.heap_1 w.params).In g → Top p loose mean mg mb g → (∀ p ∈ news, p.1 < L) → h₀.StaysIn g →
      wpAny (model PR w) (A.deeper (envOf qual scope L f cdv)) (execs body (envOf qual scope L f cdv))
        (fun fl s' => LeaveK h₀ L₀ m g R (match fl with | .ret v => v | _ => .none) s') (fun _ _ => False) { s with heap := h₁, toks := s.toks + binds.length })
    (hco : scope.isCoroutine = false) (hgen : scope.isGenerator = false) (hk : scope.kind = .function) :
    codeAny (model PR w) A (.call (.ref f) args) R s := by
  obtain ⟨FG, _, st, lv⟩ := groundX (A₀ := callerA) (env := envOf name scope L₀ 0 .none) (A := { callerA with frames := some [envOf name scope L₀ 0 .none] }) (R := R) (below_caller h₀) F N rfl rfl hk
  refine codeAny_call_def (fd := fnOf name qual params body scope dV kV doc pm an cdv ct) (body := body) (binds := binds) hroom (F.keep _ _ (X _ _ ho)) rfl (T.nolimit.keeps F.keep) ((codeRec_of X hcd).keeps F.keep) rfl hbind hcell hloc (fun h₁ hns hk₁ => ?_) hco hgen hk
  refine wpAny_mono (h _ s.heap.objs.size h₁ ⟨hns, fun b o e => hk₁ b o (of_hideAll _ e), Nat.le_of_eq (hideAll_size _ _)⟩
    (fun p hp => ⟨hk₁ _ _ (N p hp).1, Nat.ne_of_lt (Heap.lt_size (N p hp).1), hideAll_none _ (List.mem_map_of_mem hp)⟩) (X.keeps st) (T.keeps st) (fun p hp => Heap.lt_size (N p hp).1) st) (fun fl s' hl => lv _ _ hl) fun _ _ y => y.elim
end

theorem fill1 : PySem.Challenge.rw_rl0034_01 = PySem.Challenge.rw_rl0034_01 ∧ hd.heap_1 = hd.heap_1 := by
  k_fill
  exact ⟨rfl, rfl⟩
theorem words_LParts_0 : True := by
  k_with_none
  (k_with "mine enterP" => (k_dflt (refine' enterP ?rwParts1 ?GwParts1 ?howParts1 ?hcdwParts1 ?hbwParts1 ?hlwParts1 ?hcwParts1 ?_ ?c1wParts1 ?c2wParts1 ?c3wParts1; (case GwParts1 => assumption); (case howParts1 => k_is); (case rwParts1 => exact Nat.le_of_ble_eq_true rfl); (case hcdwParts1 => k_is); (case hbwParts1 => exact BindsTo.of_eq rfl); (case hlwParts1 => exact locs rfl); (case hcwParts1 => decide); (case c1wParts1 => exact rfl); (case c2wParts1 => exact rfl); (case c3wParts1 => exact rfl))))
  (k_with "mine enterC" => (k_dflt (refine' enterC ?rwParts2 ?GwParts2 ?howParts2 ?hcdwParts2 ?hbwParts2 ?hlwParts2 ?hcwParts2 ?_ ?c1wParts2 ?c2wParts2 ?c3wParts2; (case GwParts2 => assumption); (case howParts2 => k_is); (case rwParts2 => exact Nat.le_of_ble_eq_true rfl); (case hcdwParts2 => k_is); (case hbwParts2 => exact BindsTo.of_eq rfl); (case hlwParts2 => exact rfl); (case hcwParts2 => decide +kernel); (case c1wParts2 => exact rfl); (case c2wParts2 => exact rfl); (case c3wParts2 => exact rfl))))
  trivial
set_option maxHeartbeats 8000000 in
theorem parts_spec {w : World} {A : Around} {s : Shared} {Q : Value → Shared → Prop} {E : Value → Shared → Prop} (R : Lvl A 900) (G : Gr w s.heap) {n : Int} {t : Tok}
    (k : ∀ a vs e h' tk, (∀ b o, s.heap.get? b = some o → h'.get? b = some o) → s.heap.get? a = none → h'.get? a = some (W.listOf vs e) → IntsAre vs.toList [Int.fmod (Int.fmod n 64) 4, Int.fmod (Int.fdiv (Int.fmod n 64) 4) 4, Int.fdiv (Int.fmod n 64) 16] → Q (.ref a) { s with heap := h', toks := tk }) :
    wpAny (model PR w) A (call (.ref 84) [.int n t]) Q E s := by
  obtain ⟨p, l, m, mg, mb, T⟩ := G.top
  have X := G.kin
  refine lower R ?_
  clear R
  generalize A.frames = fr
  k_extra "mine enterP"
  intro L h₁ F N
  (try dsimp only)
  (try k_fold)
  k_steps
  rename Fr _ _ _ _ => F'
  rename News _ _ _ _ => N'
  exact k _ _ _ _ _ F'.keep (N' _ (List.Mem.head _)).2.2 (N' _ (List.Mem.head _)).1 (.cons _ _ (.cons _ _ (.cons _ _ .nil)))

set_option maxHeartbeats 8000000 in
theorem bare_spec {w : World} {A : Around} {s : Shared} {Q : Value → Shared → Prop} {E : Value → Shared → Prop} (R : Lvl A 900) (G : Gr w s.heap) {a : Addr} {vs : List Value} {x y z : Int} (hl : s.heap.IsList a vs.toArray) (hi : IntsAre vs [x, y, z])
    (k : ∀ a vs e h' tk, (∀ b o, s.heap.get? b = some o → h'.get? b = some o) → s.heap.get? a = none → h'.get? a = some (W.listOf vs e) → IntsAre vs.toList [x - min x (min y z), y - min x (min y z), z - min x (min y z)] → Q (.ref a) { s with heap := h', toks := tk }) :
    wpAny (model PR w) A (call (.ref 89) [.ref a]) Q E s := by
  obtain ⟨p, l, m, mg, mb, T⟩ := G.top
  have X := G.kin
  refine lower R ?_
  clear R
  generalize A.frames = fr
  k_extra "mine enterC"
  intro L h₁ tk cells F N Y
  k_cells Y
  (try dsimp only)
  (try k_fold)
  k_steps
  rename Fr _ _ _ _ => F'
  rename News _ _ _ _ => N'
  rename IntsAre _ (List.map _ _) => I'
  rename (_ ≤ _ ∧ _ ≤ _ ∧ _ ≤ _) => b'
  rename (_ = _ ∨ _ = _ ∨ _ = _) => a'
  refine k _ _ _ _ _ F'.keep (N' _ (List.Mem.head _)).2.2 (N' _ (List.Mem.head _)).1 ?_
  have e : ∀ M : Int, (M = x ∨ M = y ∨ M = z) → (M ≤ x ∧ M ≤ y ∧ M ≤ z) → M = min x (min y z) := by intro M h1 h2; omega
  have e' := e _ a' b'
  subst e'
  exact I'

theorem fill2 : PySem.Challenge.rw_rl0034_01 = PySem.Challenge.rw_rl0034_01 ∧ hd.heap_1 = hd.heap_1 := by
  k_fill
  exact ⟨rfl, rfl⟩
def fgt (a b : UInt64) : Bool := Float64.cmp b a == some .lt
def fmax3 (a b c : UInt64) : UInt64 := if fgt b a then (if fgt c b then c else b) else (if fgt c a then c else a)
def fmin3 (a b c : UInt64) : UInt64 := if fgt a b then (if fgt b c then c else b) else (if fgt a c then c else a)
section
variable {prog : Program} {w : World} {A : Around} {E : Value → Shared → Prop} {s : Shared} {Q : Value → Shared → Prop}
theorem max3_ff {x y z : UInt64} {t u v : Tok} {h₀ : Heap} {L : Addr} {m : Str → Option Value} {news : List (Addr × Obj)} (hh : A.handled = none) (F : Fr h₀ L s.heap m) (N : News h₀ L s.heap news)
    (h : ∀ h' tk r, Fr h₀ L h' m → News h₀ L h' news → Q (.float (fmax3 x y z) r) { s with heap := h', toks := tk }) :
    wpAny (model prog w) A (call (.builtin "max") [.float x t, .float y u, .float z v]) Q E s := by
  have hT : (s.heap.push { cls := .type "tuple", data := .seq #[.float x t, .float y u, .float z v] }).IsTuple s.heap.objs.size #[.float x t, .float y u, .float z v] := ⟨_, Heap.get?_push_size _ rfl, rfl, 0, rfl⟩
  refine call_max_three (wpAny_pyIter_tuple hT ?_)
  have hsz : (s.heap.push { cls := .type "tuple", data := .seq #[.float x t, .float y u, .float z v] }).objs.size = s.heap.objs.size + 1 := Heap.size_push ..
  refine ⟨_, [_, s.heap.objs.size], [_], _, _, _, _, rfl, Walks.tuple (A := A.in1) hh _ s.heap.objs.size (by rw [hsz]; exact Nat.ne_of_lt (Nat.lt_succ_self _)) #[.float x t, .float y u, .float z v],
    ⟨⟨_, Heap.get?_push_size _ rfl, rfl, rfl⟩, hT.push _⟩, fun c hc => ?_, by simp, Flt.cmpOf_gt #[.float x t, .float y u, .float z v] (by simp [Flt.NumV.float]), fun r h' tk hP hk => ?_⟩
  · show c < ((s.heap.push _).push _).objs.size
    rw [Heap.size_push, hsz]
    rcases List.mem_cons.mp hc with rfl | hc
    · rw [hsz]; exact Nat.lt_succ_self _
    · rcases List.mem_cons.mp hc with rfl | hc
      · exact Nat.lt_succ_of_lt (Nat.lt_succ_self _)
      · cases hc
  · have hold : ∀ c o, s.heap.get? c = some o → h'.get? c = some o := fun c o e => by
      refine hk c o (fun hm => ?_) (Heap.get?_push_of_some _ (Heap.get?_push_of_some _ e))
      rcases List.mem_cons.mp hm with e1 | hm
      · have := Heap.lt_size e; rw [e1, hsz] at this; exact Nat.lt_irrefl _ (Nat.lt_of_succ_lt this)
      · cases hm
    have hv : ∃ r', r = .float (fmax3 x y z) r' := by
      unfold fmax3 fgt
      cases h1 : Float64.cmp x y == some .lt <;> cases h2 : Float64.cmp y z == some .lt <;> cases h3 : Float64.cmp x z == some .lt <;>
        simp [argBest, Flt.ltV, h1, h2, h3] at hP <;> simp [← hP]
    obtain ⟨r', rfl⟩ := hv
    exact h h' tk r' (F.grownK hold) (N.grown hold)
theorem min3_ff {x y z : UInt64} {t u v : Tok} {h₀ : Heap} {L : Addr} {m : Str → Option Value} {news : List (Addr × Obj)} (hh : A.handled = none) (F : Fr h₀ L s.heap m) (N : News h₀ L s.heap news)
    (h : ∀ h' tk r, Fr h₀ L h' m → News h₀ L h' news → Q (.float (fmin3 x y z) r) { s with heap := h', toks := tk }) :
    wpAny (model prog w) A (call (.builtin "min") [.float x t, .float y u, .float z v]) Q E s := by
  have hT : (s.heap.push { cls := .type "tuple", data := .seq #[.float x t, .float y u, .float z v] }).IsTuple s.heap.objs.size #[.float x t, .float y u, .float z v] := ⟨_, Heap.get?_push_size _ rfl, rfl, 0, rfl⟩
  refine call_min_three (wpAny_pyIter_tuple hT ?_)
  have hsz : (s.heap.push { cls := .type "tuple", data := .seq #[.float x t, .float y u, .float z v] }).objs.size = s.heap.objs.size + 1 := Heap.size_push ..
  refine ⟨_, [_, s.heap.objs.size], [_], _, _, _, _, rfl, Walks.tuple (A := A.in1) hh _ s.heap.objs.size (by rw [hsz]; exact Nat.ne_of_lt (Nat.lt_succ_self _)) #[.float x t, .float y u, .float z v],
    ⟨⟨_, Heap.get?_push_size _ rfl, rfl, rfl⟩, hT.push _⟩, fun c hc => ?_, by simp, Flt.cmpOf_lt #[.float x t, .float y u, .float z v] (by simp [Flt.NumV.float]), fun r h' tk hP hk => ?_⟩
  · show c < ((s.heap.push _).push _).objs.size
    rw [Heap.size_push, hsz]
    rcases List.mem_cons.mp hc with rfl | hc
    · rw [hsz]; exact Nat.lt_succ_self _
    · rcases List.mem_cons.mp hc with rfl | hc
      · exact Nat.lt_succ_of_lt (Nat.lt_succ_self _)
      · cases hc
  · have hold : ∀ c o, s.heap.get? c = some o → h'.get? c = some o := fun c o e => by
      refine hk c o (fun hm => ?_) (Heap.get?_push_of_some _ (Heap.get?_push_of_some _ e))
      rcases List.mem_cons.mp hm with e1 | hm
      · have := Heap.lt_size e; rw [e1, hsz] at this; exact Nat.lt_irrefl _ (Nat.lt_of_succ_lt this)
      · cases hm
    have hv : ∃ r', r = .float (fmin3 x y z) r' := by
      unfold fmin3 fgt
      cases h1 : Float64.cmp y x == some .lt <;> cases h2 : Float64.cmp z y == some .lt <;> cases h3 : Float64.cmp z x == some .lt <;>
        simp [argBest, Flt.ltV, h1, h2, h3] at hP <;> simp [← hP]
    obtain ⟨r', rfl⟩ := hv
    exact h h' tk r' (F.grownK hold) (N.grown hold)
theorem div_ff {a b : UInt64} {t u : Tok} (hA : A.handled = none) (hb : Float64.isZero b = false) (h : Q (.float (Float64.div a b) s.toks) { s with toks := s.toks + 1 }) :
    wpAny (model prog w) A (binaryOp .Div (.float a t) (.float b u)) Q E s :=
  truediv_float_or hA (fun h0 => absurd h0 (by rw [hb]; exact Bool.false_ne_true)) (fun _ => h)
end
theorem words_LRgb_0 : True := by
  k_with_none
  (k_with "mine enterP" => (k_dflt (refine' enterP ?rwRgb3 ?GwRgb3 ?howRgb3 ?hcdwRgb3 ?hbwRgb3 ?hlwRgb3 ?hcwRgb3 ?_ ?c1wRgb3 ?c2wRgb3 ?c3wRgb3; (case GwRgb3 => assumption); (case howRgb3 => k_is); (case rwRgb3 => exact Nat.le_of_ble_eq_true rfl); (case hcdwRgb3 => k_is); (case hbwRgb3 => exact BindsTo.of_eq rfl); (case hlwRgb3 => exact locs rfl); (case hcwRgb3 => decide); (case c1wRgb3 => exact rfl); (case c2wRgb3 => exact rfl); (case c3wRgb3 => exact rfl))))
  (k_with "call builtin:max" => (((with_reducible show wpAny _ _ (call _ [Value.float _ _, Value.float _ _, Value.float _ _]) _ _ _); (rename News _ _ _ _ => N'z); (rename Fr _ _ _ _ => F'z); refine max3_ff rfl F'z N'z ?_; clear N'z; intro _ _ _ _ _; (try dsimp only))))
  (k_with "call builtin:min" => (((with_reducible show wpAny _ _ (call _ [Value.float _ _, Value.float _ _, Value.float _ _]) _ _ _); (rename News _ _ _ _ => N'z); (rename Fr _ _ _ _ => F'z); refine min3_ff rfl F'z N'z ?_; clear N'z; intro _ _ _ _ _; (try dsimp only))))
  trivial
def feq (a b : UInt64) : Bool := Float64.cmp a b == some .eq
def hlsS (x y z : UInt64) : UInt64 :=
  if (Float64.cmp (fmin3 x y z) (fmax3 x y z) == some Ordering.eq) = true then 0
  else if (Float64.cmp (Float64.div (Float64.add (fmax3 x y z) (fmin3 x y z)) 4611686018427387904) 4602678819172646912 == some Ordering.lt || Float64.cmp (Float64.div (Float64.add (fmax3 x y z) (fmin3 x y z)) 4611686018427387904) 4602678819172646912 == some Ordering.eq) = true
    then Float64.div (Float64.sub (fmax3 x y z) (fmin3 x y z)) (Float64.add (fmax3 x y z) (fmin3 x y z))
    else Float64.div (Float64.sub (fmax3 x y z) (fmin3 x y z)) (Float64.sub (Float64.sub 4611686018427387904 (fmax3 x y z)) (fmin3 x y z))
def hlsC (x y z c : UInt64) : UInt64 := Float64.div (Float64.sub (fmax3 x y z) c) (Float64.sub (fmax3 x y z) (fmin3 x y z))
def hlsH (x y z : UInt64) : UInt64 :=
  if (Float64.cmp (fmin3 x y z) (fmax3 x y z) == some Ordering.eq) = true then 0
  else (Float64.divmod (Float64.div (
    if (Float64.cmp x (fmax3 x y z) == some Ordering.eq) = true then Float64.sub (hlsC x y z z) (hlsC x y z y)
    else if (Float64.cmp y (fmax3 x y z) == some Ordering.eq) = true then Float64.sub (Float64.add 4611686018427387904 (hlsC x y z x)) (hlsC x y z z)
    else Float64.sub (Float64.add 4616189618054758400 (hlsC x y z y)) (hlsC x y z x)) 4618441417868443648) 4607182418800017408).snd
structure FOk (x y z : UInt64) : Prop where
  add : Float64.isZero (Float64.add (fmax3 x y z) (fmin3 x y z)) = false
  sub : Float64.isZero (Float64.sub (fmax3 x y z) (fmin3 x y z)) = false
  two : Float64.isZero (Float64.sub (Float64.sub 4611686018427387904 (fmax3 x y z)) (fmin3 x y z)) = false
  top : Float64.isZero (fmax3 x y z) = false
theorem nz_absurd {b : Bool} {P : Prop} (h1 : b = false) (h2 : b = true) : P := by rw [h1] at h2; cases h2
set_option maxHeartbeats 8000000 in
theorem hls_spec0 {w : World} {A : Around} {s : Shared} {Q : Value → Shared → Prop} {E : Value → Shared → Prop} (R : Lvl A 900) (G : Gr w s.heap) {x y z : UInt64} {t t' t'' : Tok}
    (ok : (Float64.cmp (fmin3 x y z) (fmax3 x y z) == some Ordering.eq) = false → FOk x y z)
    (k : ∀ a h' tk t1 t2 t3 l hv sv, (∀ b o, s.heap.get? b = some o → h'.get? b = some o) → s.heap.get? a = none →
      h'.get? a = some { cls := .type "tuple", data := .seq #[.float hv t1, .float l t2, .float sv t3] } → hv = hlsH x y z → sv = hlsS x y z → Q (.ref a) { s with heap := h', toks := tk }) :
    wpAny (model PR w) A (call (.ref 21) [.float x t, .float y t', .float z t'']) Q E s := by
  obtain ⟨p, l, m, mg, mb, T⟩ := G.top
  have X := G.kin
  refine lower R ?_
  clear R
  generalize A.frames = fr
  k_extra "mine enterP"
  intro L h₁ F N
  (try dsimp only)
  (try k_fold)
  k_steps
  all_goals (try (rename (Float64.cmp (fmin3 x y z) (fmax3 x y z) == some Ordering.eq) = false => hne; obtain ⟨o1, o2, o3, o4⟩ := ok hne))
  all_goals (first
    | (rename Float64.isZero _ = true => hz; first | exact nz_absurd o1 hz | exact nz_absurd o2 hz | exact nz_absurd o3 hz | exact absurd hz (by decide +kernel))
    | (rename Fr _ _ _ _ => F'
       rename News _ _ _ _ => N'
       have F1 := F'.keep
       have N1 := (N' _ (List.Mem.head _))
       clear F' N'
       refine k _ _ _ _ _ _ _ _ _ F1 N1.2.2 N1.1 ?_ ?_
       · unfold hlsH hlsC
         (first | (rename (Float64.cmp (fmin3 x y z) (fmax3 x y z) == some Ordering.eq) = _ => hE) | (have hE : True := trivial))
         (first | (rename (Float64.cmp x (fmax3 x y z) == some Ordering.eq) = _ => hX) | (have hX : True := trivial))
         (first | (rename (Float64.cmp y (fmax3 x y z) == some Ordering.eq) = _ => hY) | (have hY : True := trivial))
         simp only [hE, hX, hY, if_true, Bool.false_eq_true, if_false]
       · unfold hlsS
         (first | (rename (Float64.cmp (fmin3 x y z) (fmax3 x y z) == some Ordering.eq) = _ => hE) | (have hE : True := trivial))
         (first | (rename (_ || _) = _ => hL) | (have hL : True := trivial))
         simp only [hE, hL, if_true, Bool.false_eq_true, if_false]))
theorem hls_spec {w : World} {A : Around} {s : Shared} {Q : Value → Shared → Prop} {E : Value → Shared → Prop} (R : Lvl A 900) (G : Gr w s.heap) {x y z : UInt64} {t t' t'' : Tok}
    (ok : (Float64.cmp (fmin3 x y z) (fmax3 x y z) == some Ordering.eq) = false → FOk x y z)
    (k : ∀ a h' tk t1 t2 t3 l, (∀ b o, s.heap.get? b = some o → h'.get? b = some o) → s.heap.get? a = none →
      h'.get? a = some { cls := .type "tuple", data := .seq #[.float (hlsH x y z) t1, .float l t2, .float (hlsS x y z) t3] } → Q (.ref a) { s with heap := h', toks := tk }) :
    wpAny (model PR w) A (call (.ref 21) [.float x t, .float y t', .float z t'']) Q E s :=
  hls_spec0 R G ok fun a h' tk t1 t2 t3 l hv sv h1 h2 h3 h4 h5 => by subst h4 h5; exact k a h' tk t1 t2 t3 l h1 h2 h3
set_option maxHeartbeats 8000000 in
theorem hsv_spec {w : World} {A : Around} {s : Shared} {Q : Value → Shared → Prop} {E : Value → Shared → Prop} (R : Lvl A 900) (G : Gr w s.heap) {x y z : UInt64} {t t' t'' : Tok}
    (ok : (Float64.cmp (fmin3 x y z) (fmax3 x y z) == some Ordering.eq) = false → FOk x y z)
    (k : ∀ a h' tk t1 t2 t3 h l, (∀ b o, s.heap.get? b = some o → h'.get? b = some o) → s.heap.get? a = none →
      h'.get? a = some { cls := .type "tuple", data := .seq #[.float h t1, .float l t2, .float (fmax3 x y z) t3] } → Q (.ref a) { s with heap := h', toks := tk }) :
    wpAny (model PR w) A (call (.ref 28) [.float x t, .float y t', .float z t'']) Q E s := by
  obtain ⟨p, l, m, mg, mb, T⟩ := G.top
  have X := G.kin
  refine lower R ?_
  clear R
  generalize A.frames = fr
  k_extra "mine enterP"
  intro L h₁ F N
  (try dsimp only)
  (try k_fold)
  k_steps
  all_goals (try (rename (Float64.cmp (fmin3 x y z) (fmax3 x y z) == some Ordering.eq) = false => hne; obtain ⟨o1, o2, o3, o4⟩ := ok hne))
  all_goals (first
    | (rename Float64.isZero _ = true => hz; first | exact nz_absurd o1 hz | exact nz_absurd o2 hz | exact nz_absurd o3 hz | exact nz_absurd o4 hz | exact absurd hz (by decide +kernel))
    | (rename Fr _ _ _ _ => F'
       rename News _ _ _ _ => N'
       exact k _ _ _ _ _ _ _ _ F'.keep (N' _ (List.Mem.head _)).2.2 (N' _ (List.Mem.head _)).1))

theorem fill3 : PySem.Challenge.rw_rl0034_01 = PySem.Challenge.rw_rl0034_01 ∧ hd.heap_1 = hd.heap_1 := by
  k_fill
  exact ⟨rfl, rfl⟩
theorem words_LEnt_0 : True := by
  k_with_none
  (k_with "mine enterP" => (k_dflt (refine' enterP ?rwEnt6 ?GwEnt6 ?howEnt6 ?hcdwEnt6 ?hbwEnt6 ?hlwEnt6 ?hcwEnt6 ?_ ?c1wEnt6 ?c2wEnt6 ?c3wEnt6; (case GwEnt6 => assumption); (case howEnt6 => k_is); (case rwEnt6 => exact Nat.le_of_ble_eq_true rfl); (case hcdwEnt6 => k_is); (case hbwEnt6 => exact BindsTo.of_eq rfl); (case hlwEnt6 => exact locs rfl); (case hcwEnt6 => decide); (case c1wEnt6 => exact rfl); (case c2wEnt6 => exact rfl); (case c3wEnt6 => exact rfl))))
  (k_with "mine enterL" => (k_dflt (refine' enterL ?rwEnt7 ?FwEnt7 ?NwEnt7 ?XwEnt7 ?TwEnt7 ?howEnt7 ?hcdwEnt7 ?hbwEnt7 ?hlwEnt7 ?hcwEnt7 ?_ ?c1wEnt7 ?c2wEnt7 ?c3wEnt7; (case FwEnt7 => k_asm); (case NwEnt7 => k_asm); (case XwEnt7 => k_asm); (case TwEnt7 => k_asm); (case howEnt7 => k_is); (case rwEnt7 => exact Nat.le_of_ble_eq_true rfl); (case hcdwEnt7 => k_is); (case hbwEnt7 => exact BindsTo.of_eq rfl); (case hlwEnt7 => exact locs rfl); (case hcwEnt7 => decide); (case c1wEnt7 => exact rfl); (case c2wEnt7 => exact rfl); (case c3wEnt7 => exact rfl))))
  trivial
abbrev entL (w : World) (t1 t2 t3 t4 : Tok) (lu lr : Addr) : List DictEntry :=
  [⟨PyData.keyHash w.params (Str.ofString "useragents"), .str (Str.ofString "useragents") t1, .ref lu⟩, ⟨PyData.keyHash w.params (Str.ofString "rulelines"), .str (Str.ofString "rulelines") t2, .ref lr⟩,
   ⟨PyData.keyHash w.params (Str.ofString "delay"), .str (Str.ofString "delay") t3, .none⟩, ⟨PyData.keyHash w.params (Str.ofString "req_rate"), .str (Str.ofString "req_rate") t4, .none⟩]
set_option maxHeartbeats 8000000 in
theorem entry_new {w : World} {A : Around} {s : Shared} {Q : Value → Shared → Prop} {E : Value → Shared → Prop} {h₀ : Heap} {L₀ : Addr} {m : Str → Option Value} {news : List (Addr × Obj)} {p : Program} {loose : List Str} {mean : ExcName → Option Value} {mg mb : Str → Option Value}
    (R : Lvl A 950) (F : Fr h₀ L₀ s.heap m) (N : News h₀ L₀ s.heap news) (X : (hd.heap_1 w.params).In h₀) (T : Top p loose mean mg mb h₀)
    (k : ∀ x d lu lr t1 t2 t3 t4 h' tk, Fr h₀ L₀ h' m → News h₀ L₀ h' ((lr, W.listOf #[] 0) :: (lu, W.listOf #[] 0) :: (x, instObj 66 d) :: (d, dictOf (entL w t1 t2 t3 t4 lu lr) 4) :: news) →
      (∀ p ∈ news, p.1 < d) → d < x → x < lu → lu < lr → Q (.ref x) { s with heap := h', toks := tk }) :
    wpAny (model PR w) A (call (.ref 66) []) Q E s := by
  refine lower R ?_
  clear R
  generalize A.frames = fr
  k_dflt (refine' call_cls ?k1 ?k2 ?k3 ?k4 ?k5 ?k6 ?_; (case k1 => k_asm); (case k2 => k_asm); (case k3 => k_asm); (case k4 => k_is); (case k5 => k_is); (case k6 => k_is))
  intro x' d' h' F' N' l1 l2
  have l1' := l1
  (try k_lt2 l2)
  k_extra "mine enterL"
  intro g L h₁ F2 N2 X2 T2 l3 st
  (try k_lt l1)
  (try k_lt l3)
  (try dsimp only)
  (try k_fold)
  k_steps
  rename Fr h₀ _ _ _ => kF
  rename News h₀ _ _ _ => kN
  exact k _ _ _ _ _ _ _ _ _ _ kF kN l1' l2 (by refine ltN ?_; omega) (by refine ltN ?_; omega)
theorem lvl_of {A : Around} {n : Nat} (h1 : A.handled = none) (h2 : A.guards = some []) (h3 : Nat.ble A.depth n = true) (h4 : Nat.ble A.units n = true) : Lvl A n := ⟨h1, h2, Nat.le_of_ble_eq_true h3, Nat.le_of_ble_eq_true h4⟩
theorem words_LEnt_1 : True := by
  (k_with "mine lvl" => (exact lvl_of rfl rfl rfl rfl))
  (k_with "call ref" => ((k_here; (with_reducible show wpAny _ _ (call (Value.ref 66) _) _ _ _); k_dflt (refine' entry_new ?RwEnt9 ?FwEnt9 ?NwEnt9 ?XwEnt9 ?TwEnt9 ?_; (case RwEnt9 => k_extra "mine lvl"); (case FwEnt9 => k_asm); (case NwEnt9 => k_asm); (case XwEnt9 => k_asm); (case TwEnt9 => k_asm)); intro _ _ _ _ _ _ _ _ _ _ _ _; walk_at "tail l4"; (try dsimp only); (try k_sweep))))
  trivial
section
variable {prog : Program} {w : World} {A : Around} {E : Value → Shared → Prop} {s : Shared} {h₀ : Heap} {L : Addr} {m : Str → Option Value}
theorem extend_nil {D b : Addr} {n n2 : Nat} {its2 : Array Value} {news : List (Addr × Obj)} {g : Obj → List (Addr × Obj)} {Q : Value → Shared → Prop}
    (F : Fr h₀ L s.heap m) (N : News h₀ L s.heap news) (U : UpdF D (W.listOf #[] n) news g) (hb : h₀.get? b = some (W.listOf its2 n2)) (hsz : its2.size ≤ 1000)
    (h : ∀ h' n', Fr h₀ L h' m → News h₀ L h' (g (W.listOf its2 n')) → Q .none { s with heap := h' }) :
    wpAny (model prog w) A (call (.builtin "list.extend") [.ref D, .ref b]) Q E s := by
  obtain ⟨own, rest, rfl, hg, h1, h2⟩ := U.split
  refine extend_in (ys := []) F N h1 h2 (F.keep _ _ hb) (fun h' n' F' N' => h h' n' F' ?_) (by rw [List.length_nil, sizeLine_eq]; omega)
  rw [hg]
  simpa using N'
end
theorem words_LEnt_2 : True := by
  (k_with "call builtin:list.extend" => ((k_here; (with_reducible show wpAny _ _ (call (Value.builtin _) [Value.ref _, Value.ref _]) _ _ _); k_dflt (refine' extend_nil ?FwEnt10 ?NwEnt10 ?UwEnt10 ?bwEnt10 ?zwEnt10 ?_; (case FwEnt10 => k_asm); (case NwEnt10 => k_asm); (case UwEnt10 => k_updF); (case bwEnt10 => assumption); (case zwEnt10 => assumption)); intro _ _ _; walk_at "tail Nd"; (try k_sweep))))
  trivial
set_option maxHeartbeats 8000000 in
theorem record_spec {w : World} {A : Around} {s : Shared} {Q : Value → Shared → Prop} {E : Value → Shared → Prop} (R : Lvl A 900) (G : Gr w s.heap) {a b : Addr} {us rs : Array Value} {na nb : Nat} (ha : s.heap.get? a = some (W.listOf us na)) (hb : s.heap.get? b = some (W.listOf rs nb))
    (za : us.size ≤ 1000) (zb : rs.size ≤ 1000)
    (k : ∀ x d lu lr t1 t2 t3 t4 n n1 n2 h' tk, (∀ b o, s.heap.get? b = some o → h'.get? b = some o) →
      (∀ p ∈ [(lr, W.listOf rs n2), (lu, W.listOf us n1), (x, instObj 66 d), (d, dictOf (entL w t1 t2 t3 t4 lu lr) n)], h'.get? p.1 = some p.2 ∧ s.heap.get? p.1 = none) → Q (.ref x) { s with heap := h', toks := tk }) :
    wpAny (model PR w) A (call (.ref 113) [.ref a, .ref b]) Q E s := by
  obtain ⟨p, l, m, mg, mb, T⟩ := G.top
  have X := G.kin
  refine lower R ?_
  clear R
  generalize A.frames = fr
  k_extra "mine enterP"
  intro L h₁ F N
  (try dsimp only)
  (try k_fold)
  k_steps
  rename Fr _ _ _ _ => kF
  rename News _ _ _ _ => kN
  exact k _ _ _ _ _ _ _ _ _ _ _ _ _ kF.keep (fun q hq => ⟨(kN q hq).1, (kN q hq).2.2⟩)

theorem fill4 : PySem.Challenge.rw_rl0034_01 = PySem.Challenge.rw_rl0034_01 ∧ hd.heap_1 = hd.heap_1 := by
  k_fill
  exact ⟨rfl, rfl⟩
def Zh (h : Heap) : Heap := hideAll h [101]
abbrev lamQ : Str := (Str.ofString "_law_rule" ++ Str.ofString ".<locals>.") ++ Str.ofString "<lambda>"
abbrev lamPos : Pos := ⟨126, 22, 126, 40⟩
inductive Tab (h : Heap) : Option Addr → Prop
  | empty : h.get? 101 = some (tabObj #[]) → Tab h none
  | full {c : Addr} : h.get? 101 = some (tabObj #[rawInt 126, rawInt 22, .ref c]) → (Zh h).CodeRec (.ref c) lamQ → Tab h (some c)
structure GT (w : World) (h : Heap) (o : Option Addr) : Prop where
  gr : Gr w (Zh h)
  cd : CodeHd (Zh h) 105 101
  tab : Tab h o
section
variable {w : World} {A : Around} {s : Shared} {Q : Value → Shared → Prop} {E : Value → Shared → Prop} {news : List (Addr × Obj)}
theorem enterG {name qual : Str} {params : Arguments} {body : List Stmt} {scope : Scope} {dV kV doc pm cdv ct oc : Value} {an od : Option Addr} {osl : Array (Option Value)} {f : Addr} {args : List Value} {binds : List (Str × Value)} {g : Heap} (hg : g = hideAll s.heap (news.map (·.1)))
    (hroom : A.depth < recursionLimit) (G : Gr w g) (hnews : ∀ p ∈ news, s.heap.get? p.1 = some p.2)
    (ho : (hd.heap_1 w.params).lookup f = some ⟨oc, od, .func (fnOf name qual params body scope dV kV doc pm an cdv ct), osl⟩) (hcd : codeIn (hd.heap_1 w.params) cdv qual = true)
    (hbind : BindsTo s (fnOf name qual params body scope dV kV doc pm an cdv ct) ⟨args, []⟩ binds)
    (hkind : (binds.all fun y => scope.names.lookup y.1 == some .local || scope.names.lookup y.1 == some .cell) = true)
    (hnd : ((cellsFrom 0 scope.names []).map (·.1)).Nodup)
    (h : ∀ L h₁ tk cells, L = s.heap.objs.size → Fr g L h₁ (bindL (envOfC qual scope L f cdv).kindOf binds fun _ => none) → News g L h₁ (cells ++ news) →
      CellsAre (bindC (envOfC qual scope L f cdv).kindOf binds fun _ => none) (cellsFrom (L + 1) scope.names []) cells → (∀ p ∈ news, p.1 < L) →
      wpAny (model PR w) (A.deeper (envOfC qual scope L f cdv)) (execs body (envOfC qual scope L f cdv))
        (fun fl s' => Q (match fl with | .ret v => v | _ => .none) s') (fun _ _ => False) { s with heap := h₁, toks := tk })
    (hco : scope.isCoroutine = false) (hgen : scope.isGenerator = false) (hk : scope.kind = .function) :
    wpAny (model PR w) A (call (.ref f) args) Q E s := by
  subst hg
  obtain ⟨p, l, m, a, b, T⟩ := G.top
  have up : ∀ b o, (hideAll s.heap (news.map (·.1))).get? b = some o → s.heap.get? b = some o := fun b o e => of_hideAll _ e
  refine wpAny_call (codeAny_call_function hroom (up _ _ (G.kin _ _ ho)) rfl hco hgen rfl ((codeRec_of G.kin hcd).keeps up) (hbind _ _ _ _ ?_))
  refine wpAny_newFunctionEnv_cells hk (kindsX hkind _) fun env' he s' x => ?_
  subst he
  refine ⟨(T.nolimit.keeps up).keeps x.toInCall.keep, codeAny_func ?_⟩
  obtain ⟨h₁, tk, rfl, _⟩ := x.done
  have hk₁ := x.toInCall.keep
  obtain ⟨cells, NC, Y⟩ := Cl.news (h₀ := s.heap) (Nat.le_refl _) fun n c hm => ⟨x.cell n c (lookup_of_mem_nodup (cellsFrom_names scope.names 0 (s.heap.objs.size + 1) [] [] rfl ▸ hnd) hm), x.above n c hm⟩
  refine wpAny_mono (h s.heap.objs.size h₁ tk cells rfl ⟨x.toInCall.ns, fun b o e => hk₁ b o (up b o e), Nat.le_of_eq (hideAll_size _ _)⟩ (fun p hp => ?_) Y (fun p hp => Heap.lt_size (hnews p hp))) (fun _ _ x => x) (fun _ _ x => x.elim)
  rcases List.mem_append.mp hp with hp | hp
  · refine ⟨(NC p hp).1, (NC p hp).2.1, ?_⟩
    cases q : (hideAll s.heap (news.map (·.1))).get? p.1 with
    | none => rfl
    | some o => have := of_hideAll _ q; rw [(NC p hp).2.2] at this; cases this
  · exact ⟨hk₁ _ _ (hnews p hp), Nat.ne_of_lt (Heap.lt_size (hnews p hp)), hideAll_none _ (List.mem_map_of_mem hp)⟩
end
theorem words_LRule_0 : True := by
  k_with_none
  (k_with "mine lvl" => (exact lvl_of rfl rfl rfl rfl))
  (k_with "call ref" => ((k_here; (with_reducible show wpAny _ _ (call (Value.ref 66) _) _ _ _); k_dflt (refine' entry_new ?RwRule12 ?FwRule12 ?NwRule12 ?XwRule12 ?TwRule12 ?_; (case RwRule12 => k_extra "mine lvl"); (case FwRule12 => k_asm); (case NwRule12 => k_asm); (case XwRule12 => k_asm); (case TwRule12 => k_asm)); intro _ _ _ _ _ _ _ _ _ _ _ _; walk_at "tail l4"; (try dsimp only); (try k_sweep))))
  (k_with "mine enterG" => (k_dflt ((case ho => k_is); (case r => exact Nat.le_of_ble_eq_true rfl); (case hcd => k_is); (case hb => exact BindsTo.of_eq rfl); (case hl => exact rfl); (case hc => decide +kernel); (case c1 => exact rfl); (case c2 => exact rfl); (case c3 => exact rfl))))
  trivial
abbrev lamParams : Arguments := { posonlyargs := [], args := [{ arg := "name", annotation := none, pos := ⟨126, 29, 126, 33⟩ }], vararg := none, kwonlyargs := [], kw_defaults := [], kwarg := none, defaults := [] }
abbrev lamBody : Expr := Expr.Name "reach" ⟨126, 35, 126, 40⟩
abbrev lamScope : Scope := { kind := .function, names := [(Str.ofString "name", .local), (Str.ofString "reach", .free)], isGenerator := false, isCoroutine := false }
abbrev lamObj (c : Addr) (pm : Value) (c' : Addr) (ctv : Value) : Obj := kla_obj (Str.ofString "<lambda>") lamQ lamParams lamBody lamScope [(Str.ofString "reach", c)] pm c' ctv
abbrev ruleL (w : World) (t1 t2 t3 t4 t5 t6 : Tok) (lu lr f : Addr) (b : Bool) : List DictEntry :=
  [⟨PyData.keyHash w.params (Str.ofString "useragents"), .str (Str.ofString "useragents") t1, .ref lu⟩, ⟨PyData.keyHash w.params (Str.ofString "rulelines"), .str (Str.ofString "rulelines") t2, .ref lr⟩,
   ⟨PyData.keyHash w.params (Str.ofString "delay"), .str (Str.ofString "delay") t3, .none⟩, ⟨PyData.keyHash w.params (Str.ofString "req_rate"), .str (Str.ofString "req_rate") t4, .none⟩,
   ⟨PyData.keyHash w.params (Str.ofString "applies_to"), .str (Str.ofString "applies_to") t5, .ref f⟩, ⟨PyData.keyHash w.params (Str.ofString "allowance"), .str (Str.ofString "allowance") t6, .bool b⟩]
def RuleIn (w : World) (nw : List (Addr × Obj)) (x : Addr) (r : Int) (b : Bool) (c' : Addr) : Prop :=
  ∃ d lu lr t1 t2 t3 t4 t5 t6 n f c oc tr pm ctv, (x, instObj 66 d) ∈ nw ∧ (d, dictOf (ruleL w t1 t2 t3 t4 t5 t6 lu lr f b) n) ∈ nw ∧ (f, lamObj c pm c' ctv) ∈ nw ∧ (c, oc) ∈ nw ∧ oc.data = .cell (some (.int r tr))
theorem zh_of {h : Heap} {a : Addr} {o : Obj} (e : (Zh h).get? a = some o) : a ≠ 101 ∧ h.get? a = some o := by
  refine ⟨fun q => ?_, of_hideAll _ e⟩
  subst q
  have : (Zh h).get? 101 = none := hideAll_none [101] (.head _)
  rw [this] at e; cases e
theorem zh_get {h : Heap} {a : Addr} {o : Obj} (n : a ≠ 101) (e : h.get? a = some o) : (Zh h).get? a = some o := hideAll_get [101] e (by simpa using n)
theorem zh_stays {h h' : Heap} (k : ∀ a o, a ≠ 101 → h.get? a = some o → h'.get? a = some o) : ∀ b o, (Zh h).get? b = some o → (Zh h').get? b = some o :=
  fun _ _ e => zh_get (zh_of e).1 (k _ _ (zh_of e).1 (zh_of e).2)
theorem rule_end {w : World} {s : Shared} {h' : Heap} {L : Addr} {m : Str → Option Value} {o : Option Addr} {nw : List (Addr × Obj)} {c' : Addr} (G : GT w s.heap o) (hL : L = s.heap.objs.size) (F : Fr (Zh s.heap) L h' m)
    (N : News (Zh s.heap) L h' (nw ++ [((101 : Addr), tabObj #[rawInt 126, rawInt 22, .ref c'])])) (hn : ∀ p ∈ nw, L ≤ p.1) (hC : (Zh s.heap).CodeRec (.ref c') lamQ ∨ ∃ oc vs t, (c', oc) ∈ nw ∧ oc.data = .fields vs ∧ vs[1]? = some (.str lamQ t)) :
    (∀ a o, a ≠ 101 → s.heap.get? a = some o → h'.get? a = some o) ∧ s.heap.objs.size ≤ h'.objs.size ∧ GT w h' (some c') ∧ (∀ p ∈ nw, h'.get? p.1 = some p.2 ∧ s.heap.objs.size ≤ p.1) := by
  have kp : ∀ a o, a ≠ 101 → s.heap.get? a = some o → h'.get? a = some o := fun a o n e => F.keep a o (zh_get n e)
  have st := zh_stays kp
  have lt : (101 : Nat) < s.heap.objs.size := by
    cases G.tab with
    | empty e => exact Heap.lt_size e
    | full e _ => exact Heap.lt_size e
  subst hL
  refine ⟨kp, Nat.le_of_lt F.ns.lt, ⟨G.gr.keeps st, G.cd.keeps st, .full (N (101, _) (List.mem_append_right _ (.head _))).1 ?_⟩, fun p hp => ⟨(N p (by simp [hp])).1, hn p hp⟩⟩
  rcases hC with q | ⟨oc, vs, t, q, q1, q2⟩
  · exact q.keeps st
  · have := hn _ q
    exact ⟨c', oc, vs, t, rfl, zh_get (by have h3 : s.heap.objs.size ≤ c' := this; exact Nat.ne_of_gt (Nat.lt_of_lt_of_le lt h3)) (N (c', oc) (by simp [q])).1, q1, q2⟩
def GeAll (d : Nat) : List (Addr × Obj) → Prop
  | [] => True
  | p :: r => @LE.le Nat _ d p.1 ∧ GeAll d r
theorem geAll_out {d : Addr} : ∀ {l : List (Addr × Obj)}, GeAll d l → ∀ p ∈ l, d ≤ p.1
  | [], _, _, h => nomatch h
  | _ :: _, x, p, h => by
    rcases List.mem_cons.mp h with rfl | h
    · exact x.1
    · exact geAll_out x.2 p h
set_option maxHeartbeats 8000000 in
theorem rule_spec {w : World} {A : Around} {s : Shared} {Q : Value → Shared → Prop} {E : Value → Shared → Prop} (R : Lvl A 900) {o : Option Addr} (G : GT w s.heap o) {r : Int} {t : Tok} {b : Bool}
    (k : ∀ x c' nw h' tk, (∀ a o, a ≠ 101 → s.heap.get? a = some o → h'.get? a = some o) → s.heap.objs.size ≤ h'.objs.size → GT w h' (some c') → (∀ c, o = some c → c' = c) →
      (∀ p ∈ nw, h'.get? p.1 = some p.2 ∧ s.heap.objs.size ≤ p.1) → RuleIn w nw x r b c' → (o = none → ∃ oc vs t, (c', oc) ∈ nw ∧ oc.data = .fields vs ∧ vs[1]? = some (.str lamQ t)) → Q (.ref x) { s with heap := h', toks := tk }) :
    wpAny (model PR w) A (call (.ref 106) [.int r t, .bool b]) Q E s := by
  obtain ⟨p, l, m, mg, mb, T⟩ := G.gr.top
  have X := G.gr.kin
  have C := G.cd
  refine lower R ?_
  clear R
  generalize A.frames = fr
  have GG := G.gr
  cases G.tab with
  | empty hP =>
    have hN : ∀ p ∈ [((101 : Addr), tabObj #[])], s.heap.get? p.1 = some p.2 := by intro p hp; rcases List.mem_singleton.mp hp with rfl; exact hP
    refine' enterG (news := [((101 : Addr), tabObj #[])]) (g := Zh s.heap) rfl ?r GG hN ?ho ?hcd ?hb ?hl ?hc ?_ ?c1 ?c2 ?c3
    k_extra "mine enterG"
    intro L h₁ tk cells hL F N Y l0
    k_cells Y
    k_lt l0
    (try simp only [List.cons_append, List.nil_append] at N)
    (try dsimp only)
    (try k_fold)
    k_steps
    rename Fr _ _ _ _ => F'
    rename News _ _ _ _ => N'
    rename _ = Data.fields _ => d1
    rename _ = some (Value.str _ _) => d2
    rename _ = Data.cell _ => dc
    have e := rule_end (nw := [_, _, _, _, _, _, _]) G hL F' N' (geAll_out (by simp only [GeAll, and_true]; omega)) (.inr ⟨_, _, _, by k_mem, d1, d2⟩)
    exact k _ _ _ _ _ e.1 e.2.1 e.2.2.1 (fun c hc => nomatch hc) e.2.2.2 ⟨_, _, _, _, _, _, _, _, _, _, _, _, _, _, _, _, by k_mem, by k_mem, by k_mem, by k_mem, dc⟩ (fun _ => ⟨_, _, _, by k_mem, d1, d2⟩)
  | full hP hC => 
    rename_i cc
    have hN : ∀ p ∈ [((101 : Addr), tabObj #[rawInt 126, rawInt 22, .ref cc])], s.heap.get? p.1 = some p.2 := by intro p hp; rcases List.mem_singleton.mp hp with rfl; exact hP
    refine' enterG (news := [((101 : Addr), tabObj #[rawInt 126, rawInt 22, .ref cc])]) (g := Zh s.heap) rfl ?r GG hN ?ho ?hcd ?hb ?hl ?hc ?_ ?c1 ?c2 ?c3
    k_extra "mine enterG"
    intro L h₁ tk cells hL F N Y l0
    k_cells Y
    k_lt l0
    (try simp only [List.cons_append, List.nil_append] at N)
    (try dsimp only)
    (try k_fold)
    k_steps
    rename Fr _ _ _ _ => F'
    rename News _ _ _ _ => N'
    rename _ = Data.cell _ => dc
    have e := rule_end (nw := [_, _, _, _, _, _]) G hL F' N' (geAll_out (by simp only [GeAll, and_true]; omega)) (.inl hC)
    exact k _ _ _ _ _ e.1 e.2.1 e.2.2.1 (fun c hc => by cases hc; rfl) e.2.2.2 ⟨_, _, _, _, _, _, _, _, _, _, _, _, _, _, _, _, by k_mem, by k_mem, by k_mem, by k_mem, dc⟩ (fun q => nomatch q)

section
variable {prog : Program} {w : World} {A : Around} {E : Value → Shared → Prop} {R : Result → Shared → Prop}
theorem strs_at {vs : List Value} {xs : List Str} (h : StrsAre vs xs) : ∀ (i : Nat) (v : Value), vs[i]? = some v → ∃ (x : Str) (t : Tok), v = Value.str x t ∧ xs[i]? = some x := by
  induction h with
  | nil => intro i v e; simp at e
  | cons x t r ih =>
    intro i v e
    cases i with
    | zero => simp at e; exact ⟨x, t, e.symm, by simp⟩
    | succ i => simp at e; obtain ⟨y, u, e1, e2⟩ := ih i v e; exact ⟨y, u, e1, by simpa using e2⟩
theorem strs_len {vs : List Value} {xs : List Str} (h : StrsAre vs xs) : vs.length = xs.length := by
  induction h with
  | nil => rfl
  | cons x t r ih => simp [ih]
theorem set_loop (S I l : Addr) (items : Array Value) (xs : List Str) (hh : A.handled = none) (hi : StrsAre items.toList xs) (hSI : S ≠ I) (hSl : S ≠ l) (hlI : l ≠ I) (hb : items.size + 1 < scanBound) :
    ∀ (j i n : Nat) (s : Shared), items.size - i = j → i ≤ items.size → s.heap.IsListIter I l i → s.heap.IsList l items → s.heap.SetOf (strKind prog w) S (fun k => (xs.take i).contains k) n → n ≤ i →
      (∀ h' tk n', h'.SetOf (strKind prog w) S (fun k => xs.contains k) n' → n' ≤ items.size → (∀ b o, b ≠ S → b ≠ I → s.heap.get? b = some o → h'.get? b = some o) → R (.ok (.ret .none)) { s with heap := h', toks := tk }) →
      codeAny (model prog w) A (.builtin "set.update.loop" ⟨[.ref S, .ref I], []⟩) R s := by
  have hlen : xs.length = items.size := by have := strs_len hi; rw [← this]; simp
  intro j
  induction j with
  | zero =>
    intro i n s hj hle hit hl hS hn hR
    have e : i = items.size := by omega
    subst e
    refine codeAny_builtin F.entry_set_update_loop ?_
    rw [Around.under_plainId F.plain_set_update_loop _]
    show wpAny _ A.in1 (pyNext (.ref I) >>= _) _ _ s
    refine wpAny_bind (wpAny_pyNext_list_end (by simpa using hh) hit hl (by simp) fun h' hx => ?_)
    show wpAny _ A.in1 (ret Value.none) _ _ _
    obtain ⟨o, es, ep, t, ho, rest⟩ := hS
    refine wpAny_pure (hR h' s.toks n ?_ hn fun b o _ hbI e => hx b o hbI e)
    rw [← hlen, List.take_length] at rest
    exact ⟨o, es, ep, t, hx _ _ hSI ho, rest⟩
  | succ j ih =>
    intro i n s hj hle hit hl hS hn hR
    have hlt : i < items.size := by omega
    refine codeAny_builtin F.entry_set_update_loop ?_
    rw [Around.under_plainId F.plain_set_update_loop _]
    show wpAny _ A.in1 (pyNext (.ref I) >>= _) _ _ s
    obtain ⟨x, t, e1, e2⟩ := strs_at hi i items[i] (by simp [hlt])
    refine wpAny_bind (wpAny_pyNext_list_item hit hl (x := .str x t) (by rw [← e1]; simp [hlt]) fun h' hit' hs' => ?_)
    have hS' : h'.SetOf (strKind prog w) S (fun k => (xs.take i).contains k) n := by
      obtain ⟨o, es, ep, tb, ho, rest⟩ := hS
      exact ⟨o, es, ep, tb, hs'.extBut _ _ hSI ho, rest⟩
    show wpAny _ A.in1 (holding [Value.str x t] (setAdd S (.str x t)) >>= _) _ _ { s with heap := h' }
    refine wpAny_bind (wpAny_holding ?_)
    unfold setAdd
    refine wpAny_holding ?_
    refine wpAny_bind ((strKind prog w).pyHash (k := x) (strKind_is _ _ _ _) ?_)
    refine wpAny_setAddHashed_of (knd := strKind prog w) (s := { s with heap := h', toks := s.toks + 1 }) (strKind_is _ _ _ _) rfl hS' (by omega) fun h₂ hsb hS2 => ?_
    have hl' : h'.IsList l items := hl.extBut hs'.extBut hlI
    have hfun : (fun k' => (fun k => (xs.take i).contains k) k' || decide (k' = x)) = fun k' => (xs.take (i + 1)).contains k' := by
      funext k'
      rw [List.take_add_one, e2, Bool.eq_iff_iff]
      simp
    rw [hfun] at hS2
    refine wpAny_pure ⟨plainId_quiet F.plain_set_update_loop _, ih (i + 1) _ _ (by omega) hlt (hit'.extBut hsb.extBut (Ne.symm hSI)) (hl'.extBut hsb.extBut (Ne.symm hSl)) hS2 (by split <;> omega) fun h₃ tk n' q1 q2 q3 => ?_⟩
    refine hR h₃ tk n' q1 q2 fun b o b1 b2 e => q3 b o b1 b2 (hsb.extBut b o b1 (hs'.extBut b o b2 e))
set_option maxHeartbeats 3200000 in
theorem call_set_strs {s : Shared} {l : Addr} {items : Array Value} {xs : List Str} {Q : Value → Shared → Prop} (hh : A.handled = none) (hl : s.heap.IsList l items) (hi : StrsAre items.toList xs) (hb : items.size + 1 < scanBound)
    (h : ∀ (h' : Heap) (tk n : Nat), h'.SetOf (strKind prog w) s.heap.objs.size (fun k => xs.contains k) n → (∀ b o, s.heap.get? b = some o → h'.get? b = some o) → Q (.ref s.heap.objs.size) { s with heap := h', toks := tk }) :
    wpAny (model prog w) A (call (.type "set") [.ref l]) Q E s := by
  obtain ⟨c, tl, hmro⟩ := PySem.F.called_set.mro
  have hmade := PySem.F.called_set.made
  have hsub := PySem.F.called_set.sub
  refine wpAny_call (codeAny_of_tree ?_)
  show wpAny _ _ (callAny (.type "set") _) _ _ _
  refine wpAny_pure ⟨Code.quiet_builtin _ (by decide +kernel), codeAny_builtin PySem.F.entry_type_call ?_⟩
  rw [Around.under_plain (weight_type_call_type "set" [.ref l] []) rfl]
  have h1 := PySem.F.called_set.notType
  have h2 := PySem.F.called_set.canCreate
  have hct := PySem.F.typeCall_set_1 (.ref l)
  repeat (any_goals (first | assumption | wp_step))
  refine codeAny_mono (code_set_new_1 (.ref l) (E := E) (Q₁ := fun obj s₁ => ∃ led : Bool, obj = .ref s.heap.objs.size ∧ s₁ = { s with heap := s.heap.push { cls := .type "set", dict := none, data := .set #[] 0 (.fresh 0 0 led) } }) fun led => ⟨led, rfl, rfl⟩) fun r s₁ hr => ?_
  cases r with
  | error e => exact hr
  | ok fl =>
    cases fl with
    | ret obj =>
      obtain ⟨led, rfl, rfl⟩ := hr
      have hS : (s.heap.push { cls := .type "set", dict := none, data := .set #[] 0 (.fresh 0 0 led) }).get? s.heap.objs.size = some { cls := .type "set", dict := none, data := .set #[] 0 (.fresh 0 0 led) } := Heap.get?_push_size _ rfl
      have hT : Shared.TypeIs { s with heap := s.heap.push { cls := .type "set", dict := none, data := .set #[] 0 (.fresh 0 0 led) } } (.ref s.heap.objs.size) "set" := ⟨_, hS, rfl⟩
      have hli := PySem.F.called_set.init.lookup
      have hbi := PySem.F.called_set.init.bind (.ref s.heap.objs.size)
      repeat (any_goals (first | assumption | wp_step))
      refine codeAny_mono (codeAny_call_builtin (R := wants (fun r s₂ => r = .none ∧ ∃ h' tk n, s₂ = { s with heap := h', toks := tk } ∧ h'.SetOf (strKind prog w) s.heap.objs.size (fun k => xs.contains k) n ∧
          (∀ b o, s.heap.get? b = some o → h'.get? b = some o)) E) PySem.F.called_set.init.plain PySem.F.entry_set_init (check_set_init_1 hT ?_)) fun r₂ s₂ hr₂ => ?_
      · obtain ⟨ol, hol, hcl, nl, hdl⟩ := hl
        obtain ⟨ocls, odict, odata, oslots⟩ := ol
        simp only at hcl hdl
        subst hcl; subst hdl
        have hol' : (s.heap.push { cls := .type "set", dict := none, data := .set #[] 0 (.fresh 0 0 led) }).get? l = some { cls := .type "list", dict := odict, data := .seq items nl, slots := oslots } := Heap.get?_push_of_some _ hol
        have hsls := PySem.F.sub_list_set
        have hslf := PySem.F.sub_list_frozenset
        have hne : (Value.type "list" == Value.type "dict") = false := by decide
        have hl1 : (s.heap.push { cls := .type "set", dict := none, data := .set #[] 0 (.fresh 0 0 led) }).IsList l items := ⟨_, hol', rfl, nl, rfl⟩
        unfold Builtin.«set.__init__» noKeywords Builtin.Frozenset.updateFrom
        generalize hPI : pyIter = PI
        wp_walk
        subst hPI
        refine wpAny_pyIter_list hl1 ?_
        refine wpAny_bind (wpAny_runValue ?_)
        have hlS : l < s.heap.objs.size := Heap.lt_size hol
        have hh3 : A.in1.in1.handled = none := by simp [hh]
        refine set_loop s.heap.objs.size (s.heap.push { cls := .type "set", dict := none, data := .set #[] 0 (.fresh 0 0 led) }).objs.size l items xs hh3 hi (by rw [Heap.size_push]; exact Nat.ne_of_lt (Nat.lt_succ_self _)) (Nat.ne_of_gt hlS) (by rw [Heap.size_push]; exact Nat.ne_of_lt (Nat.lt_succ_of_lt hlS)) hb (items.size - 0) 0 0 _ rfl (Nat.zero_le _)
          ?hIt ?hLs ?hS0 (Nat.le_refl _) ?hR
        case hIt => exact ⟨_, Heap.get?_push_size _ rfl, rfl, rfl⟩
        case hLs => exact hl1.push _
        case hS0 =>
          have hget : ((s.heap.push { cls := .type "set", dict := none, data := .set #[] 0 (.fresh 0 0 led) }).push { cls := .type "list_iterator", data := .fields #[.ref l, .int 0 0] }).get? s.heap.objs.size
              = some { cls := .type "set", dict := none, data := .set #[] 0 (.fresh 0 0 led) } := Heap.get?_push_of_some _ hS
          exact PyProof.Rows.SetOf_congr ((PyProof.Rows.setObjOf_fresh (knd := strKind prog w) led).setOf hget (by unfold scanBound; omega)) (fun _ => rfl) rfl
        case hR =>
          intro h' tk' n' hS' _ hk'
          show wpAny _ _ _ _ _ _
          refine wpAny_pure ?_
          show wpAny _ _ (ret Value.none) _ _ _
          refine wpAny_pure ⟨rfl, h', tk', n', rfl, hS', fun b o e => ?_⟩
          have hb := Heap.lt_size e
          exact hk' b o (Nat.ne_of_lt hb) (by rw [Heap.size_push]; exact Nat.ne_of_lt (Nat.lt_succ_of_lt hb)) (Heap.get?_push_of_some _ (Heap.get?_push_of_some _ e))
      · cases r₂ with
        | error e => exact hr₂
        | ok fl₂ =>
          cases fl₂ with
          | ret r =>
            obtain ⟨rfl, h', tk, n, rfl, hS', hk'⟩ := hr₂
            repeat (any_goals (first | assumption | wp_step))
            exact h _ _ _ hS' hk'
          | _ => exact hr₂.elim
    | _ => exact hr.elim
end

theorem set_getattr_none : typeLookup (.type "set") "__getattr__" = pure none := by rw [typeLookup_type, builtinLookup_eq_fast]; kernel_rfl
theorem set_getattribute_entry : entryFor table "set.__getattribute__" = some Builtin.«object.__getattribute__» :=
  entryFor_alias (id' := "object.__getattribute__") (by kernel_rfl) (by decide +kernel) (by decide +kernel) (by kernel_rfl)
theorem set_contains_get : typeLookup (.type "method_descriptor") "__get__" = pure (some (.builtin "method_descriptor.__get__")) := by rw [typeLookup_type, builtinLookup_eq_fast]; kernel_rfl
theorem md_set : typeLookup (.type "method_descriptor") "__set__" = pure none := by rw [typeLookup_type, builtinLookup_eq_fast]; kernel_rfl
theorem md_del : typeLookup (.type "method_descriptor") "__delete__" = pure none := by rw [typeLookup_type, builtinLookup_eq_fast]; kernel_rfl
theorem type_set_contains : typeOf (.builtin "set.__contains__") = pure (.type "method_descriptor") := by show builtinType _ = _; rw [builtinType_eq_fast]; kernel_rfl
abbrev bmObj (a : Addr) : Obj := { cls := .type "builtin_function_or_method", data := .fields #[.builtin "set.__contains__", .ref a] }
theorem slot_mdget : Slot "method_descriptor" "__get__" "method_descriptor.__get__" :=
  .of (owner := "method_descriptor") (n := "__get__") (by rw [typeLookup_type, builtinLookup_eq_fast]; kernel_rfl) (by decide +kernel) (by decide +kernel) (by decide +kernel)
    (by first | exact .inl (by decide +kernel) | exact .inr (by decide +kernel)) (by rw [isSubtype_type]; kernel_rfl)
theorem entry_mdget : entryFor table "method_descriptor.__get__" = some Builtin.«method_descriptor.__get__» := entryFor_of_tree (by kernel_rfl)
theorem args_mdget (a b c : Value) : argsOk "method_descriptor.__get__" ⟨[a, b, c], []⟩ := by unfold argsOk; kernel_rfl
theorem told_not : Manifest.toldItsClass.contains "set.__contains__" = false := by decide +kernel
theorem run_mdget {M : Model} {A : Around} {E : Value → Shared → Prop} {s : Shared} {a : Addr} (hT : s.TypeIs (.ref a) "set") {P : Fin → Shared → Prop} (h : P (.done (.ret (.ref s.heap.objs.size))) { s with heap := s.heap.push (bmObj a) }) :
    wpAny M A (Builtin.«method_descriptor.__get__» ⟨[.builtin "set.__contains__", .ref a, .type "set"], []⟩) P E s := by
  unfold Builtin.«method_descriptor.__get__»
  refine wpAny_bind (wpAny_of_eq (a := (.builtin "set.__contains__", some (.ref a), some (.type "set"))) (by first | rfl | kernel_rfl) ?_)
  simp only [told_not, Bool.false_eq_true, if_false]
  refine wpAny_bind (Q := P) ?_
  refine wpAny_bind ?_
  refine wpAny_of_eq (a := (Str.ofString "__contains__", .type "set")) (by first | rfl | kernel_rfl) ?_
  refine wpAny_bind (wpAny_isInstance hT sub_set_self ?_)
  simp only [Bool.not_true, Bool.false_eq_true, if_false]
  refine wpAny_pure ?_
  exact wpAny_bind (wpAny_newObj_type (wpAny_pure h))
theorem meets_set_contains (a : Addr) (es : Array (Int × Value)) (k : Nat) (tb : SetTable) (u : Tok) :
    Meets (Builtin.«object.__getattribute__» ⟨[.ref a, .str (Str.ofString "__contains__") u], []⟩) (fun A R s => s.heap.get? a = some { cls := .type "set", dict := none, data := .set es k tb, slots := #[] } ∧ R (.ok (.ret (.ref s.heap.objs.size))) { s with heap := s.heap.push (bmObj a) }) :=
  Meets.of_wp fun prog w A R s hs => by
    obtain ⟨hp, g, d, tk, os⟩ := s
    obtain ⟨hx, hs⟩ := hs
    have hT : (⟨hp, g, d, tk, os⟩ : Shared).TypeIs (.ref a) "set" := ⟨_, hx, rfl⟩
    have g1 := PySem.F.slot_set_contains.lookup
    have g2 := type_set_contains
    have g3 := set_contains_get
    have g4 := md_set
    have g5 := md_del
    unfold Builtin.«object.__getattribute__»
    repeat (any_goals (first | assumption | wp_step))
    exact codeAny_call_builtin slot_mdget.plain entry_mdget (slot_mdget.check _ _ _ _ _ _ _ _ type_set_contains (args_mdget _ _ _) (run_mdget hT (wpAny_pure ⟨_, rfl, hs⟩)))
theorem getAttr_set_contains {prog : Program} {w : World} {A : Around} {E : Value → Shared → Prop} {s : Shared} {a : Addr} {es : Array (Int × Value)} {k : Nat} {tb : SetTable} {Q : Value → Shared → Prop}
    (hx : s.heap.get? a = some { cls := .type "set", dict := none, data := .set es k tb, slots := #[] })
    (h : Q (.ref s.heap.objs.size) { s with heap := s.heap.push (bmObj a), toks := s.toks + 1 }) :
    wpAny (model prog w) A (getAttr (.ref a) (Str.ofString "__contains__") true) Q E s := by
  obtain ⟨hp, g, d, tk, os⟩ := s
  have hT : ∀ tk', (⟨hp, g, d, tk', os⟩ : Shared).TypeIs (.ref a) "set" := fun _ => ⟨_, hx, rfl⟩
  have f3 := PySem.F.slot_set_getattribute.lookup
  have f4 := PySem.F.slot_set_getattribute.bind (.ref a)
  have f5 := set_getattr_none
  unfold getAttr getAttrBy
  repeat (any_goals (first | assumption | exact hT _ | ((with_reducible show wpAny _ _ (call (Value.builtin "set.__getattribute__") _ _) _ _ _); refine call_meets PySem.F.slot_set_getattribute (hT _) set_getattribute_entry (PySem.F.args_set_getattribute_2 _ _) (meets_set_contains a es k tb _) ⟨hx, ?_⟩) | wp_step))
  exact wpAny_pure h

open AutoSeq1 (wpAny_loadPart')
theorem sub_filter : isSubtype (.type "filter") (.type "filter") = pure true := by rw [isSubtype_type]; kernel_rfl
abbrev filObj (f it : Addr) : Obj := { cls := .type "filter", data := .fields #[.ref f, .ref it] }
theorem meets_filter_new (f l : Addr) (items : Array Value) (n : Nat) :
    Meets (Builtin.«filter.__new__» ⟨[.type "filter", .ref f, .ref l], []⟩) (fun _ R s => s.heap.get? l = some { cls := .type "list", dict := none, data := .seq items n, slots := #[] } ∧
      R (.ok (.ret (.ref (s.heap.push { cls := .type "list_iterator", data := .fields #[.ref l, .int 0 0] }).objs.size)))
        { s with heap := (s.heap.push { cls := .type "list_iterator", data := .fields #[.ref l, .int 0 0] }).push (filObj f s.heap.objs.size) }) :=
  .of_wp fun prog w A R s h => by
    obtain ⟨hp, g, d, tk, os⟩ := s; obtain ⟨hl, h⟩ := h
    have hsub := sub_filter
    have hL : Heap.IsList (Shared.heap ⟨hp, g, d, tk, os⟩) l items := ⟨_, hl, rfl, n, rfl⟩
    wp_walk using wpAny_loadPart' hl, wpAny_pyIter_list hL
    exact ⟨_, rfl, h⟩
theorem sub_set_module : isSubtype (.type "set") (.type "module") = pure false := by rw [isSubtype_type]; kernel_rfl
theorem sub_set_type : isSubtype (.type "set") (.type "type") = pure false := by rw [isSubtype_type]; kernel_rfl
theorem kind_contains : builtinKind "set.__contains__" = some .method := by kernel_rfl
abbrev sigC : Manifest.Signature := ⟨.oneArg, "set.__contains__", "__contains__", .self, [⟨"object", .posOnly, true⟩]⟩
theorem sig_contains : Manifest.signature? "set.__contains__" = some sigC := by kernel_rfl
theorem checkArgs_contains (a b : Value) : Bind.checkArgs "set.__contains__" sigC ⟨[a, b], []⟩ = pure () := by
  have h := PySem.F.args_set_contains_2 a b
  simp only [argsOk, sig_contains] at h
  exact h
theorem full_contains : toString (Bind.lastOf "set") ++ toString "." ++ toString (Bind.lastOf "set.__contains__") = "set.__contains__" := by decide +kernel
theorem noVar_contains : Manifest.varargsMethods.contains "set.__contains__" = false := by decide +kernel
section
variable {prog : Program} {w : World} {A : Around} {E : Value → Shared → Prop} {s : Shared} {Q : Value → Shared → Prop}
theorem check_contains {S : Addr} {v : Value} {P : Unit → Shared → Prop} {f : Str → Bool} {n : Nat} (hS : s.heap.SetOf (strKind prog w) S f n) (h : P () s) :
    wpAny (model prog w) A (checkBoundCall "set.__contains__" ⟨[.ref S, v], []⟩) P E s := by
  have hT : s.TypeIs (.ref S) "set" := hS.typeIs
  obtain ⟨o, es, ep, tb, ho, _, hd, _⟩ := hS
  unfold checkBoundCall
  rw [sig_contains]
  simp only [kind_contains]
  rw [if_neg (by decide)]
  refine wpAny_bind (wpAny_isInstance hT sub_set_module ?_)
  simp only [noVar_contains, Bool.or_false, Bool.false_eq_true, if_false]
  unfold isType
  refine wpAny_bind (wpAny_bind (m := loadHead S) (wpAny_loadPart ho (wpAny_pure ?_)))
  rw [hd]
  simp only [Bool.false_eq_true, if_false]
  refine wpAny_bind (wpAny_typeOf hT ?_)
  simp only [full_contains]
  exact wpAny_of_eq (checkArgs_contains _ _) h
theorem call_bm {bm S : Addr} {x : Str} {t : Tok} {f : Str → Bool} {n : Nat} (hb : s.heap.get? bm = some (bmObj S)) (hS : s.heap.SetOf (strKind prog w) S f n) (h : Q (.bool (f x)) { s with toks := s.toks + 1 }) :
    wpAny (model prog w) A (call (.ref bm) [.str x t]) Q E s := by
  refine wpAny_call (codeAny_of_tree ?_)
  show wpAny _ A.in1 (callAny (.ref bm) _) _ _ _
  simp only [callAny]
  refine wpAny_bind (wpAny_load hb ?_)
  dsimp only
  rw [if_pos (by decide)]
  simp only [List.getElem?_toArray, List.getElem?_cons_zero, List.getElem?_cons_succ]
  rw [if_pos (by decide)]
  refine wpAny_bind (check_contains hS ?_)
  refine wpAny_bind (wpAny_pure ?_)
  refine wpAny_pure ⟨Code.quiet_builtin _ (by decide +kernel), codeAny_builtin entry_set_contains ?_⟩
  unfold Builtin.«frozenset.__contains__» Builtin.Frozenset.oneOther
  simp only [List.isEmpty_nil, bind_assoc]
  unfold Builtin.Frozenset.addrOf Builtin.Frozenset.withSetAsKey setContains
  refine wpAny_bind (wpAny_pure ?_)
  try dsimp only
  refine wpAny_bind (wpAny_pure ?_)
  try dsimp only
  refine wpAny_bind (wpAny_tryCatch ?_)
  refine wpAny_holding ?_
  refine wpAny_bind ((strKind prog w).pyHash (k := x) (strKind_is _ _ _ _) ?_)
  refine wpAny_bind (wpAny_setFind_of (knd := strKind prog w) (s := { s with toks := s.toks + 1 }) (strKind_is _ _ _ _) rfl hS fun r hr => ?_)
  refine wpAny_pure ?_
  show wpAny _ _ (ret (Value.bool r.isSome)) _ _ _
  rw [hr]
  exact wpAny_pure h
theorem slot_filter_next : Slot "filter" "__next__" "filter.__next__" :=
  .of (owner := "filter") (n := "__next__") (by rw [typeLookup_type, builtinLookup_eq_fast]; kernel_rfl) (by decide +kernel) (by decide +kernel) (by decide +kernel)
    (by first | exact .inl (by decide +kernel) | exact .inr (by decide +kernel)) (by rw [isSubtype_type]; kernel_rfl)
theorem entry_filter_next : entryFor table "filter.__next__" = some Builtin.«filter.__next__» := entryFor_of_tree (by kernel_rfl)
theorem args_filter_next (a : Value) : argsOk "filter.__next__" ⟨[a], []⟩ := by unfold argsOk; kernel_rfl
structure FilSt (prog : Program) (w : World) (fl it l bm S : Addr) (items : Array Value) (f : Str → Bool) (j : Nat) (h : Heap) : Prop where
  fil : h.get? fl = some (filObj bm it)
  bmo : h.get? bm = some (bmObj S)
  set : ∃ n, h.SetOf (strKind prog w) S f n
  iter : h.IsListIter it l j
  list : h.IsList l items
theorem FilSt.keep {fl it l bm S : Addr} {items : Array Value} {f : Str → Bool} {j : Nat} {h h' : Heap} (x : FilSt prog w fl it l bm S items f j h) (k : ∀ b ∈ [fl, it, l, bm, S], ∀ o, h.get? b = some o → h'.get? b = some o) : FilSt prog w fl it l bm S items f j h' := by
  obtain ⟨a, b, ⟨n, c⟩, d, e⟩ := x
  refine ⟨k _ (by simp) _ a, k _ (by simp) _ b, ⟨n, ?_⟩, d.at fun o q => k _ (by simp) o q, e.at fun o q => k _ (by simp) o q⟩
  obtain ⟨o, es, ep, t, ho, r⟩ := c
  exact ⟨o, es, ep, t, k _ (by simp) _ ho, r⟩
theorem FilSt.step {fl it l bm S : Addr} {items : Array Value} {f : Str → Bool} {j j' : Nat} {h h' : Heap} (x : FilSt prog w fl it l bm S items f j h) (k : Heap.SameBut it h h') (hi : h'.IsListIter it l j')
    (n1 : fl ≠ it) (n2 : l ≠ it) (n3 : bm ≠ it) (n4 : S ≠ it) : FilSt prog w fl it l bm S items f j' h' := by
  obtain ⟨a, b, ⟨n, c⟩, d, e⟩ := x
  refine ⟨k.extBut _ _ n1 a, k.extBut _ _ n3 b, ⟨n, ?_⟩, hi, e.extBut k.extBut n2⟩
  obtain ⟨o, es, ep, t, ho, r⟩ := c
  exact ⟨o, es, ep, t, k.extBut _ _ n4 ho, r⟩
/-- one call of the inner iterator -/
theorem iter_item {it l : Addr} {i : Nat} {items : Array Value} {x : Value} {Q : Option Value → Shared → Prop} (hit : s.heap.IsListIter it l i) (hl : s.heap.IsList l items) (hx : items[i]? = some x)
    (hQ : ∀ h', h'.IsListIter it l (i + 1) → Heap.SameBut it s.heap h' → Q (some x) { s with heap := h' }) :
    wpAny (model prog w) A (callSpecial? (.ref it) (Str.ofString "__next__")) Q E s := by
  obtain ⟨o, ho, hc, hd⟩ := id hit
  obtain ⟨ol, hol, _, nl, hdl⟩ := hl
  refine wpAny_callSpecial?_slot hit.typeIs slot_listiter_next (wpAny_call_entry slot_listiter_next hit.typeIs entry_listiter_next ?_ (args_listiter_next _))
  show wpAny _ _ (field (.ref it) 0 >>= _) _ _ s
  refine wpAny_bind (wpAny_field ho hd (x := .ref l) rfl ?_)
  show wpAny _ _ (if (Value.ref l == Value.none) = true then _ else _) _ _ s
  rw [if_neg (show ¬ ((Value.ref l == Value.none) = true) from Bool.false_ne_true)]
  show wpAny _ _ (field (.ref it) 1 >>= _) _ _ s
  refine wpAny_bind (wpAny_field ho hd (x := .int i 0) rfl ?_)
  show wpAny _ _ (seqItems? (.ref l) >>= _) _ _ s
  refine wpAny_bind (wpAny_seqItems hol hdl ?_)
  simp only [Int.toNat_natCast, hx]
  refine wpAny_bind (wpAny_setField ho hd (by simp) (wpAny_pure ⟨x, rfl, hQ _ ?_ (Heap.SameBut.update ..)⟩))
  exact ⟨_, Heap.get?_update_self _ ho (Obj.isFreed_of_fields (Obj.data_mapFields hd _)), (Obj.cls_mapFields ..).trans hc, by
    rw [Obj.data_mapFields hd]; simp [rawInt]⟩
theorem iter_end {it l : Addr} {i : Nat} {items : Array Value} {Q : Option Value → Shared → Prop} (hh : A.handled = none) (hit : s.heap.IsListIter it l i) (hl : s.heap.IsList l items) (hx : items[i]? = none)
    (hE : ∀ h' e, Heap.ExtBut it s.heap h' → Shared.TypeIs { s with heap := h' } (.ref e) "StopIteration" → E (.ref e) { s with heap := h' }) :
    wpAny (model prog w) A (callSpecial? (.ref it) (Str.ofString "__next__")) Q E s := by
  obtain ⟨o, ho, hc, hd⟩ := id hit
  obtain ⟨ol, hol, _, nl, hdl⟩ := hl
  refine wpAny_callSpecial?_slot hit.typeIs slot_listiter_next (wpAny_call_entry slot_listiter_next hit.typeIs entry_listiter_next ?_ (args_listiter_next _))
  show wpAny _ _ (field (.ref it) 0 >>= _) _ _ s
  refine wpAny_bind (wpAny_field ho hd (x := .ref l) rfl ?_)
  show wpAny _ _ (if (Value.ref l == Value.none) = true then _ else _) _ _ s
  rw [if_neg (show ¬ ((Value.ref l == Value.none) = true) from Bool.false_ne_true)]
  show wpAny _ _ (field (.ref it) 1 >>= _) _ _ s
  refine wpAny_bind (wpAny_field ho hd (x := .int i 0) rfl ?_)
  show wpAny _ _ (seqItems? (.ref l) >>= _) _ _ s
  refine wpAny_bind (wpAny_seqItems hol hdl ?_)
  simp only [Int.toNat_natCast, hx]
  refine wpAny_bind (wpAny_rule (wpAny_bind (wpAny_setField ho hd (by simp) ?_)))
  show wpAny _ _ (newExc (.type "StopIteration") [] >>= _) _ _ _
  refine wpAny_bind ?_
  simp only [newExc, newTuple]
  refine wpAny_bind (wpAny_newObj_type ?_ (by size_fits))
  refine wpAny_bind (m := firstArgMember _ _) (wpAny_of_eq (a := Value.none) (by first | rfl | (simp only [firstArgMember]; rfl)) ?_)
  refine wpAny_newObj_type ?_ (by size_fits)
  simp only [raiseNew]
  refine wpAny_bind (wpAny_handled ?_)
  rw [show A.in1.handled = none from hh]
  refine wpAny_bind (wpAny_pure (wpAny_throw ?_))
  exact hE _ _ (((Heap.SameBut.update ..).extBut.push _).push _) ⟨_, Heap.get?_push_size _ rfl, rfl⟩
theorem plain_filter_next : plainId "filter.__next__" = true := by decide +kernel
theorem fil_next {R : Result → Shared → Prop} (fl it l bm S : Addr) (items : Array Value) (xs : List Str) (f : Str → Bool) (hh : A.handled = none) (hi : StrsAre items.toList xs) (n1 : fl ≠ it) (n2 : l ≠ it) (n3 : bm ≠ it) (n4 : S ≠ it) :
    ∀ (k j : Nat) (s : Shared), items.size - j = k → j ≤ items.size → FilSt prog w fl it l bm S items f j s.heap →
      (∀ x r, (xs.drop j).filter f = x :: r → ∀ j' t h' tk, j' ≤ items.size → (xs.drop j').filter f = r → FilSt prog w fl it l bm S items f j' h' → (∀ b o, b ≠ it → s.heap.get? b = some o → h'.get? b = some o) → R (.ok (.ret (.str x t))) { s with heap := h', toks := tk }) →
      ((xs.drop j).filter f = [] → ∀ e h' tk, (∀ b o, b ≠ it → s.heap.get? b = some o → h'.get? b = some o) → Shared.TypeIs { s with heap := h', toks := tk } (.ref e) "StopIteration" → R (.error (.ref e)) { s with heap := h', toks := tk }) →
      codeAny (model prog w) A (.builtin "filter.__next__" ⟨[.ref fl], []⟩) R s := by
  have hlen : xs.length = items.size := by have := strs_len hi; rw [← this]; simp
  intro k
  induction k with
  | zero =>
    intro j s hk hj F hit hend
    have e : j = items.size := by omega
    subst e
    refine codeAny_builtin entry_filter_next ?_
    rw [Around.under_plainId plain_filter_next _]
    unfold Builtin.«filter.__next__»
    refine wpAny_bind (wpAny_of_eq (a := (.ref fl, [])) rfl ?_)
    refine wpAny_bind (wpAny_field F.fil rfl (x := .ref bm) rfl ?_)
    refine wpAny_bind (wpAny_field F.fil rfl (x := .ref it) rfl ?_)
    refine wpAny_bind (iter_end (by simpa using hh) F.iter F.list (by simp) fun h' e hx hT => ?_)
    exact hend (by rw [← hlen]; simp) e h' s.toks (fun b o n q => hx b o n q) hT
  | succ k ih =>
    intro j s hk hj F hit hend
    have hlt : j < items.size := by omega
    obtain ⟨x, t, e1, e2⟩ := strs_at hi j items[j] (by simp [hlt])
    have hdrop : xs.drop j = x :: xs.drop (j + 1) := by
      rw [List.drop_eq_getElem?_toList_append, e2]; rfl
    refine codeAny_builtin entry_filter_next ?_
    rw [Around.under_plainId plain_filter_next _]
    unfold Builtin.«filter.__next__»
    refine wpAny_bind (wpAny_of_eq (a := (.ref fl, [])) rfl ?_)
    refine wpAny_bind (wpAny_field F.fil rfl (x := .ref bm) rfl ?_)
    refine wpAny_bind (wpAny_field F.fil rfl (x := .ref it) rfl ?_)
    refine wpAny_bind (iter_item F.iter F.list (x := .str x t) (by rw [← e1]; simp [hlt]) fun h' hit' hs' => ?_)
    have F' := F.step hs' hit' n1 n2 n3 n4
    obtain ⟨n, hS'⟩ := F'.set
    refine wpAny_bind (wpAny_holding ?_)
    rw [if_neg (show ¬ ((Value.ref bm == Value.none || Value.ref bm == Value.type "bool") = true) from Bool.false_ne_true)]
    refine wpAny_bind (call_bm (s := { s with heap := h' }) F'.bmo hS' ?_)
    refine wpAny_holding (wpAny_truthy_bool ?_)
    cases hf : f x with
    | true =>
      rw [if_pos rfl]
      exact wpAny_pure (hit x _ (by rw [hdrop, List.filter_cons_of_pos hf]) (j + 1) t h' _ hlt rfl F' fun b o n q => hs'.extBut b o n q)
    | false =>
      rw [if_neg (by decide)]
      have hd : (xs.drop j).filter f = (xs.drop (j + 1)).filter f := by rw [hdrop, List.filter_cons_of_neg (by simp [hf])]
      refine wpAny_pure ⟨plainId_quiet plain_filter_next _, ih (j + 1) _ (by omega) hlt F' (fun y r q j' t' h₂ tk a b c d => hit y r (hd.trans q) j' t' h₂ tk a b c fun b' o n q' => d b' o n (hs'.extBut b' o n q')) (fun q e h₂ tk a b => hend (hd.trans q) e h₂ tk (fun b' o n q' => a b' o n (hs'.extBut b' o n q')) b)⟩
theorem filter_iter_entry : entryFor table "filter.__iter__" = some Builtin.«dict_keyiterator.__iter__» :=
  entryFor_alias (id' := "dict_keyiterator.__iter__") (by kernel_rfl) (by first | rfl | decide +kernel | (unfold String.splitOn; simp +decide [String.splitOnAux])) (by decide +kernel) (by kernel_rfl)
theorem slot_filter_iter : Slot "filter" "__iter__" "filter.__iter__" :=
  .of (owner := "filter") (n := "__iter__") (by rw [typeLookup_type, builtinLookup_eq_fast]; kernel_rfl) (by decide +kernel) (by decide +kernel) (by decide +kernel)
    (by first | exact .inl (by decide +kernel) | exact .inr (by decide +kernel)) (by rw [isSubtype_type]; kernel_rfl)
theorem args_filter_iter (a : Value) : argsOk "filter.__iter__" ⟨[a], []⟩ := by unfold argsOk; kernel_rfl
theorem filter_walks (fl it l bm S : Addr) (items : Array Value) (xs : List Str) (f : Str → Bool) (hh : A.handled = none) (hi : StrsAre items.toList xs) (n1 : fl ≠ it) (n2 : l ≠ it) (n3 : bm ≠ it) (n4 : S ≠ it) :
    Walks prog w A fl [fl, it, l, bm, S] [it] (xs.filter f).length (fun i v => ∃ x t, v = .str x t ∧ (xs.filter f)[i]? = some x)
      (fun i h => ∃ j, j ≤ items.size ∧ (xs.drop j).filter f = (xs.filter f).drop i ∧ FilSt prog w fl it l bm S items f j h) where
  sub := fun b hb => by simp at hb; simp [hb]
  frame := fun i h h' ⟨j, a, b, c⟩ hk => ⟨j, a, b, c.keep hk⟩
  item := fun i s Q E hlt ⟨j, a, b, c⟩ hQ => by
    have hT : s.TypeIs (.ref fl) "filter" := ⟨_, c.fil, rfl⟩
    unfold pyNext
    refine wpAny_bind (wpAny_attempt (wpAny_callSpecial?_slot (name := Str.ofString "__next__") hT slot_filter_next (wpAny_call (codeAny_of_tree ?_))))
    show wpAny _ A.in1 (do checkBuiltinCall "filter.__next__" ⟨[.ref fl], []⟩; again (.builtin "filter.__next__" ⟨[.ref fl], []⟩)) _ _ s
    refine wpAny_bind (slot_filter_next.check _ _ _ _ _ _ _ _ hT (args_filter_next _) (wpAny_pure ⟨plainId_quiet plain_filter_next _, ?_⟩))
    have hd : (xs.filter f).drop i = (xs.filter f)[i] :: (xs.filter f).drop (i + 1) := List.drop_eq_getElem_cons hlt
    refine fil_next fl it l bm S items xs f hh hi n1 n2 n3 n4 (items.size - j) j s rfl a c (fun x r q j' t h' tk a' b' c' d' => ?_) (fun q => ?_)
    · rw [b, hd] at q
      obtain ⟨q1, q2⟩ := List.cons.inj q
      exact wpAny_pure (hQ _ h' tk ⟨x, t, rfl, by rw [← q1]; simp⟩ ⟨j', a', b'.trans q2.symm, c'⟩ fun b o hb e => d' b o (by simpa using hb) e)
    · rw [b, hd] at q; cases q
  done := fun s Q E ⟨j, a, b, c⟩ hQ => by
    have hT : s.TypeIs (.ref fl) "filter" := ⟨_, c.fil, rfl⟩
    unfold pyNext
    refine wpAny_bind (wpAny_attempt (wpAny_callSpecial?_slot (name := Str.ofString "__next__") hT slot_filter_next (wpAny_call (codeAny_of_tree ?_))))
    show wpAny _ A.in1 (do checkBuiltinCall "filter.__next__" ⟨[.ref fl], []⟩; again (.builtin "filter.__next__" ⟨[.ref fl], []⟩)) _ _ s
    refine wpAny_bind (slot_filter_next.check _ _ _ _ _ _ _ _ hT (args_filter_next _) (wpAny_pure ⟨plainId_quiet plain_filter_next _, ?_⟩))
    rw [List.drop_length] at b
    refine fil_next fl it l bm S items xs f hh hi n1 n2 n3 n4 (items.size - j) j s rfl a c (fun x r q => ?_) (fun _ e h' tk kp hT' => ?_)
    · rw [b] at q; cases q
    · exact wpAny_bind (wpAny_isInstance hT' isSubtype_stop (wpAny_pure (hQ h' tk fun b o hb q => kp b o (by simpa using hb) q)))
  self := fun i s Q E ⟨j, a, b, c⟩ hQ => by
    have hT : s.TypeIs (.ref fl) "filter" := ⟨_, c.fil, rfl⟩
    refine wpAny_pyIter_slot hT slot_filter_iter (wpAny_call_entry slot_filter_iter hT filter_iter_entry ?_ (args_filter_iter _))
    exact wpAny_pure ⟨_, rfl, "filter", _, hT, slot_filter_next.lookup, hQ⟩
end

theorem filter_no_len : typeLookup (.type "filter") "__len__" = pure none := by rw [typeLookup_type, builtinLookup_eq_fast]; kernel_rfl
theorem filter_no_hint : typeLookup (.type "filter") "__length_hint__" = pure none := by rw [typeLookup_type, builtinLookup_eq_fast]; kernel_rfl
section
variable {prog : Program} {w : World} {A : Around} {s : Shared} {R : Result → Shared → Prop} {E : Value → Shared → Prop}
variable {I : Addr} {fp wr : List Addr} {G : Array GenState → Array GenState → Prop} {n : Nat} {P : Nat → Value → Prop} {St : Nat → Shared → Prop}
theorem two_updates {S : Addr} (g1 g2 : Obj → Obj) : ∀ b o, b ≠ S → s.heap.get? b = some o → ((s.heap.update S g1).update S g2).get? b = some o :=
  fun _ _ hb e => (Heap.get?_update_other _ _ (Ne.symm hb)).trans ((Heap.get?_update_other _ _ (Ne.symm hb)).trans e)
theorem init_filter (W : WalksS prog w A.in1 I fp wr G n P St) (hT : ∀ i s, St i s → s.TypeIs (.ref I) "filter") (S : Addr) (hst : St 0 s) (hSf : S ∉ fp) (hI : I ∈ fp) (hS : s.heap.get? S = some { cls := .type "list", data := .seq #[] }) (hn : n ≤ sizeLine)
    (hR : ∀ s' acc' c', Moved (S :: wr) G s s' → s'.heap.get? S = some { cls := .type "list", dict := none, data := .seq acc' c', slots := #[] } → ItemsOf P acc' n → R (.ok (.ret .none)) s') :
    wpAny (model prog w) A.in1 (Builtin.«list.__init__» ⟨[.ref S, .ref I], []⟩)
      (fun fin s' => match fin with | .done f => R (.ok f) s' | .again c' => c'.quiet = true ∧ codeAny (model prog w) A c' R s') (fun e s' => R (.error e) s') s := by
  have hSI : S ≠ I := fun e => hSf (e ▸ hI)
  show wpAny _ A.in1 (do let old ← Builtin.List.listItems (.ref S); Builtin.List.listUpdate (.ref S) (fun _ => #[]); letGo old.toList.reverse; Builtin.List.listExtendWith (.ref S) (.ref I) .none) _ _ s
  refine wpAny_bind ?_
  unfold Builtin.List.listItems
  refine wpAny_bind (wpAny_seqItems hS rfl (wpAny_pure ?_))
  show wpAny _ A.in1 (updateSeq S (fun _ => #[]) >>= fun _ => letGo (#[] : Array Value).toList.reverse >>= fun _ => Builtin.List.listExtendWith (.ref S) (.ref I) .none) _ _ s
  refine wpAny_bind (wpAny_updateSeq hS rfl ?_)
  have hS₁ := Heap.get?_update_self (Obj.mapSeq (fun _ => (#[] : Array Value))) hS rfl
  have ot₁ : ∀ b o, b ≠ S → s.heap.get? b = some o → (s.heap.update S (Obj.mapSeq (fun _ => (#[] : Array Value)))).get? b = some o := fun b o hb e => (Heap.get?_update_other _ _ (Ne.symm hb)).trans e
  generalize hh1 : s.heap.update S (Obj.mapSeq (fun _ => (#[] : Array Value))) = H1 at hS₁ ot₁ ⊢
  have st1 : St 0 { s with heap := H1 } := W.frame 0 s _ s.toks hst (Nat.le_refl _) fun b hb o e => ot₁ b o (fun h => hSf (h ▸ hb)) e
  refine wpAny_bind (wpAny_letGo ?_)
  unfold Builtin.List.listExtendWith
  refine wpAny_bind (wpAny_typeOf (hT 0 _ st1) ?_)
  have h1 : Builtin.List.listSameRef (.ref S) (.ref I) = false := by simp [Builtin.List.listSameRef, hSI]
  have h2 : (Value.type "filter" == Value.type "list") = false := by decide
  have h3 : (Value.type "filter" == Value.type "tuple") = false := by decide
  simp only [h1, h2, h3, Bool.or_false, Bool.false_eq_true, if_false]
  refine wpAny_bind (W.self 0 _ _ _ st1 ?_)
  refine wpAny_bind (wpAny_holding ?_)
  unfold Builtin.List.listLengthHint
  refine wpAny_bind (wpAny_specialOf (hT 0 _ st1) filter_no_len ?_)
  show wpAny _ A.in1 (specialOf (Value.ref I) (Str.ofString "__length_hint__") >>= _) _ _ _
  refine wpAny_bind (wpAny_specialOf (hT 0 _ st1) filter_no_hint ?_)
  refine wpAny_pure ?_
  show wpAny _ A.in1 (rule "list.extend.makes-room" >>= fun _ => Builtin.List.listTouch (.ref S) >>= fun _ => again (.builtin "list.extend.loop" ⟨[.ref S, .ref I, .none], []⟩)) _ _ _
  refine wpAny_bind (wpAny_rule (wpAny_bind ?_))
  show wpAny _ A.in1 (updateSeq S (·.push .none) >>= fun _ => updateSeq S (·.pop)) _ _ _
  refine wpAny_bind (wpAny_updateSeq hS₁ rfl ?_)
  have hS₂ := Heap.get?_update_self (Obj.mapSeq (·.push Value.none)) hS₁ rfl
  refine wpAny_updateSeq (hz := by seq_fits) hS₂ rfl ?_
  have hS₃ := Heap.get?_update_self (Obj.mapSeq (·.pop)) hS₂ rfl
  have ot₂ := two_updates (s := { s with heap := H1 }) (S := S) (Obj.mapSeq (·.push Value.none)) (Obj.mapSeq (·.pop))
  refine wpAny_pure ⟨plainId_quiet PySem.F.plain_extend_loop _, codeAny_extend_loopS W hn _ hSf _ n 0 _ _ _ rfl (Nat.zero_le _)
    (W.frame 0 { s with heap := H1 } _ s.toks st1 (Nat.le_refl _) fun b hb o e => ot₂ b o (fun h => hSf (h ▸ hb)) e) hS₃ (ItemsOf.nil P) fun s' acc' c' hm hS' hacc => ?_⟩
  exact hR s' acc' c' (Moved.trans W.gtrans ((Moved.refl W.grefl).then_heap (Nat.le_refl _) fun b o hb e => ot₂ b o (fun h => hb (h ▸ List.mem_cons_self)) (ot₁ b o (fun h => hb (h ▸ List.mem_cons_self)) e)) hm) hS' hacc
theorem call_list_filter {Q : Value → Shared → Prop} (W : WalksS prog w A.in1.in1 I fp wr G n P St) (hT : ∀ i s, St i s → s.TypeIs (.ref I) "filter") (hst : St 0 s) (hfp : ∀ b ∈ fp, b < s.heap.objs.size) (hI : I ∈ fp) (hn : n ≤ sizeLine)
    (hQ : ∀ s' acc' c', Moved (s.heap.objs.size :: wr) G { s with heap := s.heap.push { cls := .type "list", data := .seq #[] } } s' →
      s'.heap.get? s.heap.objs.size = some { cls := .type "list", dict := none, data := .seq acc' c', slots := #[] } → ItemsOf P acc' n → Q (.ref s.heap.objs.size) s') :
    wpAny (model prog w) A (call (.type "list") [.ref I]) Q E s := by
  have hSf : s.heap.objs.size ∉ fp := fun hm => Nat.lt_irrefl _ (hfp _ hm)
  refine callType_codes (Q₁ := fun obj s₁ => obj = .ref s.heap.objs.size ∧ s₁ = { s with heap := s.heap.push { cls := .type "list", data := .seq #[] } }) PySem.F.called_list (PySem.F.typeCall_list_1 _) PySem.F.entry_list_init
    (code_list_new _ ⟨rfl, rfl⟩) fun obj s₁ h₁ => ?_
  obtain ⟨rfl, rfl⟩ := h₁
  have hS : (s.heap.push { cls := .type "list", data := .seq #[] }).get? s.heap.objs.size = some { cls := .type "list", data := .seq #[] } := Heap.get?_push_size _ rfl
  refine ⟨⟨_, hS, rfl⟩, PySem.F.args_list_init_2 _ _, init_filter W hT _ (W.frame 0 s _ s.toks hst (Nat.le_refl _) fun b _ o e => Heap.get?_push_of_some _ e) hSf hI hS hn fun s' acc' c' hm hS' hacc => ?_⟩
  exact ⟨rfl, hQ s' acc' c' hm hS' hacc⟩
end
theorem mro_filter : mroOf (.type "filter") = pure [.type "filter", .type "object"] := by rw [mroOf_type]; kernel_rfl
theorem lookup_filter_new : typeLookup (.type "filter") "__new__" = pure (some (.builtin "filter.__new__")) := by rw [typeLookup_type, builtinLookup_eq_fast]; kernel_rfl
theorem slot_filter_init : Slot "filter" "__init__" "object.__init__" :=
  .of (owner := "object") (n := "__init__") (by rw [typeLookup_type, builtinLookup_eq_fast]; kernel_rfl) (by decide +kernel) (by decide +kernel) (by decide +kernel)
    (by first | exact .inl (by decide +kernel) | exact .inr (by decide +kernel)) (by rw [isSubtype_type]; kernel_rfl)
theorem called_filter : TypeCalled "filter" "filter.__new__" "object.__init__" :=
  ⟨by decide +kernel, by decide +kernel, ⟨_, _, mro_filter⟩, madeBy_type mro_filter lookup_filter_new (by decide +kernel), by decide +kernel, by rw [isSubtype_type]; kernel_rfl, slot_filter_init⟩
theorem typeCall_filter (a b : Value) : checkTypeCall "filter" ⟨[a, b], []⟩ = pure () := by kernel_rfl
theorem newCall_filter (a b : Value) : checkBuiltinCall "filter.__new__" ⟨[.type "filter", a, b], []⟩ = pure () := by kernel_rfl
theorem entry_filter_new : entryFor table "filter.__new__" = some Builtin.«filter.__new__» := entryFor_of_tree (by kernel_rfl)
theorem args_object_init_3 (a b c : Value) : argsOk "object.__init__" ⟨[a, b, c], []⟩ := by unfold argsOk; kernel_rfl
theorem call_filter {prog : Program} {w : World} {A : Around} {E : Value → Shared → Prop} {s : Shared} {f l : Addr} {items : Array Value} {n : Nat} {Q : Value → Shared → Prop} (hl : s.heap.get? l = some (W.listOf items n))
    (h : ∀ h', h'.get? (s.heap.objs.size + 1) = some (filObj f s.heap.objs.size) → h'.get? s.heap.objs.size = some { cls := .type "list_iterator", data := .fields #[.ref l, .int 0 0] } → h'.objs.size = s.heap.objs.size + 2 → (∀ b o, s.heap.get? b = some o → h'.get? b = some o) → Q (.ref (s.heap.objs.size + 1)) { s with heap := h' }) :
    wpAny (model prog w) A (call (.type "filter") [.ref f, .ref l]) Q E s := by
  refine callType_new called_filter (by decide) (typeCall_filter _ _) (newCall_filter _ _) (fun obj => args_object_init_3 obj _ _) entry_filter_new (meets_filter_new f l items n) ⟨hl, ?_⟩
  have hz : (s.heap.push { cls := .type "list_iterator", data := .fields #[.ref l, .int 0 0] }).objs.size = s.heap.objs.size + 1 := Heap.size_push ..
  show _ ∧ _
  rw [hz]
  have he : ((s.heap.push { cls := .type "list_iterator", data := .fields #[.ref l, .int 0 0] }).push (filObj f s.heap.objs.size)).get? (s.heap.objs.size + 1) = some (filObj f s.heap.objs.size) := by
    have := Heap.get?_push_size (s.heap.push { cls := .type "list_iterator", data := .fields #[.ref l, .int 0 0] }) (o := filObj f s.heap.objs.size) rfl
    rw [hz] at this; exact this
  exact ⟨⟨_, he, rfl⟩, h _ he (Heap.get?_push_of_some _ (Heap.get?_push_size _ rfl)) (by rw [Heap.size_push, hz]) fun b o x => Heap.get?_push_of_some _ (Heap.get?_push_of_some _ x)⟩

abbrev setObj (es : Array (Int × Value)) (ep : Nat) (tb : SetTable) : Obj := { cls := .type "set", dict := none, data := .set es ep tb, slots := #[] }
abbrev itObj (l : Addr) : Obj := { cls := .type "list_iterator", data := .fields #[.ref l, .int 0 0] }
inductive Rem (d : Addr) (o : Obj) : List (Addr × Obj) → List (Addr × Obj) → Prop
  | head {r} : (∀ p ∈ r, p.1 ≠ d) → Rem d o ((d, o) :: r) r
  | tail {p r r'} : p.1 ≠ d → Rem d o r r' → Rem d o (p :: r) (p :: r')
theorem Rem.split {d : Addr} {o : Obj} : ∀ {l r : List (Addr × Obj)}, Rem d o l r → (d, o) ∈ l ∧ ∀ p ∈ r, p ∈ l ∧ p.1 ≠ d
  | _, _, .head h => ⟨.head _, fun p hp => ⟨.tail _ hp, h p hp⟩⟩
  | _, _, .tail h r => ⟨.tail _ r.split.1, fun p hp => by
      rcases List.mem_cons.mp hp with rfl | hp
      · exact ⟨.head _, h⟩
      · exact ⟨.tail _ (r.split.2 p hp).1, (r.split.2 p hp).2⟩⟩
section
variable {prog : Program} {w : World} {A : Around} {E : Value → Shared → Prop} {s : Shared} {h₀ : Heap} {L : Addr} {m : Str → Option Value} {news : List (Addr × Obj)} {Q : Value → Shared → Prop}
theorem news_new {h' : Heap} {a : Addr} {o : Obj} (F : Fr h₀ L s.heap m) (N : News h₀ L s.heap news) (kp : ∀ b o, s.heap.get? b = some o → h'.get? b = some o) (ha : h'.get? a = some o) (hs : s.heap.objs.size ≤ a) : News h₀ L h' ((a, o) :: news) := by
  intro p hp
  rcases List.mem_cons.mp hp with rfl | hp
  · refine ⟨ha, Nat.ne_of_gt (Nat.lt_of_lt_of_le F.ns.lt hs), ?_⟩
    cases q : h₀.get? a with
    | none => rfl
    | some o' => exact absurd (Heap.lt_size (F.keep _ _ q)) (Nat.not_lt.mpr hs)
  · exact ⟨kp _ _ (N p hp).1, (N p hp).2⟩
theorem set_K {l : Addr} {us : Array Value} {n : Nat} {xs : List Str} (F : Fr h₀ L s.heap m) (N : News h₀ L s.heap news) (hh : A.handled = none) (hl : h₀.get? l = some (W.listOf us n)) (hx : StrsAre us.toList xs) (z : us.size ≤ 1000)
    (k : ∀ D es ep tb h' tk n', Fr h₀ L h' m → News h₀ L h' ((D, setObj es ep tb) :: news) → (setObj es ep tb).SetObjOf (strKind prog w) (fun k => xs.contains k) n' → n' < scanBound → (∀ p ∈ news, p.1 < D) → Q (.ref D) { s with heap := h', toks := tk }) :
    wpAny (model prog w) A (call (.type "set") [.ref l]) Q E s := by
  refine call_set_strs hh ⟨_, F.keep _ _ hl, rfl, n, rfl⟩ hx (by unfold scanBound; omega) fun h' tk n' hS kp => ?_
  obtain ⟨o, es, ep, tb, ho, ⟨e1, e2, e3⟩, hd, hel, hmem, hb, hf, hn⟩ := hS
  obtain ⟨c, d, dt, sl⟩ := o
  simp only at e1 e2 e3 hd
  subst e1 e2 e3 hd
  exact k s.heap.objs.size es ep tb h' tk n' (F.grownK kp) (news_new F N kp ho (Nat.le_refl _)) ⟨⟨rfl, rfl, rfl⟩, es, ep, tb, rfl, hel, hmem, hn, hf⟩ (by rw [← hn]; exact hb) fun p hp => Heap.lt_size (N p hp).1
theorem contains_K {D : Addr} {es : Array (Int × Value)} {ep : Nat} {tb : SetTable} (F : Fr h₀ L s.heap m) (N : News h₀ L s.heap news) (hm : (D, setObj es ep tb) ∈ news)
    (k : ∀ b h' tk, Fr h₀ L h' m → News h₀ L h' ((b, bmObj D) :: news) → (∀ p ∈ news, p.1 < b) → Q (.ref b) { s with heap := h', toks := tk }) :
    wpAny (model prog w) A (getAttr (.ref D) (Str.ofString "__contains__") true) Q E s :=
  getAttr_set_contains (N _ hm).1 (k _ _ _ (F.push _) (N.push F _) fun p hp => Heap.lt_size (N p hp).1)
theorem filter_K {l b : Addr} {us : Array Value} {n : Nat} (F : Fr h₀ L s.heap m) (N : News h₀ L s.heap news) (hl : h₀.get? l = some (W.listOf us n))
    (k : ∀ it fl h', Fr h₀ L h' m → News h₀ L h' ((fl, filObj b it) :: (it, itObj l) :: news) → (∀ p ∈ news, p.1 < it) → it < fl → Q (.ref fl) { s with heap := h' }) :
    wpAny (model prog w) A (call (.type "filter") [.ref b, .ref l]) Q E s := by
  refine call_filter (F.keep _ _ hl) fun h' h1 h2 h3 kp => ?_
  refine k s.heap.objs.size (s.heap.objs.size + 1) h' (F.grownK kp) ?_ (fun p hp => Heap.lt_size (N p hp).1) (Nat.lt_succ_self _)
  have N1 := news_new F N kp h2 (Nat.le_refl _)
  have N2 := news_new F N kp h1 (Nat.le_succ _)
  intro p hp
  rcases List.mem_cons.mp hp with rfl | hp
  · exact N2 _ (.head _)
  · exact N1 p hp
theorem strs_of_items {xs : List Str} : ∀ {acc : List Value} {i : Nat}, i + acc.length = xs.length → (∀ j v, acc[j]? = some v → ∃ x t, v = Value.str x t ∧ xs[i + j]? = some x) → StrsAre acc (xs.drop i)
  | [], i, hl, _ => by
    rw [List.drop_eq_nil_of_le (by simp at hl; omega)]; exact .nil
  | v :: r, i, hl, h => by
    obtain ⟨x, t, rfl, e⟩ := h 0 v (by simp)
    have hlt : i < xs.length := by simp at hl; omega
    rw [List.drop_eq_getElem_cons hlt]
    have : xs[i] = x := by simp at e; exact (List.getElem?_eq_some_iff.mp e).2
    rw [this]
    refine .cons _ _ (strs_of_items (by simp at hl ⊢; omega) fun j v' hv => ?_)
    have := h (j + 1) v' (by simpa using hv)
    rw [show i + 1 + j = i + (j + 1) by omega]; exact this
theorem list_K {fl it l b D : Addr} {us : Array Value} {n n' : Nat} {xs ys : List Str} {es : Array (Int × Value)} {ep : Nat} {tb : SetTable} {rem : List (Addr × Obj)}
    (F : Fr h₀ L s.heap m) (N : News h₀ L s.heap news) (hh : A.handled = none) (hl : h₀.get? l = some (W.listOf us n)) (hx : StrsAre us.toList xs) (z : us.size ≤ 1000)
    (m1 : (fl, filObj b it) ∈ news) (m2 : (b, bmObj D) ∈ news) (m3 : (D, setObj es ep tb) ∈ news) (hS : (setObj es ep tb).SetObjOf (strKind prog w) (fun k => ys.contains k) n') (hb : n' < scanBound) (U : Rem it (itObj l) news rem)
    (k : ∀ D2 acc c h' tk, Fr h₀ L h' m → News h₀ L h' ((D2, W.listOf acc c) :: rem) → StrsAre acc.toList (xs.filter fun x => ys.contains x) → (∀ p ∈ news, p.1 < D2) → Q (.ref D2) { s with heap := h', toks := tk }) :
    wpAny (model prog w) A (call (.type "list") [.ref fl]) Q E s := by
  obtain ⟨m4, hrem⟩ := U.split
  have hL := F.keep _ _ hl
  have gf := (N _ m1).1
  have gb := (N _ m2).1
  have gD := (N _ m3).1
  have gi := (N _ m4).1
  have ne : ∀ {a o}, s.heap.get? a = some o → o ≠ itObj l → a ≠ it := fun e q r => by rw [r, gi] at e; exact q (Option.some.inj e).symm
  have n1 : fl ≠ it := ne gf (by intro q; exact absurd (congrArg Obj.cls q) (by simp))
  have n2 : l ≠ it := ne hL (by intro q; exact absurd (congrArg Obj.cls q) (by simp))
  have n3 : b ≠ it := ne gb (by intro q; exact absurd (congrArg Obj.cls q) (by simp))
  have n4 : D ≠ it := ne gD (by intro q; exact absurd (congrArg Obj.cls q) (by simp))
  have W := filter_walks (prog := prog) (w := w) (A := A.in1.in1) fl it l b D us xs (fun x => ys.contains x) (by simpa using hh) hx n1 n2 n3 n4
  have hlen : xs.length = us.size := by have := strs_len hx; rw [← this]; simp
  refine call_list_filter W.toS (fun i s' hs => ⟨_, hs.choose_spec.2.2.fil, rfl⟩) ⟨0, Nat.zero_le _, by simp, gf, gb, ⟨n', hS.setOf gD hb⟩, ⟨_, gi, rfl, rfl⟩, ⟨_, hL, rfl, n, rfl⟩⟩ (fun q hq => ?_) (by simp)
    (by have := List.length_filter_le (fun x => ys.contains x) xs; rw [sizeLine_eq]; omega) fun s' acc c hm hl' hac => ?_
  · simp only [List.mem_cons, List.not_mem_nil, or_false] at hq
    rcases hq with rfl | rfl | rfl | rfl | rfl
    · exact Heap.lt_size gf
    · exact Heap.lt_size gi
    · exact Heap.lt_size hL
    · exact Heap.lt_size gb
    · exact Heap.lt_size gD
  · obtain ⟨h', g', d', tk', os'⟩ := s'
    have eg : g' = s.gens := hm.gens
    have ed : d' = s.drawn := hm.drawn
    have eo : os' = s.os := hm.os
    subst eg; subst ed; subst eo
    have kp : ∀ a o, a ≠ it → s.heap.get? a = some o → h'.get? a = some o := fun a o q e => hm.heap a o (by
      have := Heap.lt_size e
      simp only [List.mem_cons, List.not_mem_nil, or_false, not_or]
      exact ⟨Nat.ne_of_lt this, q⟩) (Heap.get?_push_of_some _ e)
    have hi0 : h₀.get? it = none := (N _ m4).2.2
    have hiL : it ≠ L := (N _ m4).2.1
    have F' : Fr h₀ L h' m := ⟨F.ns.at' fun o e => kp L o (Ne.symm hiL) e, fun a o e => kp a o (fun q => by rw [q, hi0] at e; cases e) (F.keep a o e), F.above⟩
    refine k s.heap.objs.size acc c h' tk' F' (fun p hp => ?_) ?_ fun p hp => Heap.lt_size (N p hp).1
    · rcases List.mem_cons.mp hp with rfl | hp
      · refine ⟨hl', Nat.ne_of_gt F.ns.lt, ?_⟩
        cases q : h₀.get? s.heap.objs.size with
        | none => rfl
        | some o' => exact absurd (Heap.lt_size (F.keep _ _ q)) (Nat.lt_irrefl _)
      · obtain ⟨p1, p2⟩ := hrem p hp
        exact ⟨kp _ _ p2 (N p p1).1, (N p p1).2⟩
    · have := strs_of_items (xs := xs.filter fun x => ys.contains x) (acc := acc.toList) (i := 0) (by simp [hac.1]) fun j v hv => by
        obtain ⟨x, t, e1, e2⟩ := hac.2 j v (by simpa using hv)
        exact ⟨x, t, e1, by simpa using e2⟩
      simpa using this
end

theorem fill5 : PySem.Challenge.rw_rl0034_01 = PySem.Challenge.rw_rl0034_01 ∧ hd.heap_1 = hd.heap_1 := by
  k_fill
  exact ⟨rfl, rfl⟩
def EntIn (w : World) (nw : List (Addr × Obj)) (x : Addr) (us rs : Array Value) : Prop :=
  ∃ d lu lr t1 t2 t3 t4 n n1 n2, (x, instObj 66 d) ∈ nw ∧ (d, dictOf (entL w t1 t2 t3 t4 lu lr) n) ∈ nw ∧ (lu, W.listOf us n1) ∈ nw ∧ (lr, W.listOf rs n2) ∈ nw
def EntAt (w : World) (h : Heap) (x : Addr) (us rs : Array Value) : Prop :=
  ∃ d lu lr t1 t2 t3 t4 n n1 n2, h.get? x = some (instObj 66 d) ∧ h.get? d = some (dictOf (entL w t1 t2 t3 t4 lu lr) n) ∧ h.get? lu = some (W.listOf us n1) ∧ h.get? lr = some (W.listOf rs n2)
theorem inst_up {h₀ h : Heap} {L x C : Addr} {m : Str → Option Value} {ox : Obj} {od : Option Obj} (F : Fr h₀ L h m) (I : InstAt h₀ x ox C od) : InstAt h x ox C od := by
  obtain ⟨a, b, c, d⟩ := I
  refine ⟨F.keep _ _ a, b, c, ?_⟩
  revert d
  cases ox.dict <;> cases od <;> simp_all
  intro q; exact F.keep _ _ q
theorem words_LMerge_0 : True := by
  k_with_none
  (k_with "mine k_inst" => (exact inst_up (by k_asm) (by assumption)))
  (k_with "mine lvl" => (exact lvl_of rfl rfl rfl rfl))
  (k_with "call ref" => ((k_here; (with_reducible show wpAny _ _ (call (Value.ref 66) _) _ _ _); k_dflt (refine' entry_new ?RwMerge16 ?FwMerge16 ?NwMerge16 ?XwMerge16 ?TwMerge16 ?_; (case RwMerge16 => k_extra "mine lvl"); (case FwMerge16 => k_asm); (case NwMerge16 => k_asm); (case XwMerge16 => k_asm); (case TwMerge16 => k_asm)); intro _ _ _ _ _ _ _ _ _ _ _ _; walk_at "tail l4"; (try dsimp only); (try k_sweep))))
  (k_with "mine enterP" => (k_dflt (refine' enterP ?rwMerge17 ?GwMerge17 ?howMerge17 ?hcdwMerge17 ?hbwMerge17 ?hlwMerge17 ?hcwMerge17 ?_ ?c1wMerge17 ?c2wMerge17 ?c3wMerge17; (case GwMerge17 => assumption); (case howMerge17 => k_is); (case rwMerge17 => exact Nat.le_of_ble_eq_true rfl); (case hcdwMerge17 => k_is); (case hbwMerge17 => exact BindsTo.of_eq rfl); (case hlwMerge17 => exact locs rfl); (case hcwMerge17 => decide); (case c1wMerge17 => exact rfl); (case c2wMerge17 => exact rfl); (case c3wMerge17 => exact rfl))))
  trivial
theorem addL_K {prog : Program} {w : World} {A : Around} {E : Value → Shared → Prop} {s : Shared} {h₀ : Heap} {L : Addr} {m : Str → Option Value} {news : List (Addr × Obj)} {Q : Value → Shared → Prop} {l b : Addr} {r1 r2 : Array Value} {n1 n2 : Nat}
    (F : Fr h₀ L s.heap m) (N : News h₀ L s.heap news) (h1 : h₀.get? l = some (W.listOf r1 n1)) (h2 : h₀.get? b = some (W.listOf r2 n2)) (z : r1.size + r2.size ≤ 1000)
    (k : ∀ D h', Fr h₀ L h' m → News h₀ L h' ((D, W.listOf (r1 ++ r2) 0) :: news) → (∀ p ∈ news, p.1 < D) → Q (.ref D) { s with heap := h' }) :
    wpAny (model prog w) A (binaryOp .Add (.ref l) (.ref b)) Q E s := by
  refine add_arrays F N ⟨_, F.keep _ _ h1, rfl, n1, rfl⟩ ⟨_, F.keep _ _ h2, rfl, n2, rfl⟩ (fun h' F' N' => k _ h' F' ?_ fun p hp => Heap.lt_size (N p hp).1) (by rw [sizeLine_eq]; omega)
  have e : (r1.toList ++ r2.toList).toArray = r1 ++ r2 := by simp
  rw [e] at N'
  exact N'
theorem words_LMerge_1 : True := by
  (k_with "binaryOp Add ref ref" => ((k_here; (with_reducible show wpAny _ _ (binaryOp Operator.Add (Value.ref _) (Value.ref _)) _ _ _); k_dflt (refine' addL_K ?FwMerge18 ?NwMerge18 ?awMerge18 ?bwMerge18 ?zwMerge18 ?_; (case FwMerge18 => k_asm); (case NwMerge18 => k_asm); (case awMerge18 => assumption); (case bwMerge18 => assumption); (case zwMerge18 => assumption)); intro _ _ _ _; walk_at "tail l1"; (try dsimp only); (try k_sweep))))
  (k_with "mine rem" => (first | (refine' Rem.head ?awMerge19; (case awMerge19 => k_all)) | (refine' Rem.tail ?awMerge19 ?bwMerge19; (case awMerge19 => k_ne); (case bwMerge19 => k_extra "mine rem"))))
  (k_with "call type:set" => ((k_here; (with_reducible show wpAny _ _ (call (Value.type "set") [Value.ref _]) _ _ _); k_dflt (refine' set_K ?FwMerge20 ?NwMerge20 ?hhwMerge20 ?lwMerge20 ?xwMerge20 ?zwMerge20 ?_; (case FwMerge20 => k_asm); (case NwMerge20 => k_asm); (case hhwMerge20 => exact rfl); (case lwMerge20 => assumption); (case xwMerge20 => assumption); (case zwMerge20 => assumption)); intro _ _ _ _ _ _ _ _ _ _ _; walk_at "tail l1"; (try dsimp only); (try k_sweep))))
  (k_with "getAttr ref" => ((k_here; (with_reducible show wpAny _ _ (getAttr (Value.ref _) (Str.ofString "__contains__") true) _ _ _); k_dflt (refine' contains_K ?FwMerge21 ?NwMerge21 ?mwMerge21 ?_; (case FwMerge21 => k_asm); (case NwMerge21 => k_asm); (case mwMerge21 => k_mem)); intro _ _ _ _ _; walk_at "tail l1"; (try dsimp only); (try k_sweep))))
  (k_with "call type:filter" => ((k_here; (with_reducible show wpAny _ _ (call (Value.type "filter") _) _ _ _); k_dflt (refine' filter_K ?FwMerge22 ?NwMerge22 ?lwMerge22 ?_; (case FwMerge22 => k_asm); (case NwMerge22 => k_asm); (case lwMerge22 => assumption)); intro _ _ _ _ _; walk_at "tail l2"; (try dsimp only); (try k_sweep))))
  (k_with "call type:list" => ((k_here; (with_reducible show wpAny _ _ (call (Value.type "list") _) _ _ _); k_dflt (refine' list_K ?FwMerge23 ?NwMerge23 ?hhwMerge23 ?lwMerge23 ?xwMerge23 ?zwMerge23 ?m1wMerge23 ?m2wMerge23 ?m3wMerge23 ?SwMerge23 ?bwMerge23 ?UwMerge23 ?_; (case FwMerge23 => k_asm); (case NwMerge23 => k_asm); (case hhwMerge23 => exact rfl); (case m1wMerge23 => k_mem); (case UwMerge23 => k_extra "mine rem"); (case lwMerge23 => assumption); (case xwMerge23 => assumption); (case zwMerge23 => assumption); (case m2wMerge23 => k_mem); (case m3wMerge23 => k_mem); (case SwMerge23 => assumption); (case bwMerge23 => assumption)); intro _ _ _ _ _ _ _ _; walk_at "tail l1"; (try dsimp only); (try k_sweep))))
  trivial
set_option maxHeartbeats 8000000 in
theorem merge_spec {w : World} {A : Around} {s : Shared} {Q : Value → Shared → Prop} {E : Value → Shared → Prop} (R : Lvl A 900) (G : Gr w s.heap) {e1 e2 : Addr} {us1 rs1 us2 rs2 : Array Value} {xs1 xs2 : List Str}
    (h1 : EntAt w s.heap e1 us1 rs1) (h2 : EntAt w s.heap e2 us2 rs2) (hx1 : StrsAre us1.toList xs1) (hx2 : StrsAre us2.toList xs2) (z1 : us1.size ≤ 1000) (z2 : us2.size ≤ 1000) (z3 : rs1.size + rs2.size ≤ 1000)
    (k : ∀ x nw us h' tk, (∀ b o, s.heap.get? b = some o → h'.get? b = some o) → (∀ p ∈ nw, h'.get? p.1 = some p.2 ∧ s.heap.get? p.1 = none) → EntIn w nw x us (rs1 ++ rs2) → StrsAre us.toList (xs1.filter fun x => xs2.contains x) → Q (.ref x) { s with heap := h', toks := tk }) :
    wpAny (model PR w) A (call (.ref 77) [.ref e1, .ref e2]) Q E s := by
  obtain ⟨p, l, m, mg, mb, T⟩ := G.top
  have X := G.kin
  obtain ⟨d1, lu1, lr1, t11, t12, t13, t14, n1, n11, n12, a1, b1, c1, f1⟩ := h1
  obtain ⟨d2, lu2, lr2, t21, t22, t23, t24, n2, n21, n22, a2, b2, c2, f2⟩ := h2
  have I1 : InstAt s.heap e1 (instObj 66 d1) 66 (some (dictOf (entL w t11 t12 t13 t14 lu1 lr1) n1)) := ⟨a1, rfl, rfl, b1⟩
  have I2 : InstAt s.heap e2 (instObj 66 d2) 66 (some (dictOf (entL w t21 t22 t23 t24 lu2 lr2) n2)) := ⟨a2, rfl, rfl, b2⟩
  clear a1 b1 a2 b2
  refine lower R ?_
  clear R
  generalize A.frames = fr
  k_extra "mine enterP"
  intro L h₁ F N
  (try dsimp only)
  (try k_fold)
  k_steps
  rename Fr _ _ _ _ => kF
  rename News _ _ _ _ => kN
  rename StrsAre _ (List.filter _ _) => kS
  exact k _ _ _ _ _ kF.keep (fun q hq => ⟨(kN q hq).1, (kN q hq).2.2⟩) ⟨_, _, _, _, _, _, _, _, _, _, by k_mem, by k_mem, by k_mem, by k_mem⟩ kS

def TurnEnd (h₀ : Heap) (L I : Addr) (oI : Obj) (J : (Str → Option Value) → List (Addr × Obj) → Prop) (s : Shared) (f : Flow) (s' : Shared) : Prop :=
  (f = .next ∨ f = .cont) ∧ ∃ h' tk m₂ news₂, s' = { s with heap := h', toks := tk } ∧ Fr h₀ L h' m₂ ∧ News h₀ L h' ((I, oI) :: news₂) ∧ (∀ p ∈ news₂, p.1 ≠ I) ∧ J m₂ news₂
section
variable {prog : Program} {w : World} {A : Around} {E : Value → Shared → Prop} {s : Shared} {h₀ : Heap} {L : Addr} {m : Str → Option Value} {news : List (Addr × Obj)} {Q : Flow → Shared → Prop} {env : Env} {target : Expr} {body : List Stmt}
theorem iter_mine {l : Addr} {items : Array Value} {n : Nat} (J : Nat → (Str → Option Value) → List (Addr × Obj) → Prop) (hh : A.handled = none) (F : Fr h₀ L s.heap m) (N : News h₀ L s.heap news) (j0 : J 0 m news)
    (hl : ∀ i m₁ news₁, J i m₁ news₁ → h₀.get? l = some (W.listOf items n) ∨ (l, W.listOf items n) ∈ news₁)
    (turn : ∀ i v m₁ news₁ I oI h tk, items[i]? = some v → J i m₁ news₁ → Fr h₀ L h m₁ → News h₀ L h ((I, oI) :: news₁) → (∀ p ∈ news₁, p.1 ≠ I) →
      wpAny (model prog w) A (assign target env v) (fun _ s₃ => wpAny (model prog w) A (execs body env) (TurnEnd h₀ L I oI (J (i + 1)) s) (fun _ _ => False) s₃) (fun _ _ => False) { s with heap := h, toks := tk })
    (done : ∀ m₁ news₁ h tk, J items.size m₁ news₁ → Fr h₀ L h m₁ → News h₀ L h news₁ → Q .next { s with heap := h, toks := tk })
    (ht : ∀ it v, letOwnedTupleGo target it v = pure ()) {RE : Value → Shared → Prop} :
    wpAny (model prog w) A (pyIter (.ref l)) (fun it s₂ => codeAny (model prog w) A (.forLoop target it body [] env) (fun r s' => match r with | .ok f => Q f s' | .error e => RE e s') s₂) E s := by
  have src : ∀ {i m₁ news₁ h}, J i m₁ news₁ → Fr h₀ L h m₁ → News h₀ L h news₁ → h.get? l = some (W.listOf items n) := fun j F N => (hl _ _ _ j).elim (fun q => F.keep _ _ q) fun q => (N _ q).1
  have e0 := src j0 F N
  have hlt : l < s.heap.objs.size := Heap.lt_size e0
  refine wpAny_pyIter_list ⟨_, e0, rfl, n, rfl⟩ ?_
  generalize hI : s.heap.objs.size = I at hlt ⊢
  have hI0 : ∀ {a o}, s.heap.get? a = some o → a ≠ I := fun e q => by have := Heap.lt_size e; rw [q, hI] at this; exact Nat.lt_irrefl _ this
  have hIL : I ≠ L := fun q => by have := F.ns.lt; rw [hI, q] at this; exact Nat.lt_irrefl _ this
  have hIb : h₀.get? I = none := by
    cases q : h₀.get? I with
    | none => rfl
    | some o => exact absurd rfl (hI0 (F.keep _ _ q))
  have hli : l ≠ I := hI0 e0
  refine codeAny_forLoop (fun k s' => ∃ i h' tk m₁ news₁ oI, s' = { s with heap := h', toks := tk } ∧ h'.IsListIter I l i ∧ h'.get? I = some oI ∧ J i m₁ news₁ ∧ Fr h₀ L h' m₁ ∧ News h₀ L h' news₁ ∧ (∀ p ∈ news₁, p.1 ≠ I) ∧ i ≤ items.size ∧ k = items.size + 1 - i) ?_ (items.size + 1)
    ⟨0, _, s.toks, m, news, itObj l, rfl, ?_, ?_, j0, F.push _, fun p hp => ⟨Heap.get?_push_of_some _ (N p hp).1, (N p hp).2⟩, fun p hp => hI0 (N p hp).1, Nat.zero_le _, rfl⟩ (fun v => ht _ v)
  · rintro k s' ⟨i, h', tk, m₁, news₁, oI, rfl, hit, gI, j, F', N', sep, hle, rfl⟩
    have el := src j F' N'
    by_cases hlt' : i < items.size
    · refine wpAny_pyNext_list_item hit ⟨_, el, rfl, n, rfl⟩ (x := items[i]) (by simp [hlt']) fun h₂ hit₂ hs₂ => ?_
      obtain ⟨oI₂, gI₂, _⟩ := id hit₂
      have F₂ : Fr h₀ L h₂ m₁ := F'.change hs₂ hIL hIb
      have N₂ : News h₀ L h₂ ((I, oI₂) :: news₁) := fun p hp => by
        rcases List.mem_cons.mp hp with rfl | hp
        · exact ⟨gI₂, hIL, hIb⟩
        · exact ⟨hs₂.extBut _ _ (sep p hp) (N' p hp).1, (N' p hp).2⟩
      refine wpAny_mono (turn i items[i] m₁ news₁ I oI₂ h₂ tk (by simp [hlt']) j F₂ N₂ sep) (fun _ s₃ h₃ => wpAny_mono h₃ (fun f s₄ h₄ => ?_) fun _ _ x => x.elim) fun _ _ x => x.elim
      obtain ⟨hf, h₅, tk₅, m₅, news₅, rfl, F₅, N₅, sep₅, j₅⟩ := h₄
      have fin : ∃ q, q < items.size + 1 - i ∧ ∃ i' h' tk m₁ news₁ oI, ({ s with heap := h₅, toks := tk₅ } : Shared) = { s with heap := h', toks := tk } ∧ h'.IsListIter I l i' ∧ h'.get? I = some oI ∧ J i' m₁ news₁ ∧ Fr h₀ L h' m₁ ∧ News h₀ L h' news₁ ∧ (∀ p ∈ news₁, p.1 ≠ I) ∧ i' ≤ items.size ∧ q = items.size + 1 - i' := by
        refine ⟨items.size + 1 - (i + 1), by omega, i + 1, h₅, tk₅, m₅, news₅, oI₂, rfl, ?_, (N₅ _ (.head _)).1, j₅, F₅, fun p hp => N₅ p (.tail _ hp), sep₅, hlt', rfl⟩
        obtain ⟨o, ho, hc, hd⟩ := hit₂
        rw [gI₂] at ho; cases ho
        exact ⟨_, (N₅ _ (.head _)).1, hc, hd⟩
      rcases hf with rfl | rfl <;> exact fin
    · have hin : i = items.size := by omega
      subst hin
      refine wpAny_pyNext_list_end hh hit ⟨_, el, rfl, n, rfl⟩ (by simp) fun h₂ hx => wpAny_execs_nil ?_
      have F₂ : Fr h₀ L h₂ m₁ := ⟨F'.ns.at' fun o e => hx _ _ (Ne.symm hIL) e, fun a o e => hx a o (fun q => by rw [q, hIb] at e; cases e) (F'.keep a o e), F'.above⟩
      exact done m₁ news₁ h₂ tk j F₂ fun p hp => ⟨hx _ _ (sep p hp) (N' p hp).1, (N' p hp).2⟩
  · subst hI
    exact ⟨_, Heap.get?_push_size _ rfl, rfl, rfl⟩
  · subst hI
    exact Heap.get?_push_size _ rfl
end

section
variable {prog : Program} {w : World} {A : Around} {E : Value → Shared → Prop} {s : Shared} {K : Frag} {h₀ : Heap} {L x C : Addr} {m : Str → Option Value} {ox : Obj} {es : List DictEntry} {n : Nat} {name : Str} {v : Value}
theorem hasDict_some (hh : hasDictIn K C = true) : ∃ cd, clsIn K C = some cd ∧ cd.hasDict = true := by
  unfold hasDictIn at hh
  cases e : clsIn K C with
  | none => rw [e] at hh; cases hh
  | some cd => rw [e] at hh; exact ⟨cd, rfl, hh⟩
theorem findObj_ownF {od : Obj} {a g : Value} (hh : hasDictIn K C = true) (ha : findIn K (.ref C) name = some (some a)) (hg : specialIn K a "__get__" = some (some g)) (ht : takesIn K a = some false) (hl : lookIn name od = some (some v)) :
    findObj K C (some od) name = some (.value v) := by
  obtain ⟨cd, hc, hd⟩ := hasDict_some hh
  unfold findObj
  rw [hc, Option.bind_some, ha, Option.bind_some]
  have ho : PySem.W.ownOf cd (some od) name = some (some v) := by unfold PySem.W.ownOf; rw [if_pos hd]; exact hl
  simp [hg, ht, ho]
theorem get_ownF {expr : Bool} {Q : Value → Shared → Prop} {a g : Value} (F : Fr h₀ L s.heap m) (X₀ : K.In h₀) (I : InstAt s.heap x ox C (some (dictOf es n))) (hg : plainGet K C name = true) (hh : hasDictIn K C = true)
    (ha : findIn K (.ref C) name = some (some a)) (hs : specialIn K a "__get__" = some (some g)) (ht : takesIn K a = some false) (hl : getL name es = some (some v)) (hv : handedIn v = true) (h : Q v { s with toks := s.toks + 1 }) :
    wpAny (model prog w) A (getAttr (.ref x) name expr) Q E s :=
  get_value (X₀.keeps F.keep) I (plainGet_of hg).1 (findObj_ownF hh ha hs ht hl) hv h
theorem nsLook_some {M : Model} {B : Around} {α : Type} {d : Addr} {o : Obj} {f : Option Value → Sem α} {P : α → Shared → Prop} {E' : Value → Shared → Prop} {s' : Shared} (hd : s'.heap.get? d = some o) (hl : lookIn name o = some (some v)) (h : wpAny M B (f (some v)) P E' s') :
    wpAny M B (nsGet d name >>= f) P E' s' := by
  refine wpAny_bind (wpAny_bind (wpAny_loadPart hd ?_))
  rw [nsLook_of hl]
  exact wpAny_pure h
theorem method_ownF {pl : Sem Bool} {Q : Value × List Value → Shared → Prop} {a : Value} (F : Fr h₀ L s.heap m) (X₀ : K.In h₀) (I : InstAt s.heap x ox C (some (dictOf es n))) (hod : ox.dict.isSome = true) (hg : plainGet K C name = true)
    (hf : findIn K (.ref C) name = some (some a)) (hl : getL name es = some (some v)) (ht : typeIn K a = some (.type "function")) (h : wpAny (model prog w) A (getAttr (.ref x) name) (fun u => Q (u, [])) E s) : wpAny (model prog w) A (getMethod (.ref x) name pl) Q E s := by
  have X := X₀.keeps F.keep
  have hcan := PySem.F.canon_object_ga
  unfold getMethod specialOf
  refine wpAny_bind (wpAny_bind (I.type.here ((looks_findIn X (plainGet_of hg).1).here ?_)))
  dsimp only
  rw [hcan, if_neg (by decide)]
  refine wpAny_bind (wpAny_bind (I.type.here ((looks_findIn X (plainGet_of hg).2).here ?_)))
  refine wpAny_bind (wpAny_bind (I.type.here ((looks_findIn X hf).here (wpAny_bind ((looks_typeIn X ht).here ?_)))))
  rw [if_neg (by decide +kernel)]
  refine wpAny_bind (wpAny_loadPart I.at_ ?_)
  have hd := I.dict
  cases e : ox.dict with
  | none => rw [e] at hod; cases hod
  | some dx =>
    rw [e] at hd
    refine nsLook_some hd (by rw [lookIn_dict]; exact hl) ?_
    rw [if_pos (show (some v).isSome = true from rfl)]
    exact wpAny_bind (wpAny_mono h (fun _ _ z => wpAny_pure z) fun _ _ z => z)
end

theorem fill6 : PySem.Challenge.rw_rl0034_01 = PySem.Challenge.rw_rl0034_01 ∧ hd.heap_1 = hd.heap_1 := by
  k_fill
  exact ⟨rfl, rfl⟩
def LamAt (h : Heap) (f : Addr) (r : Int) : Prop :=
  ∃ c pm c' ctv oc tr, h.get? f = some (lamObj c pm c' ctv) ∧ h.get? c = some oc ∧ oc.data = .cell (some (.int r tr)) ∧ h.CodeRec (.ref c') lamQ
theorem LamAt.keeps {h h' : Heap} {f : Addr} {r : Int} (x : LamAt h f r) (k : ∀ b o, h.get? b = some o → h'.get? b = some o) : LamAt h' f r := by
  obtain ⟨c, pm, c', ctv, oc, tr, a, b, d, e⟩ := x
  exact ⟨c, pm, c', ctv, oc, tr, k _ _ a, k _ _ b, d, e.keeps k⟩
section
variable {w : World} {A : Around} {s : Shared} {Q : Value → Shared → Prop} {E : Value → Shared → Prop}
theorem lam_call {f : Addr} {r : Int} {v : Value} (hroom : A.depth < recursionLimit) (hlim : s.heap.NoLimit) (hf : LamAt s.heap f r)
    (k : ∀ t h' tk, (∀ b o, s.heap.get? b = some o → h'.get? b = some o) → Q (.int r t) { s with heap := h', toks := tk }) :
    wpAny (model PR w) A (call (.ref f) [v]) Q E s := by
  obtain ⟨c, pm, c', ctv, oc, tr, hf, hc, hd, hcd⟩ := hf
  refine wpAny_call (kla_callFunE hroom hf rfl rfl rfl rfl hcd ?_)
  refine (BindsTo.of_eq (binds := [(Str.ofString "name", v)]) rfl) _ _ _ _ ?_
  refine wpAny_newFunctionEnv (show ∀ x ∈ lamScope.names, x.2 ≠ .cell by decide) (by intro y hy; rcases List.mem_singleton.mp hy with rfl; rfl) (fun h₁ hns hsb => ⟨hlim.fresh _ hsb, ?_⟩) rfl
  have kp : ∀ b o, s.heap.get? b = some o → h₁.get? b = some o := fun b o e => hsb.extBut b o (Nat.ne_of_lt (Heap.lt_size e)) (Heap.get?_push_of_some _ e)
  refine kla_codeExpr (wpAny_mono (E := fun _ _ => False) (Q := fun v s' => Q v s') ?_ (fun _ _ x => x) (fun _ _ x => x.elim))
  exact wpAny_Name (wpAny_loadName_free rfl rfl rfl ⟨oc, kp _ _ hc, hd⟩ (k tr h₁ _ kp) (by decide)) (by decide)
end

def RuleAt (w : World) (h : Heap) (x : Addr) (r : Int) (b : Bool) : Prop :=
  ∃ d lu lr t1 t2 t3 t4 t5 t6 n f, h.get? x = some (instObj 66 d) ∧ h.get? d = some (dictOf (ruleL w t1 t2 t3 t4 t5 t6 lu lr f b) n) ∧ LamAt h f r
theorem RuleAt.keeps {w : World} {h h' : Heap} {x : Addr} {r : Int} {b : Bool} (y : RuleAt w h x r b) (k : ∀ b o, h.get? b = some o → h'.get? b = some o) : RuleAt w h' x r b := by
  obtain ⟨d, lu, lr, t1, t2, t3, t4, t5, t6, n, f, a, c, e⟩ := y
  exact ⟨d, lu, lr, t1, t2, t3, t4, t5, t6, n, f, k _ _ a, k _ _ c, e.keeps k⟩
def stepA (p : Int × Bool) (r : Int × Bool) : Int × Bool := if r.1 > p.1 then r else if r.1 = p.1 ∧ p.2 = false then (p.1, r.2) else p
def RulesAt (w : World) (h : Heap) (vs : Array Value) (rs : List (Int × Bool)) : Prop :=
  vs.size = rs.length ∧ ∀ (i : Nat) (v : Value), vs[i]? = some v → ∃ x r, v = .ref x ∧ rs[i]? = some r ∧ RuleAt w h x r.1 r.2 ∧ 0 < r.1
theorem words_LLam_0 : True := by
  k_with_none
  (k_with "mine k_inst" => (exact inst_up (by k_asm) (by assumption)))
  (k_with "mine lvl" => (exact lvl_of rfl rfl rfl rfl))
  (k_with "mine enterP" => (k_dflt (refine' enterP ?rwLam26 ?GwLam26 ?howLam26 ?hcdwLam26 ?hbwLam26 ?hlwLam26 ?hcwLam26 ?_ ?c1wLam26 ?c2wLam26 ?c3wLam26; (case GwLam26 => assumption); (case howLam26 => k_is); (case rwLam26 => exact Nat.le_of_ble_eq_true rfl); (case hcdwLam26 => k_is); (case hbwLam26 => exact BindsTo.of_eq rfl); (case hlwLam26 => exact locs rfl); (case hcwLam26 => decide); (case c1wLam26 => exact rfl); (case c2wLam26 => exact rfl); (case c3wLam26 => exact rfl))))
  (k_with "exec For Name Attribute cons nil" => ((k_here; with_unfolding_all refine wpAny_For ?_)))
  (k_with "getMethod ref" => ((k_here; k_dflt (refine' method_ownF ?FwLam28 ?XwLam28 ?IwLam28 ?owLam28 ?gwLam28 ?fwLam28 ?lwLam28 ?twLam28 ?_; (case FwLam28 => k_asm); (case XwLam28 => k_asm); (case IwLam28 => k_inst); (case owLam28 => exact rfl); (case gwLam28 => k_is); (case fwLam28 => k_is); (case lwLam28 => k_get); (case twLam28 => k_is); k_whole); (try dsimp only))))
  (k_with "getAttr ref" => ((k_here; k_dflt (refine' get_ownF ?FwLam29 ?XwLam29 ?IwLam29 ?gwLam29 ?hwLam29 ?awLam29 ?swLam29 ?twLam29 ?lwLam29 ?vwLam29 ?_; (case FwLam29 => k_asm); (case XwLam29 => k_asm); (case IwLam29 => k_inst); (case gwLam29 => k_is); (case hwLam29 => k_is); (case awLam29 => k_is); (case swLam29 => k_is); (case twLam29 => k_is); (case lwLam29 => k_get); (case vwLam29 => k_handed); k_whole))))
  trivial
theorem lam_K {w : World} {A : Around} {s : Shared} {Q : Value → Shared → Prop} {E : Value → Shared → Prop} {h₀ : Heap} {L : Addr} {m : Str → Option Value} {news : List (Addr × Obj)} {p : Program} {loose : List Str} {mean : ExcName → Option Value} {mg mb : Str → Option Value} {f : Addr} {r : Int} {v : Value}
    (hroom : A.depth < recursionLimit) (F : Fr h₀ L s.heap m) (N : News h₀ L s.heap news) (T : Top p loose mean mg mb h₀) (hf : LamAt h₀ f r)
    (k : ∀ t h' tk, Fr h₀ L h' m → News h₀ L h' news → Q (.int r t) { s with heap := h', toks := tk }) : wpAny (model PR w) A (call (.ref f) [v]) Q E s :=
  lam_call hroom (T.nolimit.keeps F.keep) (hf.keeps F.keep) fun t h' tk kp => k t h' tk (F.grownK kp) (N.grown kp)
theorem words_LLam_1 : True := by
  (k_with "call ref" => ((k_here; k_dflt (refine' lam_K ?rwLam30 ?FwLam30 ?NwLam30 ?TwLam30 ?fwLam30 ?_; (case FwLam30 => k_asm); (case NwLam30 => k_asm); (case TwLam30 => k_asm); (case fwLam30 => assumption); (case rwLam30 => exact Nat.le_of_ble_eq_true rfl); k_whole); intro _ _ _ _ _; (try k_sweep))))
  trivial
theorem callWith_lam {M : Model} {A : Around} {E : Value → Shared → Prop} {s : Shared} {env : Env} {h₀ : Heap} {pos : Pos} {f c c' : Addr} {pm ctv : Value} {e : Expr} {rest : List Expr} {Q : Value → Shared → Prop}
    (hf : h₀.get? f = some (lamObj c pm c' ctv))
    (h : wpAny M A (spliced (backTo pos (starEach (e :: rest) env))) (fun vs s₁ => s₁.heap.get? f = some (lamObj c pm c' ctv) ∧ wpAny M A (call (.ref f) vs) Q E s₁) E s)
    (he : starEach (e :: rest) env = (false, eval e env) :: starEach rest env) :
    wpAny M A (callWith pos (.ref f) [] (backTo pos (starEach (e :: rest) env)) []) Q E s := let _ := hf; callWith_def rfl h he
theorem words_LLam_2 : True := by
  (k_with "callWith ref" => ((k_here; k_dflt (refine' callWith_lam ?fwLam31 ?_ ?ewLam31; (case fwLam31 => assumption); (case ewLam31 => exact rfl); k_whole))))
  (k_with "And" => (((with_reducible show Heap.get? _ _ = some _ ∧ _); refine ⟨Fr.keep (by k_asm) _ _ (by assumption), ?_⟩; try dsimp only [List.nil_append, List.cons_append])))
  trivial
theorem take_step {rs : List (Int × Bool)} {i : Nat} {r p : Int × Bool} (hri : rs[i]? = some r) (hf : (rs.take i).foldl stepA (-1, true) = p) : (rs.take (i + 1)).foldl stepA (-1, true) = stepA p r := by
  rw [List.take_add_one, hri, List.foldl_append, hf]; rfl
abbrev mA (e : Addr) (fn : Value) (bm : Int) (tb : Tok) (al : Bool) (ul um : Option Value) : Str → Option Value := fun y =>
  if y = Str.ofString "m" then um else if y = Str.ofString "line" then ul else if y = Str.ofString "allowance" then some (.bool al) else if y = Str.ofString "best_match" then some (.int bm tb)
  else if y = Str.ofString "filename" then some fn else if y = Str.ofString "self" then some (.ref e) else none
theorem words_LLam_3 : True := by
  (k_with "mine meq" => ((funext y; by_cases h1 : y = Str.ofString "m"; (subst h1; rfl); by_cases h2 : y = Str.ofString "line"; (subst h2; rfl); by_cases h3 : y = Str.ofString "allowance"; (subst h3; rfl); by_cases h4 : y = Str.ofString "best_match"; (subst h4; rfl); by_cases h5 : y = Str.ofString "filename"; (subst h5; rfl); by_cases h6 : y = Str.ofString "self"; (subst h6; rfl); simp [mA, h1, h2, h3, h4, h5, h6, List.lookup_cons] <;> (intro a b hab; rcases hab with ⟨_, e9⟩ | ⟨e9, _⟩; (rw [← e9]; assumption); (rw [e9]; assumption)))))
  trivial
set_option maxHeartbeats 8000000 in
theorem allow_spec {w : World} {A : Around} {s : Shared} {Q : Value → Shared → Prop} {E : Value → Shared → Prop} (R : Lvl A 900) (G : Gr w s.heap) {e : Addr} {us vs : Array Value} {x : Str} {t : Tok} {rs : List (Int × Bool)}
    (h : EntAt w s.heap e us vs) (hr : RulesAt w s.heap vs rs)
    (k : ∀ h' tk, (∀ b o, s.heap.get? b = some o → h'.get? b = some o) → Q (.bool (rs.foldl stepA (-1, true)).2) { s with heap := h', toks := tk }) :
    wpAny (model PR w) A (call (.ref 63) [.ref e, .str x t]) Q E s := by
  obtain ⟨p, l, m, mg, mb, T⟩ := G.top
  have X := G.kin
  obtain ⟨d, lu, lr, t1, t2, t3, t4, n, n1, n2, a, b, c, f⟩ := h
  have I : InstAt s.heap e (instObj 66 d) 66 (some (dictOf (entL w t1 t2 t3 t4 lu lr) n)) := ⟨a, rfl, rfl, b⟩
  refine lower R ?_
  clear R
  generalize A.frames = fr
  k_extra "mine enterP"
  intro L h₁ F N
  (try dsimp only)
  (try k_fold)
  k_steps
  rename Fr _ _ _ _ => F'
  rename News _ _ _ _ => N'
  refine iter_mine (n := n2) (items := vs) (fun i m₁ news₁ => news₁ = [] ∧ ∃ bm tb al ul um, (rs.take i).foldl stepA (-1, true) = (bm, al) ∧ m₁ = mA e (.str x t) bm tb al ul um) rfl F' N' ?_ (fun _ _ _ _ => .inl f) ?_ ?_ (fun _ _ => rfl)
  · exact ⟨rfl, -1, _, true, none, none, rfl, by k_extra "mine meq"⟩
  · rintro i v m₁ news₁ I' oI h₂ tk₂ hv ⟨rfl, bm, tb, al, ul, um, hf, rfl⟩ F₂ N₂ sep
    obtain ⟨y, r, rfl, hri, hra, hpos⟩ := hr.2 i v hv
    clear F' N'
    obtain ⟨d', lu', lr', u1, u2, u3, u4, u5, u6, n', f', ya, yb, yc⟩ := hra
    obtain ⟨lc, lpm, lc', lctv, loc, ltr, hfo, yc2⟩ := id yc
    clear yc2
    have I2 : InstAt s.heap y (instObj 66 d') 66 (some (dictOf (ruleL w u1 u2 u3 u4 u5 u6 lu' lr' f' r.2) n')) := ⟨ya, rfl, rfl, yb⟩
    refine wpAny_assign_Name ?_
    k_steps
    all_goals (first
      | (rename r.fst = 0 => c1; exact absurd c1 (by omega))
      | ((first
          | (rename bm < r.fst => c1; have hst : stepA (bm, al) r = (r.1, r.2) := by unfold stepA; rw [if_pos c1])
          | (rename ¬ bm < r.fst => c1; rename r.fst = bm => c2; rename al = false => c3; have hst : stepA (bm, al) r = (bm, r.2) := by unfold stepA; rw [if_neg c1, if_pos ⟨c2, c3⟩])
          | (rename ¬ bm < r.fst => c1; rename r.fst = bm => c2; rename al = true => c3; have hst : stepA (bm, al) r = (bm, al) := by unfold stepA; rw [if_neg c1, if_neg (by rw [c3]; simp)])
          | (rename ¬ bm < r.fst => c1; rename r.fst ≠ bm => c2; have hst : stepA (bm, al) r = (bm, al) := by unfold stepA; rw [if_neg c1, if_neg (fun q => c2 q.1)])
          | (rename ¬ bm < r.fst => c1; rename ¬ r.fst = bm => c2; have hst : stepA (bm, al) r = (bm, al) := by unfold stepA; rw [if_neg c1, if_neg (fun q => c2 q.1)]))
         rename Fr _ _ _ _ => F9
         rename News _ _ _ _ => N9
         exact ⟨.inl rfl, _, _, _, [], rfl, F9, N9, sep, rfl, _, _, _, _, _, (take_step hri hf).trans hst, by k_extra "mine meq"⟩))
  · rintro m₁ news₁ h₂ tk₂ ⟨rfl, bm, tb, al, ul, um, hf, rfl⟩ F₂ N₂
    clear F' N'
    k_steps
    rw [hr.1, List.take_length] at hf
    rw [hf] at k
    exact k _ _ F₂.keep

def qf (a : Int) : UInt64 := Float64.ofFrac (decide (a < 0) != decide ((8:Int) < 0)) a.natAbs (8:Int).natAbs
def degF (x y z : UInt64) : UInt64 := Float64.add (Float64.mul (hlsH x y z) (Float64.ofInt 360)) 4602678819172646912
def topF (x y z : UInt64) : UInt64 := Float64.mul (fmax3 x y z) (Float64.ofInt 8)
def degI (x y z : UInt64) : Int := PySem.Flt.toInt Float64.truncOf (degF x y z)
def topI (x y z : UInt64) : Int := PySem.Flt.toInt Float64.truncOf (topF x y z)
def grayF (x y z : UInt64) : Bool := Float64.cmp (hlsS x y z) 0 == some .eq
def fOkB (x y z : UInt64) : Bool := (Float64.cmp (fmin3 x y z) (fmax3 x y z) == some Ordering.eq) || (!Float64.isZero (Float64.add (fmax3 x y z) (fmin3 x y z)) && !Float64.isZero (Float64.sub (fmax3 x y z) (fmin3 x y z)) && !Float64.isZero (Float64.sub (Float64.sub 4611686018427387904 (fmax3 x y z)) (fmin3 x y z)) && !Float64.isZero (fmax3 x y z))
def underI (x y z : UInt64) (k : Int) : Bool := !grayF x y z && decide (Int.fmod (degI x y z - 120 * k + 60) 360 > 120)
def okAt (a b c : Int) : Bool :=
  let x := qf a; let y := qf b; let z := qf c; let M := max a (max b c)
  fOkB x y z && Float64.isFinite (degF x y z) && Float64.isFinite (topF x y z) && (topI x y z == M) && (underI x y z 0 == decide (a < M)) && (underI x y z 1 == decide (b < M)) && (underI x y z 2 == decide (c < M))
    && decide (0 ≤ degI x y z) && decide (degI x y z ≤ 360)
def fz {α : Type} (x : UInt64) (k : UInt64 → α) : α := match x.toNat with
  | 0 => k 0
  | n + 1 => k (UInt64.ofNat (n + 1))
theorem fz_eq {α : Type} (x : UInt64) (k : UInt64 → α) : fz x k = k x := by
  unfold fz
  split
  · rename_i h; rw [show x = 0 from UInt64.toNat_inj.mp h]
  · rename_i n h; rw [show n + 1 = x.toNat from h.symm, UInt64.ofNat_toNat]
def okAt2 (a b c : Int) : Bool :=
  fz (qf a) fun x => fz (qf b) fun y => fz (qf c) fun z => fz (fmax3 x y z) fun M => fz (fmin3 x y z) fun m => fz (Float64.sub M m) fun rg => fz (Float64.add M m) fun sm =>
  fz (Float64.div (Float64.sub M x) rg) fun rc => fz (Float64.div (Float64.sub M y) rg) fun gc => fz (Float64.div (Float64.sub M z) rg) fun bc =>
  fz (if (Float64.cmp m M == some Ordering.eq) = true then 0
    else (Float64.divmod (Float64.div (
      if (Float64.cmp x M == some Ordering.eq) = true then Float64.sub bc gc
      else if (Float64.cmp y M == some Ordering.eq) = true then Float64.sub (Float64.add 4611686018427387904 rc) bc
      else Float64.sub (Float64.add 4616189618054758400 gc) rc) 4618441417868443648) 4607182418800017408).snd) fun h =>
  fz (if (Float64.cmp m M == some Ordering.eq) = true then 0
    else if (Float64.cmp (Float64.div sm 4611686018427387904) 4602678819172646912 == some Ordering.lt || Float64.cmp (Float64.div sm 4611686018427387904) 4602678819172646912 == some Ordering.eq) = true
    then Float64.div rg sm
    else Float64.div rg (Float64.sub (Float64.sub 4611686018427387904 M) m)) fun sv =>
  fz (Float64.add (Float64.mul h (Float64.ofInt 360)) 4602678819172646912) fun dg => fz (Float64.mul M (Float64.ofInt 8)) fun tp =>
  let gr := Float64.cmp sv 0 == some .eq
  let un := fun k : Int => !gr && decide (Int.fmod (PySem.Flt.toInt Float64.truncOf dg - 120 * k + 60) 360 > 120)
  let T := max a (max b c)
  ((Float64.cmp m M == some Ordering.eq) || (!Float64.isZero sm && !Float64.isZero rg && !Float64.isZero (Float64.sub (Float64.sub 4611686018427387904 M) m) && !Float64.isZero M))
    && Float64.isFinite dg && Float64.isFinite tp && (PySem.Flt.toInt Float64.truncOf tp == T) && (un 0 == decide (a < T)) && (un 1 == decide (b < T)) && (un 2 == decide (c < T))
    && decide (0 ≤ PySem.Flt.toInt Float64.truncOf dg) && decide (PySem.Flt.toInt Float64.truncOf dg ≤ 360)
theorem okAt2_eq (a b c : Int) : okAt2 a b c = okAt a b c := by
  unfold okAt2
  simp only [fz_eq]
  rfl
theorem ok_all2 : ∀ a b c : Fin 7, okAt2 a.val b.val c.val = true := by decide +kernel
theorem ok_at {a b c : Int} (ha : 0 ≤ a) (hb : 0 ≤ b) (hc : 0 ≤ c) (ha' : a ≤ 6) (hb' : b ≤ 6) (hc' : c ≤ 6) : okAt a b c = true := by
  have h := ok_all2 ⟨a.toNat, by omega⟩ ⟨b.toNat, by omega⟩ ⟨c.toNat, by omega⟩
  rw [okAt2_eq] at h
  simpa [Int.toNat_of_nonneg ha, Int.toNat_of_nonneg hb, Int.toNat_of_nonneg hc] using h

abbrev cellNone : Obj := { cls := .type "cell", data := .cell none }
abbrev frame0 : Obj := { cls := .type "dict", data := .dict #[] }
def Off4 (I C K D : Addr) : List (Addr × Obj) → Prop
  | [] => True
  | p :: r => ((@Ne Nat p.1 I) ∧ (@Ne Nat p.1 C) ∧ (@Ne Nat p.1 K) ∧ (@Ne Nat p.1 D)) ∧ Off4 I C K D r
theorem Off4.mem {I C K D : Addr} : ∀ {l : List (Addr × Obj)}, Off4 I C K D l → ∀ p ∈ l, p.1 ≠ I ∧ p.1 ≠ C ∧ p.1 ≠ K ∧ p.1 ≠ D
  | [], _, _, h => nomatch h
  | _ :: _, x, p, h => by
    rcases List.mem_cons.mp h with rfl | h
    · exact x.1
    · exact Off4.mem x.2 p h
theorem Off4.of {I C K D : Addr} : ∀ {l : List (Addr × Obj)}, (∀ p ∈ l, p.1 ≠ I ∧ p.1 ≠ C ∧ p.1 ≠ K ∧ p.1 ≠ D) → Off4 I C K D l
  | [], _ => trivial
  | _ :: _, h => ⟨h _ List.mem_cons_self, Off4.of fun p hp => h p (List.mem_cons_of_mem _ hp)⟩
theorem off1_of {D : Addr} : ∀ {l : List (Addr × Obj)}, (∀ p ∈ l, p.1 ≠ D) → LCg.Off1 D l
  | [], _ => trivial
  | _ :: _, h => ⟨h _ List.mem_cons_self, off1_of fun p hp => h p (List.mem_cons_of_mem _ hp)⟩
theorem off1_mem {D : Addr} : ∀ {l : List (Addr × Obj)}, LCg.Off1 D l → ∀ p ∈ l, p.1 ≠ D
  | [], _, _, h => nomatch h
  | _ :: _, x, p, h => by
    rcases List.mem_cons.mp h with rfl | h
    · exact x.1
    · exact off1_mem x.2 p h
theorem off1_ne {a D : Addr} {o : Obj} {l : List (Addr × Obj)} (h : LCg.Off1 D l) (m : (a, o) ∈ l) : a ≠ D := off1_mem h _ m
theorem isl_of {h₀ h : Heap} {L a : Addr} {news : List (Addr × Obj)} {vs : Array Value} {n : Nat} (N : News h₀ L h news) (m : (a, W.listOf vs n) ∈ news) : h.IsList a vs := ⟨_, (N _ m).1, rfl, n, rfl⟩
theorem lt_ne {a D : Addr} {o : Obj} {l : List (Addr × Obj)} (h : AllLt D l) (m : (a, o) ∈ l) : a ≠ D := Nat.ne_of_lt (kst_ltOf h _ m)
theorem lt_ne' {a D : Addr} {o : Obj} {l : List (Addr × Obj)} (h : AllLt D l) (m : (a, o) ∈ l) : D ≠ a := Nat.ne_of_gt (kst_ltOf h _ m)
theorem peel {a b : Nat} (h : @Ne Nat a b) : @Ne Nat (a + 1) (b + 1) := fun q => h (Nat.succ.inj q)
theorem sn1 {a : Nat} : @Ne Nat a (a + 1) := Nat.ne_of_lt (Nat.lt_succ_self a)
theorem sn2 {a : Nat} : @Ne Nat a (a + 1 + 1) := Nat.ne_of_lt (Nat.lt_succ_of_lt (Nat.lt_succ_self a))
theorem sn3 {a : Nat} : @Ne Nat a (a + 1 + 1 + 1) := Nat.ne_of_lt (Nat.lt_succ_of_lt (Nat.lt_succ_of_lt (Nat.lt_succ_self a)))
theorem sn4 {a : Nat} : @Ne Nat a (a + 1 + 1 + 1 + 1) := Nat.ne_of_lt (Nat.lt_succ_of_lt (Nat.lt_succ_of_lt (Nat.lt_succ_of_lt (Nat.lt_succ_self a))))
theorem sn5 {a : Nat} : @Ne Nat a (a + 1 + 1 + 1 + 1 + 1) := Nat.ne_of_lt (Nat.lt_succ_of_lt (Nat.lt_succ_of_lt (Nat.lt_succ_of_lt (Nat.lt_succ_of_lt (Nat.lt_succ_self a)))))
theorem sn6 {a : Nat} : @Ne Nat a (a + 1 + 1 + 1 + 1 + 1 + 1) := Nat.ne_of_lt (Nat.lt_succ_of_lt (Nat.lt_succ_of_lt (Nat.lt_succ_of_lt (Nat.lt_succ_of_lt (Nat.lt_succ_of_lt (Nat.lt_succ_self a))))))
section
variable {prog : Program} {w : World} {A : Around} {E : Value → Shared → Prop} {s : Shared} {h₀ : Heap} {L : Addr} {m : Str → Option Value} {env : Env}
theorem wpAny_newEnv_cl {M : Model} {scope : Scope} {globals : Addr} {cl : List (Str × Addr)} {qual : Str} {func : Option Addr} {code : Value} {around : Env} {builtins : Addr} {Q : Env → Shared → Prop}
    (hQ : Q (newEnv scope s.heap.objs.size globals (cellsFrom (s.heap.objs.size + 1) scope.names cl) qual func code (some around) builtins) { s with heap := pushCells (s.heap.push frame0) scope.names }) :
    wpAny M A (newFunctionEnv scope globals cl [] qual func code (some around) builtins) Q E s := by
  simp only [newFunctionEnv, Option.isSome_some, if_true]
  refine wpAny_bind (wpAny_alloc ?_)
  refine wpAny_bind (wpAny_layCells _ (fun name kind cells => by cases hkc : kind == NameKind.cell <;> simp [hkc]) _ _ _ _ ?_)
  rw [show ({ s with heap := s.heap.push frame0 } : Shared).heap.objs.size = s.heap.objs.size + 1 from Heap.size_push ..]
  exact wpAny_bind (wpAny_pure (wpAny_pure hQ))

def CellEnd (h₀ : Heap) (L : Addr) (m : Str → Option Value) (s : Shared) (J : Nat → List Value → List (Addr × Obj) → Prop) (i : Nat) (ys : List Value) (I : Addr) (oI : Obj) (C : Addr) (oC : Obj) (K : Addr) (oK : Obj) (D : Addr) (y : Value) (s₂ : Shared) : Prop :=
  ∃ h' tk' news', s₂ = { s with heap := h', toks := tk' } ∧ Fr h₀ L h' m ∧ News h₀ L h' ((I, oI) :: (C, oC) :: (K, oK) :: (D, LCg.lst ys) :: news') ∧ Off4 I C K D news' ∧ J (i + 1) (ys ++ [y]) news'
def CellTurn (prog : Program) (w : World) (A : Around) (h₀ : Heap) (L : Addr) (m : Str → Option Value) (env : Env) (elt : Expr) (x : Str) (scope : Scope) (cl : List (Str × Addr)) (s : Shared) (J : Nat → List Value → List (Addr × Obj) → Prop) (n : Nat) : Prop :=
  ∀ i t ys news I oI C oC K oK D h tk, i < n → J i ys news → oK.data = .cell (some (.int (0 + (i : Int)) t)) → Fr h₀ L h m → News h₀ L h ((I, oI) :: (C, oC) :: (K, oK) :: (D, LCg.lst ys) :: news) →
    Off4 I C K D news → ((@Ne Nat I C) ∧ (@Ne Nat I K) ∧ (@Ne Nat I D) ∧ (@Ne Nat C K) ∧ (@Ne Nat C D) ∧ (@Ne Nat K D)) →
    wpAny (model prog w) A (eval elt (compEnvC scope ((x, K) :: cl) C env))
      (CellEnd h₀ L m s J i ys I oI C oC K oK D)
      (fun _ _ => False) { s with heap := h, toks := tk }
def CellSrc (A : Around) (h₀ : Heap) (L : Addr) (m : Str → Option Value) (s : Shared) (J : Nat → List Value → List (Addr × Obj) → Prop) (n : Nat) (xv : Value) (s₁ : Shared) : Prop :=
  ∃ r t u v news h tk, xv = .ref r ∧ s₁ = { s with heap := h, toks := tk } ∧ Fr h₀ L h m ∧ News h₀ L h news ∧ IsRange h r 0 n 1 t u v ∧ J 0 [] news

theorem ListComp_C {elt iter : Expr} {x : Str} {px : Pos} {scope : Scope} {cl : List (Str × Addr)} {pos : Pos} {Q : Value → Shared → Prop} (J : Nat → List Value → List (Addr × Obj) → Prop) (n : Nat) (hh : A.handled = none) (hn : n ≤ 8)
    (hclos : closureFor scope env = pure cl) (hcf : ∀ k, cellsFrom k scope.names cl = (x, k) :: cl) (hpc : ∀ h : Heap, pushCells h scope.names = h.push cellNone) (hkind : scope.kind = .function)
    (hnames : ∀ y ∈ scope.names, y.2 = .local → scope.names.lookup y.1 = some .local) (hx : (relabel scope env).names.lookup x = some .cell)
    (hsm : Builtin.Range.small 0 n 1 = true) (hrs : Builtin.Range.rangeSize 0 n 1 = ((n : Nat) : Int))
    (h : wpAny (model prog w) A (eval iter env) (CellSrc A h₀ L m s J n) E s) (turn : CellTurn prog w A h₀ L m env elt x scope cl s J n)
    (fin : ∀ D h tk ys news, J n ys news → Fr h₀ L h m → News h₀ L h ((D, LCg.lst ys) :: news) → (∀ p ∈ news, p.1 ≠ D) → Q (.ref D) { s with heap := h, toks := tk })
    (hs : ∀ x, foldedSetIterable iter env x = pure x) :
    wpAny (model prog w) A (eval (.ListComp elt [⟨.Name x px, iter, [], 0⟩] scope pos) env) Q E s := by
  rw [eval_ListComp]
  refine wpAny_comprehension_free (use := none) rfl hs hclos hkind hnames (wpAny_mono h (fun xv s₁ h₁ => ?_) fun _ _ e => e)
  obtain ⟨r, t, u, v, news, hp, tk₁, rfl, rfl, F, N, hr, hj⟩ := h₁
  refine wpAny_pyIter_range hr hsm ?_
  rw [hrs]
  dsimp only
  have hnz : n ≤ sizeLine := by rw [sizeLine_eq]; omega
  generalize hI : hp.objs.size = I
  generalize hP : hp.push { cls := .type "range_iterator", data := .fields #[rawInt 0, rawInt (n : Int), rawInt 1] } = H1
  have sz1 : H1.objs.size = I + 1 := by rw [← hP, Heap.size_push, hI]
  have gI : H1.get? I = some { cls := .type "range_iterator", data := .fields #[rawInt 0, rawInt (n : Int), rawInt 1] } := by rw [← hP, ← hI]; exact Heap.get?_push_size _ rfl
  have up1 : ∀ b o, hp.get? b = some o → H1.get? b = some o := fun b o e => by rw [← hP]; exact Heap.get?_push_of_some _ e
  refine wpAny_newObj_type ?_
  dsimp only
  rw [sz1]
  generalize hP2 : H1.push { cls := .type "list", dict := none, data := .seq ([] : List Value).toArray } = H2
  have sz2 : H2.objs.size = I + 1 + 1 := by rw [← hP2, Heap.size_push, sz1]
  have gD : H2.get? (I + 1) = some (LCg.lst []) := by rw [← hP2, ← sz1]; exact Heap.get?_push_size _ rfl
  have up2 : ∀ b o, H1.get? b = some o → H2.get? b = some o := fun b o e => by rw [← hP2]; exact Heap.get?_push_of_some _ e
  refine wpAny_newEnv_cl ?_
  dsimp only
  rw [hpc, sz2, hcf]
  generalize hP3 : H2.push frame0 = H3
  have sz3 : H3.objs.size = I + 1 + 1 + 1 := by rw [← hP3, Heap.size_push, sz2]
  have gC : H3.get? (I + 1 + 1) = some frame0 := by rw [← hP3, ← sz2]; exact Heap.get?_push_size _ rfl
  have up3 : ∀ b o, H2.get? b = some o → H3.get? b = some o := fun b o e => by rw [← hP3]; exact Heap.get?_push_of_some _ e
  generalize hP4 : H3.push cellNone = H4
  have gK : H4.get? (I + 1 + 1 + 1) = some cellNone := by rw [← hP4, ← sz3]; exact Heap.get?_push_size _ rfl
  have up4 : ∀ b o, H3.get? b = some o → H4.get? b = some o := fun b o e => by rw [← hP4]; exact Heap.get?_push_of_some _ e
  have old : ∀ b o, hp.get? b = some o → H4.get? b = some o := fun b o e => up4 _ _ (up3 _ _ (up2 _ _ (up1 _ _ e)))
  have hlt : ∀ b o, hp.get? b = some o → b < I := fun b o e => by rw [← hI]; exact Heap.lt_size e
  have hLlt : L < I := by rw [← hI]; exact F.ns.lt
  have nw : ∀ b, I ≤ b → h₀.get? b = none := fun b hb => by
    cases q : h₀.get? b with
    | none => rfl
    | some o => exact absurd (hlt _ _ (F.keep _ _ q)) (Nat.not_lt.mpr hb)
  have hI0 := nw I (Nat.le_refl _)
  have hD0 := nw (I + 1) (Nat.le_succ _)
  have hC0 := nw (I + 1 + 1) (Nat.le_succ_of_le (Nat.le_succ _))
  have hK0 := nw (I + 1 + 1 + 1) (Nat.le_succ_of_le (Nat.le_succ_of_le (Nat.le_succ _)))
  have W := LCg.range_walks (prog := prog) (w := w) (I := I) hh 0 n
  have nLI : @Ne Nat L I := Nat.ne_of_lt hLlt
  have nID : @Ne Nat (I : Nat) (I + 1) := Nat.ne_of_lt (Nat.lt_succ_self _)
  have nIC : @Ne Nat (I : Nat) (I + 1 + 1) := Nat.ne_of_lt (Nat.lt_succ_of_lt (Nat.lt_succ_self _))
  have nIK : @Ne Nat (I : Nat) (I + 1 + 1 + 1) := Nat.ne_of_lt (Nat.lt_succ_of_lt (Nat.lt_succ_of_lt (Nat.lt_succ_self _)))
  have nDC : @Ne Nat (I + 1) (I + 1 + 1) := Nat.ne_of_lt (Nat.lt_succ_self _)
  have nDK : @Ne Nat (I + 1) (I + 1 + 1 + 1) := Nat.ne_of_lt (Nat.lt_succ_of_lt (Nat.lt_succ_self _))
  have nCK : @Ne Nat (I + 1 + 1) (I + 1 + 1 + 1) := Nat.ne_of_lt (Nat.lt_succ_self _)
  have nLD : @Ne Nat L (I + 1) := Nat.ne_of_lt (Nat.lt_succ_of_lt hLlt)
  have nLC : @Ne Nat L (I + 1 + 1) := Nat.ne_of_lt (Nat.lt_succ_of_lt (Nat.lt_succ_of_lt hLlt))
  have nLK : @Ne Nat L (I + 1 + 1 + 1) := Nat.ne_of_lt (Nat.lt_succ_of_lt (Nat.lt_succ_of_lt (Nat.lt_succ_of_lt hLlt)))
  have off₀ : Off4 I (I + 1 + 1) (I + 1 + 1 + 1) (I + 1) news := Off4.of fun p hp' => by
    have h1 : @LT.lt Nat _ p.1 I := hlt _ _ (N p hp').1
    exact ⟨Nat.ne_of_lt h1, Nat.ne_of_lt (Nat.lt_succ_of_lt (Nat.lt_succ_of_lt h1)), Nat.ne_of_lt (Nat.lt_succ_of_lt (Nat.lt_succ_of_lt (Nat.lt_succ_of_lt h1))), Nat.ne_of_lt (Nat.lt_succ_of_lt h1)⟩
  have F4 : Fr h₀ L H4 m := F.grownK old
  have N4 : News h₀ L H4 ((I + 1 + 1, frame0) :: (I + 1 + 1 + 1, cellNone) :: (I + 1, LCg.lst []) :: news) := fun p hp' => by
    rcases List.mem_cons.mp hp' with rfl | hp'
    · exact ⟨up4 _ _ gC, Ne.symm nLC, hC0⟩
    · rcases List.mem_cons.mp hp' with rfl | hp'
      · exact ⟨gK, Ne.symm nLK, hK0⟩
      · rcases List.mem_cons.mp hp' with rfl | hp'
        · exact ⟨up4 _ _ (up3 _ _ gD), Ne.symm nLD, hD0⟩
        · exact ⟨old _ _ (N p hp').1, (N p hp').2⟩
  have gI4 : H4.get? I = some { cls := .type "range_iterator", data := .fields #[rawInt 0, rawInt (n : Int), rawInt 1] } := up4 _ _ (up3 _ _ (up2 _ _ gI))
  clear gI gD gC gK up1 up2 up3 up4 sz1 sz2 sz3 old hP hP2 hP3 hP4 F N hlt hLlt nw
  generalize I + 1 + 1 + 1 = K at *
  generalize I + 1 + 1 = C at *
  generalize I + 1 = D at *
  generalize hoC : frame0 = oC at *
  have loop : ∀ s₃ : Shared, s₃ = { s with heap := H4, toks := tk₁ } →
      codeAny (model prog w) A (.compLoop (.ListComp elt [⟨.Name x px, iter, [], 0⟩] scope pos) 0 (.ref I) (.ref D) (compEnvC scope ((x, K) :: cl) C env))
        (compPost (model prog w) A E none Q (.ref D) C) s₃ := by
    rintro s₃ rfl
    refine codeAny_compLoop_tests
      (fun k s' => ∃ h' tk i ys oK vo news', s' = { s with heap := h', toks := tk } ∧ i ≤ n ∧ k = n + 1 - i ∧ ys.length = i ∧ IsRangeIter h' I (0 + (i : Nat) * 1) ((n : Int) - (i : Nat)) 1 ∧ Fr h₀ L h' m ∧
        News h₀ L h' ((C, oC) :: (K, oK) :: (D, LCg.lst ys) :: news') ∧ oK.data = .cell vo ∧ Off4 I C K D news' ∧ J i ys news') ?_ (n + 1)
      ⟨H4, _, 0, [], cellNone, none, news, rfl, Nat.zero_le _, rfl, rfl, by simpa [IsRangeIter] using gI4, F4, N4, rfl, off₀, hj⟩
    rintro k s' ⟨h', tk, i, ys, oK, vo, news', rfl, hi, rfl, hyl, hst', F', N', hoK, off', hJ⟩
    have offm := off'.mem
    by_cases hlt : i < n
    · refine W.item i _ _ _ hlt hst' fun v h₂ tk₂ hPv hst₂ hk₂ => ?_
      obtain ⟨tv, rfl⟩ := hPv
      have N₂ : News h₀ L h₂ ((C, oC) :: (K, oK) :: (D, LCg.lst ys) :: news') := LCg.news_but N' hk₂ fun p hp => by
        rcases List.mem_cons.mp hp with rfl | hp
        · exact Ne.symm nIC
        · rcases List.mem_cons.mp hp with rfl | hp
          · exact Ne.symm nIK
          · rcases List.mem_cons.mp hp with rfl | hp
            · exact Ne.symm nID
            · exact (offm p hp).1
      have F₂ : Fr h₀ L h₂ m := LCg.fr_but F' hk₂ nLI hI0
      have zK := (N₂ (K, oK) (.tail _ (.head _))).1
      refine wpAny_assign_Name (wpAny_storeName_cell hkind (by show (relabel scope env).names.lookup x = _; exact hx) (by show List.lookup x ((x, K) :: cl) = _; simp) ⟨oK, zK, hoK⟩ fun h₃ hv₃ hs₃ => ?_)
      refine wpAny_tests_nil ?_
      simp only [if_true]
      obtain ⟨oK', zK', dK'⟩ := hv₃
      have hst₃ : h₃.get? I = _ := (hs₃.2 I nIK).trans hst₂
      have F₃ : Fr h₀ L h₃ m := F₂.change hs₃ (Ne.symm nLK) hK0
      have N₃ : News h₀ L h₃ ((I, _) :: (C, oC) :: (K, oK') :: (D, LCg.lst ys) :: news') := fun p hp => by
        rcases List.mem_cons.mp hp with rfl | hp
        · exact ⟨hst₃, Ne.symm nLI, hI0⟩
        · rcases List.mem_cons.mp hp with rfl | hp
          · exact ⟨hs₃.extBut _ _ nCK (N₂ _ (.head _)).1, (N₂ _ (.head _)).2⟩
          · rcases List.mem_cons.mp hp with rfl | hp
            · exact ⟨zK', Ne.symm nLK, hK0⟩
            · refine ⟨hs₃.extBut _ _ ?_ (N₂ p (.tail _ (.tail _ hp))).1, (N₂ p (.tail _ (.tail _ hp))).2⟩
              rcases List.mem_cons.mp hp with rfl | hp
              · exact nDK
              · exact (offm p hp).2.2.1
      refine wpAny_mono (turn i tv ys news' I _ C oC K oK' D h₃ _ hlt hJ dK' F₃ N₃ off' ⟨nIC, nIK, nID, nCK, Ne.symm nDC, Ne.symm nDK⟩) (fun y s₄ h₄ => ?_) fun _ _ e => e.elim
      obtain ⟨h₄, tk₄, news₄, rfl, F₄, N₄, off₄, hJ₄⟩ := h₄
      have off4 := off₄.mem
      have zD := (N₄ (D, LCg.lst ys) (.tail _ (.tail _ (.tail _ (.head _))))).1
      have zI := (N₄ _ (.head _)).1
      refine append_at (hsz := by show ys.toArray.size ≤ sizeLine; rw [List.size_toArray, hyl]; exact Nat.le_trans hi hnz) zD fun h₅ hs₅ hD₅ => ?_
      refine ⟨n + 1 - (i + 1), by omega, h₅, tk₄, i + 1, ys ++ [y], oK', _, news₄, rfl, hlt, rfl, by rw [List.length_append, List.length_singleton, hyl], ?_, F₄.change hs₅ (Ne.symm nLD) hD0, fun p hp => ?_, dK', off₄, hJ₄⟩
      · exact (hs₅.2 I nID).trans zI
      · rcases List.mem_cons.mp hp with rfl | hp
        · exact ⟨hs₅.extBut _ _ (Ne.symm nDC) (N₄ _ (.tail _ (.head _))).1, (N₄ _ (.tail _ (.head _))).2⟩
        · rcases List.mem_cons.mp hp with rfl | hp
          · exact ⟨hs₅.extBut _ _ (Ne.symm nDK) (N₄ _ (.tail _ (.tail _ (.head _)))).1, (N₄ _ (.tail _ (.tail _ (.head _)))).2⟩
          · rcases List.mem_cons.mp hp with rfl | hp
            · exact ⟨hD₅.trans (congrArg some (LCg.lst_snoc ys y)), Ne.symm nLD, hD0⟩
            · have z := N₄ p (.tail _ (.tail _ (.tail _ (.tail _ hp))))
              exact ⟨hs₅.extBut _ _ (off4 p hp).2.2.2 z.1, z.2⟩
    · obtain rfl : i = n := Nat.le_antisymm hi (Nat.not_lt.mp hlt)
      refine W.done _ _ _ hst' fun h₂ tk₂ hk₂ => ?_
      have N₂ : News h₀ L h₂ ((C, oC) :: (K, oK) :: (D, LCg.lst ys) :: news') := LCg.news_but N' hk₂ fun p hp => by
        rcases List.mem_cons.mp hp with rfl | hp
        · exact Ne.symm nIC
        · rcases List.mem_cons.mp hp with rfl | hp
          · exact Ne.symm nIK
          · rcases List.mem_cons.mp hp with rfl | hp
            · exact Ne.symm nID
            · exact (offm p hp).1
      have F₂ : Fr h₀ L h₂ m := LCg.fr_but F' hk₂ nLI hI0
      refine ⟨fun _ => none, ?_, fun h'' hs'' => ?_⟩
      · exact ⟨_, #[], 0, (N₂ _ (.head _)).1, hoC ▸ rfl, fun _ he => by simp at he, fun _ => rfl⟩
      · refine fin D h'' tk₂ ys news' hJ (F₂.change hs'' (Ne.symm nLC) hC0) (fun p hp => ?_) fun p hp => (offm p hp).2.2.2
        refine ⟨hs''.extBut _ _ ?_ (N₂ p (.tail _ (.tail _ hp))).1, (N₂ p (.tail _ (.tail _ hp))).2⟩
        rcases List.mem_cons.mp hp with rfl | hp
        · exact nDC
        · exact (offm p hp).2.1
  exact codeAny_compStart_list (loop _ rfl) (W.self 0 _ _ _ (by simpa [IsRangeIter] using gI4) (loop _ rfl))
theorem rest_J {elt : Expr} {x : Str} {scope : Scope} {cl : List (Str × Addr)} {S : List (Addr × Obj) → Prop} {P : Nat → Value → Prop} {Fin : List Value → List (Addr × Obj) → Prop} (J : Nat → List Value → List (Addr × Obj) → Prop) {n : Nat}
    (turn : ∀ i v ys news I oI C oC D m₂ h tk, P i v → i < n → J i ys news → LCg.NsObj oC m₂ → m₂ x = some v → Fr h₀ L h m → News h₀ L h ((I, oI) :: (C, oC) :: (D, LCg.lst ys) :: news) → LCg.Off3 I C D news →
      ((@Ne Nat I C) ∧ (@Ne Nat I D) ∧ (@Ne Nat C D)) → wpAny (model prog w) A (eval elt (compEnvC scope cl C env))
        (LCg.CompEnd h₀ L m { s with heap := h, toks := tk } I oI C oC D (LCg.lst ys) S (fun y news' => J (i + 1) (ys ++ [y]) news')) (fun _ _ => False) { s with heap := h, toks := tk })
    (fin : ∀ ys news, J n ys news → Fin ys news) : ∀ k i ys news, i + k = n → J i ys news → LCg.CompRest prog w A h₀ L m env elt x scope cl s S P Fin k i ys news
  | 0, i, ys, news, e, j => LCg.CompRest.zero (fin _ _ (by rw [← e]; exact j))
  | k + 1, i, ys, news, e, j => LCg.CompRest.succ fun v I oI C oC D m₂ h tk E' hp hc hm F N off ne =>
      wpAny_mono (turn i v ys news I oI C oC D m₂ h tk hp (by omega) j hc hm F N off ne)
        (fun y s₂ ⟨h', tk', news', e', F', N', off', hS, j'⟩ => ⟨h', tk', news', e', F', N', off', hS, rest_J J turn fin k (i + 1) _ _ (by omega) j'⟩) fun _ _ z => z.elim

theorem iter_range {Q : Flow → Shared → Prop} {target : Expr} {body : List Stmt} {news : List (Addr × Obj)} {r : Addr} {a b : Int} {t u v : Tok} {n : Nat} (J : Nat → (Str → Option Value) → List (Addr × Obj) → Prop) (hh : A.handled = none) (F : Fr h₀ L s.heap m) (N : News h₀ L s.heap news)
    (hr : IsRange s.heap r a b 1 t u v) (hsm : Builtin.Range.small a b 1 = true) (hrs : Builtin.Range.rangeSize a b 1 = ((n : Nat) : Int)) (j0 : J 0 m news)
    (turn : ∀ (i : Nat) t m₁ news₁ I oI h tk, i < n → J i m₁ news₁ → Fr h₀ L h m₁ → News h₀ L h ((I, oI) :: news₁) → (∀ p ∈ news₁, p.1 ≠ I) →
      wpAny (model prog w) A (assign target env (.int (a + (i : Int)) t)) (fun _ s₃ => wpAny (model prog w) A (execs body env) (TurnEnd h₀ L I oI (J (i + 1)) s) (fun _ _ => False) s₃) (fun _ _ => False) { s with heap := h, toks := tk })
    (done : ∀ m₁ news₁ h tk, J n m₁ news₁ → Fr h₀ L h m₁ → News h₀ L h news₁ → Q .next { s with heap := h, toks := tk })
    (ht : ∀ it v, letOwnedTupleGo target it v = pure ()) {RE : Value → Shared → Prop} :
    wpAny (model prog w) A (pyIter (.ref r)) (fun it s₂ => codeAny (model prog w) A (.forLoop target it body [] env) (fun r s' => match r with | .ok f => Q f s' | .error e => RE e s') s₂) E s := by
  refine wpAny_pyIter_range hr hsm ?_
  rw [hrs]
  generalize hI : s.heap.objs.size = I
  have hI0 : ∀ {a o}, s.heap.get? a = some o → a ≠ I := fun e q => by have := Heap.lt_size e; rw [q, hI] at this; exact Nat.lt_irrefl _ this
  have hIL : I ≠ L := fun q => by have := F.ns.lt; rw [hI, q] at this; exact Nat.lt_irrefl _ this
  have hIb : h₀.get? I = none := by
    cases q : h₀.get? I with
    | none => rfl
    | some o => exact absurd rfl (hI0 (F.keep _ _ q))
  have W := LCg.range_walks (prog := prog) (w := w) (I := I) hh a n
  refine codeAny_forLoop (fun k s' => ∃ (i : Nat) (h' : Heap) (tk : Nat) (m₁ : Str → Option Value) (news₁ : List (Addr × Obj)), s' = { s with heap := h', toks := tk } ∧ IsRangeIter h' I (a + (i : Nat) * 1) ((n : Int) - (i : Nat)) 1 ∧ J i m₁ news₁ ∧ Fr h₀ L h' m₁ ∧ News h₀ L h' news₁ ∧ (∀ p ∈ news₁, p.1 ≠ I) ∧ i ≤ n ∧ k = n + 1 - i) ?_ (n + 1)
    ⟨0, _, s.toks, m, news, rfl, ?_, j0, F.push _, fun p hp => ⟨Heap.get?_push_of_some _ (N p hp).1, (N p hp).2⟩, fun p hp => hI0 (N p hp).1, Nat.zero_le _, rfl⟩ (fun v => ht _ v)
  · rintro k s' ⟨i, h', tk, m₁, news₁, rfl, hit, j, F', N', sep, hle, rfl⟩
    by_cases hlt' : i < n
    · refine W.item i _ _ _ hlt' hit fun v h₂ tk₂ hPv hit₂ hk₂ => ?_
      obtain ⟨tv, rfl⟩ := hPv
      have F₂ : Fr h₀ L h₂ m₁ := LCg.fr_but F' hk₂ (Ne.symm hIL) hIb
      have gI₂ : h₂.get? I = some _ := hit₂
      have N₂ : News h₀ L h₂ ((I, _) :: news₁) := fun p hp => by
        rcases List.mem_cons.mp hp with rfl | hp
        · exact ⟨gI₂, hIL, hIb⟩
        · exact ⟨hk₂ _ _ (by simpa using sep p hp) (N' p hp).1, (N' p hp).2⟩
      refine wpAny_mono (turn i tv m₁ news₁ I _ h₂ tk₂ hlt' j F₂ N₂ sep) (fun _ s₃ h₃ => wpAny_mono h₃ (fun f s₄ h₄ => ?_) fun _ _ x => x.elim) fun _ _ x => x.elim
      obtain ⟨hf, h₅, tk₅, m₅, news₅, rfl, F₅, N₅, sep₅, j₅⟩ := h₄
      have fin : ∃ q, q < n + 1 - i ∧ ∃ (i' : Nat) (h' : Heap) (tk : Nat) (m₁ : Str → Option Value) (news₁ : List (Addr × Obj)), ({ s with heap := h₅, toks := tk₅ } : Shared) = { s with heap := h', toks := tk } ∧ IsRangeIter h' I (a + (i' : Nat) * 1) ((n : Int) - (i' : Nat)) 1 ∧ J i' m₁ news₁ ∧ Fr h₀ L h' m₁ ∧ News h₀ L h' news₁ ∧ (∀ p ∈ news₁, p.1 ≠ I) ∧ i' ≤ n ∧ q = n + 1 - i' :=
        ⟨n + 1 - (i + 1), by omega, i + 1, h₅, tk₅, m₅, news₅, rfl, (N₅ _ (.head _)).1, j₅, F₅, fun p hp => N₅ p (.tail _ hp), sep₅, hlt', rfl⟩
      rcases hf with rfl | rfl <;> exact fin
    · have hin : i = n := by omega
      subst hin
      refine W.done _ _ _ hit fun h₂ tk₂ hk₂ => wpAny_execs_nil ?_
      exact done m₁ news₁ h₂ tk₂ j (LCg.fr_but F' hk₂ (Ne.symm hIL) hIb) (LCg.news_but N' hk₂ sep)
  · subst hI
    simpa [IsRangeIter] using Heap.get?_push_size _ rfl
end

theorem fill7 : PySem.Challenge.rw_rl0034_01 = PySem.Challenge.rw_rl0034_01 ∧ hd.heap_1 = hd.heap_1 := by
  k_fill
  exact ⟨rfl, rfl⟩
abbrev Col := Int × Int × Int
abbrev colL (c : Col) : List Int := [c.1, c.2.1, c.2.2]
def ColAt (h : Heap) (a : Addr) (c : Col) : Prop := ∃ vs e, h.get? a = some (W.listOf vs e) ∧ IntsAre vs.toList (colL c)
def ColIn (news : List (Addr × Obj)) (a : Addr) (c : Col) : Prop := ∃ vs e, (a, W.listOf vs e) ∈ news ∧ IntsAre vs.toList (colL c)
def ColsAt (h : Heap) (us : Array Value) (cs : List Col) : Prop := us.size = cs.length ∧ ∀ (i : Nat) (v : Value), us[i]? = some v → ∃ a c, v = .ref a ∧ cs[i]? = some c ∧ ColAt h a c
def ColsIn (news : List (Addr × Obj)) (us : Array Value) (cs : List Col) : Prop := us.size = cs.length ∧ ∀ (i : Nat) (v : Value), us[i]? = some v → ∃ a c, v = .ref a ∧ cs[i]? = some c ∧ ColIn news a c
theorem ColIn.mono {news news' : List (Addr × Obj)} {a : Addr} {c : Col} (x : ColIn news a c) (h : ∀ p ∈ news, p ∈ news') : ColIn news' a c := let ⟨vs, e, m, i⟩ := x; ⟨vs, e, h _ m, i⟩
theorem ColIn.at {h₀ h : Heap} {L : Addr} {news : List (Addr × Obj)} {a : Addr} {c : Col} (x : ColIn news a c) (N : News h₀ L h news) : ColAt h a c := let ⟨vs, e, m, i⟩ := x; ⟨vs, e, (N _ m).1, i⟩
theorem ColsIn.push {news news' : List (Addr × Obj)} {us : Array Value} {cs : List Col} {a : Addr} {c : Col} (x : ColsIn news us cs) (h : ∀ p ∈ news, p ∈ news') (y : ColIn news' a c) : ColsIn news' (us.push (.ref a)) (cs ++ [c]) := by
  refine ⟨by simp [x.1], fun i v hv => ?_⟩
  rw [Array.getElem?_push] at hv
  split at hv
  · rename_i e
    cases hv
    exact ⟨a, c, rfl, by rw [e, x.1]; simp, y⟩
  · obtain ⟨b, d, e1, e2, e3⟩ := x.2 i v hv
    refine ⟨b, d, e1, ?_, e3.mono h⟩
    rw [List.getElem?_append_left (List.getElem?_eq_some_iff.mp e2).1]; exact e2
theorem ColsIn.nil {news : List (Addr × Obj)} : ColsIn news #[] [] := ⟨rfl, fun i v h => by simp at h⟩
def roomC (t c : Col) : Int := min (t.1 - c.1) (min (t.2.1 - c.2.1) (t.2.2 - c.2.2))
def liftC (t c : Col) : Col := (c.1 + roomC t c, c.2.1 + roomC t c, c.2.2 + roomC t c)
def IsMax (M : Int) (l : List Int) : Prop := M ∈ l ∧ ∀ x ∈ l, x ≤ M
theorem news_sub {h₀ h : Heap} {L : Addr} {l l' : List (Addr × Obj)} (N : News h₀ L h l) (k : ∀ p ∈ l', p ∈ l) : News h₀ L h l' := fun p hp => N p (k p hp)
def pj : Nat → Col → Int
  | 0, c => c.1
  | 1, c => c.2.1
  | _, c => c.2.2
def JM (p1 p2 p3 p4 p5 : Addr × Obj) (rest : List (Addr × Obj)) (ls : List Col) (i : Nat) (ys : List Value) (news : List (Addr × Obj)) : Prop :=
  news = p1 :: p2 :: p3 :: p4 :: p5 :: rest ∧ ∃ Ms, IntsAre ys Ms ∧ Ms.length = i ∧ ∀ j M, Ms[j]? = some M → IsMax M (ls.map (pj j))
theorem JM_step {p1 p2 p3 p4 p5 : Addr × Obj} {rest : List (Addr × Obj)} {ls : List Col} {i : Nat} {ys : List Value} {news : List (Addr × Obj)} {M : Int} {t : Tok} (h : JM p1 p2 p3 p4 p5 rest ls i ys news) (hM : IsMax M (ls.map (pj i))) :
    JM p1 p2 p3 p4 p5 rest ls (i + 1) (ys ++ [.int M t]) news := by
  obtain ⟨e, Ms, h1, h2, h3⟩ := h
  refine ⟨e, Ms ++ [M], IntsAre.append h1 (.cons _ _ .nil), by simp [h2], fun j M' hj => ?_⟩
  by_cases q : j < Ms.length
  · rw [List.getElem?_append_left q] at hj
    exact h3 j M' hj
  · rw [List.getElem?_append_right (by omega)] at hj
    have hj0 : j - Ms.length = 0 := by
      have := (List.getElem?_eq_some_iff.mp hj).1
      simp at this; omega
    rw [hj0] at hj
    have : j = i := by omega
    subst this
    simp at hj; subst hj; exact hM
theorem pj_get {i : Nat} {c : Col} (hi : i < 3) : (colL c).getD (0 + (i : Int)).toNat 0 = pj i c := by
  match i, hi with
  | 0, _ => rfl
  | 1, _ => rfl
  | 2, _ => rfl
def JB (lD x4 x3 x2 x1 : Addr) (o3n o4 : Obj) (mF : Str → Option Value) (tc : Col) (cs : List Col) (i : Nat) (m₁ : Str → Option Value) (news₁ : List (Addr × Obj)) : Prop :=
  m₁ = mF ∧ ∃ vs c oa ob va vb rest, news₁ = (lD, W.listOf vs c) :: (x4, oa) :: (x3, ob) :: (x2, o3n) :: (x1, o4) :: rest ∧ oa.data = .cell va ∧ ob.data = .cell vb ∧
    ColsIn rest vs ((cs.take i).map (liftC tc)) ∧ ∀ p ∈ rest, p.1 ≠ lD ∧ p.1 ≠ x4 ∧ p.1 ≠ x3
theorem roomEq {M : Int} {tc cc : Col} (ha : M = tc.1 - cc.1 ∨ M = tc.2.1 - cc.2.1 ∨ M = tc.2.2 - cc.2.2) (hb : M ≤ tc.1 - cc.1 ∧ M ≤ tc.2.1 - cc.2.1 ∧ M ≤ tc.2.2 - cc.2.2) : M = roomC tc cc := by
  unfold roomC; omega
theorem take_snoc {α β : Type} {f : α → β} {cs : List α} {i : Nat} {cc : α} (h : cs[i]? = some cc) : (cs.take (i + 1)).map f = (cs.take i).map f ++ [f cc] := by
  rw [List.take_add_one, h, List.map_append]; rfl
theorem best_turn {s : Shared} {h₀ h' : Heap} {L lD x4 x3 x2 x1 I D1 D2 : Addr} {oI oa ob o3n o4 q1 q2 q3 q4 q5 q6 : Obj} {m : Str → Option Value} {ys : List Value} {vs : Array Value} {c tk i : Nat} {rest : List (Addr × Obj)} {va vb : Option Value} {cs : List Col} {cc tc : Col}
    (F9 : Fr h₀ L h' m) (N9 : News h₀ L h' ((D2, LCg.lst ys) :: (D1, q1) :: (I, oI) :: (lD, W.listOf (vs.push (.ref D2)) (c + 1)) :: (x4, oa) :: (x3, ob) :: (x2, o3n) :: (x1, o4) :: rest))
    (ho : (@Ne Nat D1 D2) ∧ (@Ne Nat I D2) ∧ (@Ne Nat lD D2) ∧ (@Ne Nat x4 D2) ∧ (@Ne Nat x3 D2) ∧ (@Ne Nat x2 D2) ∧ (@Ne Nat x1 D2) ∧ LCg.Off1 D2 rest)
    (sp : ∀ p ∈ (lD, q2) :: (x4, q3) :: (x3, q4) :: (x2, q5) :: (x1, q6) :: rest, p.1 ≠ I) (da : oa.data = .cell va) (db : ob.data = .cell vb) (hC : ColsIn rest vs ((cs.take i).map (liftC tc)))
    (hR : ∀ p ∈ rest, p.1 ≠ lD ∧ p.1 ≠ x4 ∧ p.1 ≠ x3) (hci : cs[i]? = some cc) (hI8 : IntsAre ys (colL (liftC tc cc))) :
    TurnEnd h₀ L I oI (JB lD x4 x3 x2 x1 o3n o4 m tc cs (i + 1)) s .next { s with heap := h', toks := tk } := by
  refine ⟨.inl rfl, h', tk, m, (lD, W.listOf (vs.push (.ref D2)) (c + 1)) :: (x4, oa) :: (x3, ob) :: (x2, o3n) :: (x1, o4) :: (D2, LCg.lst ys) :: rest, rfl, F9, news_sub N9 ?_, ?_, rfl, _, _, _, _, _, _, _, rfl, da, db, ?_, ?_⟩
  · intro p hp
    simp only [List.mem_cons] at hp ⊢
    rcases hp with h | h | h | h | h | h | h | h <;> simp [h]
  · intro p hp
    simp only [List.mem_cons] at hp
    rcases hp with h | h | h | h | h | h | h
    · subst h; exact sp (lD, q2) (by simp)
    · subst h; exact sp (x4, q3) (by simp)
    · subst h; exact sp (x3, q4) (by simp)
    · subst h; exact sp (x2, q5) (by simp)
    · subst h; exact sp (x1, q6) (by simp)
    · subst h; exact Ne.symm ho.2.1
    · exact sp p (by simp [h])
  · rw [take_snoc hci]
    exact hC.push (fun p hp => .tail _ hp) ⟨ys.toArray, ys.length, .head _, by simpa using hI8⟩
  · intro p hp
    rcases List.mem_cons.mp hp with h | h
    · subst h; exact ⟨Ne.symm ho.2.2.1, Ne.symm ho.2.2.2.1, Ne.symm ho.2.2.2.2.1⟩
    · exact hR p h
theorem words_LBest_0 : True := by
  k_with_none
  (k_with "mine k_lt" => skip)
  (k_with "mine pl" => (first | exact sn1 | exact sn2 | exact sn3 | exact sn4 | exact sn5 | exact sn6 | exact Ne.symm sn1 | exact Ne.symm sn2 | exact Ne.symm sn3 | exact Ne.symm sn4 | exact Ne.symm sn5 | exact Ne.symm sn6 | (refine peel ?_; k_extra "mine pl")))
  (k_with "mine k_ne" => (first | with_reducible assumption | (with_reducible refine Ne.symm ?_; with_reducible assumption) | exact off1_ne (by with_reducible assumption) (by k_mem) | exact Ne.symm (off1_ne (by with_reducible assumption) (by k_mem)) | exact lt_ne (by with_reducible assumption) (by k_mem) | exact lt_ne' (by with_reducible assumption) (by k_mem) | k_extra "mine pl" | (refine neN ?_; (try dsimp only); omega)))
  (k_with "mine tl" => (first | assumption | (refine List.Mem.tail _ ?_; k_extra "mine tl")))
  (k_with "mine sub" => (first | exact List.forall_mem_nil _ | (refine List.forall_mem_cons.mpr ⟨by k_mem, ?_⟩; k_extra "mine sub") | (intro p hp; k_extra "mine tl")))
  (k_with "mine enterC" => (k_dflt (refine' enterC ?rwBest38 ?GwBest38 ?howBest38 ?hcdwBest38 ?hbwBest38 ?hlwBest38 ?hcwBest38 ?_ ?c1wBest38 ?c2wBest38 ?c3wBest38; (case GwBest38 => assumption); (case howBest38 => k_is); (case rwBest38 => exact Nat.le_of_ble_eq_true rfl); (case hcdwBest38 => k_is); (case hbwBest38 => exact BindsTo.of_eq rfl); (case hlwBest38 => exact rfl); (case hcwBest38 => decide +kernel); (case c1wBest38 => exact rfl); (case c2wBest38 => exact rfl); (case c3wBest38 => exact rfl))))
  (k_with "FinE" => (((unfold LCg.FinE); walk_at "tail fin")))
  (k_with "FinA" => (((unfold LCg.FinA); walk_at "tail fin")))
  (k_with "CompSrc" => ((k_here; k_dflt (refine LCg.CompSrc.range (by rfl) (by with_reducible assumption) (by with_reducible assumption) (by with_reducible assumption) (by first | decide | rfl) (by first | rfl | decide) (by first | exact Nat.le_of_ble_eq_true rfl | size_fits) ?_; intro _; lcg_lit))))
  (k_with "mine k_all" => (assumption))
  (k_with "call builtin:list.append" => ((k_here; (with_reducible show wpAny _ _ (call (Value.builtin _) [Value.ref _, _]) _ _ _); k_dflt (refine' append_K ?k1wBest43 ?k2wBest43 ?k3wBest43 ?_ ?zwBest43; (case k1wBest43 => k_asm); (case k2wBest43 => k_asm); (case k3wBest43 => k_upd); (case zwBest43 => first | assumption | size_fits); k_whole); intro _ _ _; (try k_sweep))))
  (k_with "exec For Name Name cons nil" => ((k_here; with_unfolding_all refine wpAny_For ?_)))
  (k_with "CompRest" => ((with_unfolding_all first
      | (refine LCg.CompRest.succ ?_; walk_at "tail rest")
      | refine LCg.CompRest.zero ?_)))
  (k_with "CompEnd" => ((rename News _ _ _ _ => N9z; rename Fr _ _ _ _ => F9z; refine LCg.CompEnd.intro F9z N9z _ (fun p hp => hp) (by assumption) (by lcg_src) ?_; clear N9z F9z)))
  trivial
set_option maxHeartbeats 8000000 in
theorem best_spec {w : World} {A : Around} {s : Shared} {Q : Value → Shared → Prop} {E : Value → Shared → Prop} (R : Lvl A 900) (G : Gr w s.heap) {a t : Addr} {us : Array Value} {n : Nat} {cs : List Col} {tc : Col}
    (hm : s.heap.get? a = some (W.listOf us n)) (hcs : ColsAt s.heap us cs) (ht : ColAt s.heap t tc) (hz : us.size ≤ 100) (hne : 0 < cs.length)
    (k : ∀ a vs e h' tk B, (∀ b o, s.heap.get? b = some o → h'.get? b = some o) → s.heap.get? a = none → h'.get? a = some (W.listOf vs e) → IntsAre vs.toList (colL B) → (∀ j, j < 3 → IsMax (pj j B) ((cs.map (liftC tc)).map (pj j))) → Q (.ref a) { s with heap := h', toks := tk }) :
    wpAny (model PR w) A (call (.ref 99) [.ref a, .ref t]) Q E s := by
  obtain ⟨p, l, m, mg, mb, T⟩ := G.top
  have X := G.kin
  obtain ⟨tvs, te, htg, hti⟩ := ht
  have htl : s.heap.IsList t tvs := ⟨_, htg, rfl, te, rfl⟩
  refine lower R ?_
  clear R
  generalize A.frames = fr
  k_extra "mine enterC"
  intro L h₁ tk cells F N Y
  obtain ⟨o1, o2, o3, o4, hE, d1, d2, d3, d4⟩ := CellsAre.four Y
  subst hE
  clear Y
  replace d1 : o1.data = .cell none := d1
  replace d2 : o2.data = .cell none := d2
  replace d3 : o3.data = .cell none := d3
  replace d4 : o4.data = .cell (some (.ref t)) := d4
  (try dsimp only)
  (try k_fold)
  (try dsimp only)
  k_steps
  rename Fr _ _ _ _ => F'
  rename News _ _ _ _ => N'
  generalize (bindL _ _ _) = mF at F'
  rename_i lD hA1 l1 hA2 o3n d3n
  refine iter_mine (n := n) (items := us) (JB lD (L + 1 + 1 + 1 + 1) (L + 1 + 1 + 1) (L + 1 + 1) (L + 1) o3n o4 mF tc cs) rfl F' N' ?j0 (fun _ _ _ _ => .inl hm) ?turn ?done (fun _ _ => rfl)
  case j0 => exact ⟨rfl, #[], 0, o1, o2, none, none, [], rfl, d1, d2, ColsIn.nil, fun _ h => nomatch h⟩
  case done =>
    rintro m₁ news₁ h₂ tk₂ ⟨rfl, vs, c, oa, ob, va, vb, rest, rfl, da, db, hC, hR⟩ F₂ N₂
    rw [hcs.1, List.take_length] at hC
    clear F' N'
    (try dsimp only)
    k_steps
    refine' ListComp_C (h₀ := s.heap) (L := L) (m := m₁) (JM (lD, W.listOf vs c) (L + 1 + 1 + 1 + 1, oa) (L + 1 + 1 + 1, ob) (L + 1 + 1, o3n) (L + 1, o4) rest (cs.map (liftC tc))) 3 rfl (by decide) ?c1 ?c2 ?c3 ?c4 ?c5 ?c6 ?c7 ?c8 ?it ?turn2 ?fin2 ?c9
    case c1 => exact rfl
    case c2 => intro k; rfl
    case c3 => intro h; rfl
    case c4 => exact rfl
    case c5 => decide
    case c6 => exact rfl
    case c7 => decide
    case c8 => decide
    case c9 => intro x; rfl
    case it =>
      (try dsimp only)
      k_steps
      rename IsRange _ _ _ _ _ _ _ _ => hr9
      exact ⟨_, _, _, _, _, _, _, rfl, rfl, by assumption, by assumption, hr9, rfl, [], .nil, rfl, fun j M h => by simp at h⟩
    case turn2 =>
      rintro i t2 ys news I oI C oC K oK D h₃ tk₃ hi ⟨rfl, Ms, hMs, hMl, hMx⟩ dK F₃ N₃ off ne
      clear F₂ N₂
      (try dsimp only)
      k_steps
      rename News _ _ _ _ => N4
      rename Fr _ _ _ _ => F4
      refine LCg.CompSrc.ledger (its := vs) (k := c) rfl F4 N4 (by k_mem) (by rw [hC.1, sizeLine_eq, List.length_map]; have := hcs.1; omega) ?_
      intro g'
      refine rest_J (fun i2 ys2 news2 => news2 = (I, oI) :: (C, oC) :: (K, oK) :: (D, LCg.lst ys) :: (lD, W.listOf vs c) :: (L + 1 + 1 + 1 + 1, oa) :: (L + 1 + 1 + 1, ob) :: (L + 1 + 1, o3n) :: (L + 1, o4) :: rest ∧ IntsAre ys2 (((cs.map (liftC tc)).take i2).map (pj i)))
        ?turn3 ?fin3 _ 0 [] _ (Nat.zero_add _) ⟨rfl, .nil⟩
      case turn3 =>
        rintro i2 v ys2 news2 I2 oI2 C2 oC2 D2 m2 h4 tk4 hv hlt ⟨rfl, hys⟩ hoC hm2 F5 N5 off4 ne4
        obtain ⟨b, cc, rfl, hci, ws, we, hmem, hbi⟩ := hC.2 i2 v hv
        have hbl : h4.IsList b ws := ⟨_, (N5 (b, W.listOf ws we) (by k_extra "mine tl")).1, rfl, we, rfl⟩
        clear N4 F4
        (try dsimp only)
        k_steps
        rw [take_snoc hci, pj_get hi]
        exact IntsAre.append hys (.cons _ _ .nil)
      case fin3 =>
        rintro ys2 news2 ⟨rfl, hys⟩
        rw [hC.1, List.take_length] at hys
        clear N4 F4
        (try dsimp only)
        k_steps
        rename Fr _ _ _ _ => F5
        rename News _ _ _ _ => N5
        rename _ ∈ List.map _ _ => hMa
        rename (∀ a : Int, a ∈ List.map _ _ → a ≤ _) => hMb
        exact ⟨_, _, _, rfl, F5, fun p hp => N5 p (.tail _ hp), off, JM_step ⟨rfl, Ms, hMs, hMl, hMx⟩ ⟨hMa, hMb⟩⟩
    case fin2 =>
      rintro D h₃ tk₃ ys news ⟨rfl, Ms, hMs, hMl, hMx⟩ F₃ N₃ off
      match Ms, hMl with
      | [M0, M1, M2], _ =>
        refine k D ys.toArray ys.length h₃ tk₃ (M0, M1, M2) F₃.keep (N₃ _ (.head _)).2.2 (N₃ _ (.head _)).1 (by simpa using hMs) fun j hj => hMx j _ ?_
        match j, hj with
        | 0, _ => rfl
        | 1, _ => rfl
        | 2, _ => rfl
  case turn =>
    rintro i v m₁ news₁ I' oI h₂ tk₂ hv ⟨rfl, vs, c, oa, ob, va, vb, rest, rfl, da, db, hC, hR⟩ F₂ N₂ sep
    obtain ⟨b, cc, rfl, hci, bvs, be, hb, hbi⟩ := hcs.2 i v hv
    have hbl : s.heap.IsList b bvs := ⟨_, hb, rfl, be, rfl⟩
    clear F' N'
    have a1 : ∀ p ∈ rest, p.1 ≠ lD := fun p hp => (hR p hp).1
    have a2 : ∀ p ∈ rest, p.1 ≠ L + 1 + 1 + 1 + 1 := fun p hp => (hR p hp).2.1
    have a3 : ∀ p ∈ rest, p.1 ≠ L + 1 + 1 + 1 := fun p hp => (hR p hp).2.2
    have sp := off1_of sep
    have hlt := (List.getElem?_eq_some_iff.mp hci).1
    have hvz : vs.size ≤ sizeLine := by rw [hC.1, sizeLine_eq, List.length_map, List.length_take]; have := hcs.1; omega
    refine wpAny_assign_Name ?_
    (try dsimp only)
    k_steps
    rename Fr _ _ _ _ => F9
    rename News _ _ _ _ => N9
    rename IntsAre _ (List.map _ _) => hI8
    rename (_ = _ ∨ _ = _ ∨ _ = _) => ha
    rename (_ ≤ _ ∧ _ ≤ _ ∧ _ ≤ _) => hb2
    rename (_ ≠ _ ∧ _) => ho
    have hM := roomEq ha hb2
    subst hM
    exact best_turn F9 N9 ho sep (by assumption) (by assumption) hC hR hci hI8

theorem ints_len {vs : List Value} {ns : List Int} (h : IntsAre vs ns) : vs.length = ns.length := h.length
theorem ints_inj {vs : List Value} {ns ms : List Int} (h : IntsAre vs ns) : IntsAre vs ms → ns = ms := by
  induction h generalizing ms with
  | nil => intro g; cases g; rfl
  | cons n t r ih => intro g; cases g with | cons _ _ g => rw [ih g]
theorem colL_inj {c d : Col} (h : colL c = colL d) : c = d := by
  obtain ⟨a, b, e⟩ := c
  obtain ⟨x, y, z⟩ := d
  simp [colL] at h
  obtain ⟨rfl, rfl, rfl⟩ := h; rfl
theorem ColAt.inj {h : Heap} {a : Addr} {c d : Col} (x : ColAt h a c) (y : ColAt h a d) : c = d := by
  obtain ⟨vs, e, g, i⟩ := x
  obtain ⟨vs', e', g', i'⟩ := y
  rw [g] at g'
  have := Option.some.inj g'
  have e1 : vs = vs' := by
    have h1 := congrArg Obj.data this
    simp only [W.listOf] at h1
    cases h1; rfl
  subst e1
  exact colL_inj (ints_inj i i')
theorem ColAt.keeps {h h' : Heap} {a : Addr} {c : Col} (x : ColAt h a c) (k : ∀ b o, h.get? b = some o → h'.get? b = some o) : ColAt h' a c := let ⟨vs, e, g, i⟩ := x; ⟨vs, e, k _ _ g, i⟩
theorem ColsAt.keeps {h h' : Heap} {us : Array Value} {cs : List Col} (x : ColsAt h us cs) (k : ∀ b o, h.get? b = some o → h'.get? b = some o) : ColsAt h' us cs :=
  ⟨x.1, fun i v hv => let ⟨a, c, e1, e2, e3⟩ := x.2 i v hv; ⟨a, c, e1, e2, e3.keeps k⟩⟩
theorem ColsIn.mono {news news' : List (Addr × Obj)} {us : Array Value} {cs : List Col} (x : ColsIn news us cs) (h : ∀ p ∈ news, p ∈ news') : ColsIn news' us cs :=
  ⟨x.1, fun i v hv => let ⟨a, c, e1, e2, e3⟩ := x.2 i v hv; ⟨a, c, e1, e2, e3.mono h⟩⟩
theorem ColsIn.at {h₀ h : Heap} {L : Addr} {news : List (Addr × Obj)} {us : Array Value} {cs : List Col} (x : ColsIn news us cs) (N : News h₀ L h news) : ColsAt h us cs :=
  ⟨x.1, fun i v hv => let ⟨a, c, e1, e2, e3⟩ := x.2 i v hv; ⟨a, c, e1, e2, e3.at N⟩⟩
section
variable {prog : Program} {w : World} {A : Around} {E : Value → Shared → Prop} {s : Shared}
theorem eq_col_items {vs us : Array Value} {c d : Col} (hv : IntsAre vs.toList (colL d)) (hu : IntsAre us.toList (colL c)) :
    ∀ j (h1 : j < vs.size) (h2 : j < us.size), SeqAt.EqAt A s vs[j] us[j] ((colL d).getD j 0 == (colL c).getD j 0) := by
  intro j h1 h2
  have l1 : vs.size = 3 := by have := hv.length; simpa using this
  obtain ⟨t, e1⟩ := hv.get j ((colL d).getD j 0) (by rw [List.getD_eq_getElem?_getD]; rw [List.getElem?_eq_getElem (by simp; omega)]; rfl)
  obtain ⟨u, e2⟩ := hu.get j ((colL c).getD j 0) (by rw [List.getD_eq_getElem?_getD]; rw [List.getElem?_eq_getElem (by simp; omega)]; rfl)
  have f1 : vs[j] = .int ((colL d).getD j 0) t := by simpa [h1] using e1
  have f2 : us[j] = .int ((colL c).getD j 0) u := by simpa [h2] using e2
  rw [f1, f2]
  exact (MeetsSeq.EqGives.int _ _ t u).at A s
theorem all_cols (c d : Col) : (List.range 3).all (fun j => (colL d).getD j 0 == (colL c).getD j 0) = decide (d = c) := by
  rw [Bool.eq_iff_iff]
  simp only [List.all_eq_true, List.mem_range, beq_iff_eq, decide_eq_true_eq]
  constructor
  · intro h
    have h0 := h 0 (by omega)
    have h1 := h 1 (by omega)
    have h2 := h 2 (by omega)
    obtain ⟨a, b, e⟩ := c
    obtain ⟨x, y, z⟩ := d
    simp [colL] at h0 h1 h2
    subst h0 h1 h2; rfl
  · rintro rfl j _; rfl
theorem eqAt_cols {a b : Addr} {c d : Col} (hne : a ≠ b) (ha : ColAt s.heap a d) (hb : ColAt s.heap b c) (hu : A.units < cLine) : SeqAt.EqAt A s (.ref a) (.ref b) (decide (d = c)) := by
  obtain ⟨vs, e, g, i⟩ := ha
  obtain ⟨us, e', g', i'⟩ := hb
  have l1 : vs.size = 3 := by have := i.length; simpa using this
  have l2 : us.size = 3 := by have := i'.length; simpa using this
  have := SeqAt.RcAt.lists (A := A) (s := s) ⟨_, g, rfl, e, rfl⟩ ⟨_, g', rfl, e', rfl⟩ (by rw [l1, l2]) hu (eq_col_items i i')
  rw [l1, all_cols] at this
  exact .of_refs hne this
theorem notin_cols {l x : Addr} {us : Array Value} {cs : List Col} {c : Col} {Q : Value → Shared → Prop} (hl : s.heap.IsList l us) (hC : ColsAt s.heap us cs) (hx : ColAt s.heap x c) (hne : ∀ v ∈ us, v ≠ .ref x) (hu : A.in1.units < cLine)
    (h : Q (.bool (!decide (c ∈ cs))) s) : wpAny (model prog w) A (compareOp .NotIn (.ref x) (.ref l)) Q E s := by
  classical
  refine SeqAt.notIn_listAt (fun y => decide (∃ a, y = .ref a ∧ ColAt s.heap a c)) hl (fun y hy => ?_) ?_
  · obtain ⟨i, hi⟩ := Array.getElem?_of_mem hy
    obtain ⟨a, d, rfl, e2, e3⟩ := hC.2 i y hi
    have := eqAt_cols (A := A.in1) (s := s) (fun q => hne _ hy (by rw [q])) e3 hx hu
    have e : decide (∃ b, Value.ref a = .ref b ∧ ColAt s.heap b c) = decide (d = c) := by
      rw [Bool.eq_iff_iff]
      simp only [decide_eq_true_eq]
      constructor
      · rintro ⟨b, hb, hc⟩; cases hb; exact e3.inj hc
      · rintro rfl; exact ⟨a, rfl, e3⟩
    rw [e]; exact this
  · have e : us.any (fun y => decide (∃ a, y = Value.ref a ∧ ColAt s.heap a c)) = decide (c ∈ cs) := by
      rw [Bool.eq_iff_iff, Array.any_eq_true']
      simp only [decide_eq_true_eq]
      constructor
      · rintro ⟨y, hy, a, rfl, hc⟩
        obtain ⟨i, hi⟩ := Array.getElem?_of_mem hy
        obtain ⟨b, d, e1, e2, e3⟩ := hC.2 i _ hi
        cases e1
        rw [hc.inj e3]
        exact List.mem_of_getElem? e2
      · intro hc
        obtain ⟨i, hi⟩ := List.getElem?_of_mem hc
        have hlt : i < us.size := by rw [hC.1]; exact (List.getElem?_eq_some_iff.mp hi).1
        obtain ⟨a, d, e1, e2, e3⟩ := hC.2 i us[i] (by simp [hlt])
        rw [hi] at e2; cases e2
        exact ⟨us[i], Array.getElem_mem hlt, a, e1, e3⟩
    rw [e]; exact h
end
section
variable {w : World} {A : Around} {s : Shared} {Q : Value → Shared → Prop} {E : Value → Shared → Prop} {h₀ : Heap} {L : Addr} {m : Str → Option Value} {news : List (Addr × Obj)}
theorem sep_of {nw : List (Addr × Obj)} {h' : Heap} (N : News h₀ L s.heap news) (hn : ∀ p ∈ nw, h'.get? p.1 = some p.2 ∧ s.heap.get? p.1 = none) : ∀ p ∈ nw, ∀ q ∈ news, q.1 ≠ p.1 := fun p hp q hq e => by
  have := (N q hq).1; rw [e, (hn p hp).2] at this; cases this
theorem ext_K {nw : List (Addr × Obj)} {h' : Heap} (F : Fr h₀ L s.heap m) (N : News h₀ L s.heap news) (kp : ∀ b o, s.heap.get? b = some o → h'.get? b = some o) (hn : ∀ p ∈ nw, h'.get? p.1 = some p.2 ∧ s.heap.get? p.1 = none) :
    News h₀ L h' (nw ++ news) := fun p hp => by
  rcases List.mem_append.mp hp with hp | hp
  · refine ⟨(hn p hp).1, fun q => ?_, ?_⟩
    · obtain ⟨o, a, b, e, _⟩ := F.ns
      rw [← q, (hn p hp).2] at e; cases e
    · cases q : h₀.get? p.1 with
      | none => rfl
      | some o => have := F.keep _ _ q; rw [(hn p hp).2] at this; cases this
  · exact ⟨kp _ _ (N p hp).1, (N p hp).2⟩
def bareC (c : Col) : Col := (c.1 - min c.1 (min c.2.1 c.2.2), c.2.1 - min c.1 (min c.2.1 c.2.2), c.2.2 - min c.1 (min c.2.1 c.2.2))
theorem bare_K (R : Lvl A 900) (F : Fr h₀ L s.heap m) (N : News h₀ L s.heap news) (G : Gr w h₀) {a : Addr} {c : Col} (ha : ColAt s.heap a c)
    (k : ∀ D vs e h' tk, Fr h₀ L h' m → News h₀ L h' ((D, W.listOf vs e) :: news) → LCg.Off1 D news → IntsAre vs.toList (colL (bareC c)) → Q (.ref D) { s with heap := h', toks := tk }) :
    wpAny (model PR w) A (call (.ref 89) [.ref a]) Q E s := by
  obtain ⟨vs, e, g, i⟩ := ha
  refine bare_spec R (G.keeps F.keep) (vs := vs.toList) (x := c.1) (y := c.2.1) (z := c.2.2) ⟨_, g, rfl, e, by simp [W.listOf]⟩ i fun D vs' e' h' tk kp hD hD' hi => ?_
  have hn : ∀ p ∈ [(D, W.listOf vs' e')], h'.get? p.1 = some p.2 ∧ s.heap.get? p.1 = none := fun p hp => by rcases List.mem_singleton.mp hp with rfl; exact ⟨hD', hD⟩
  exact k D vs' e' h' tk (F.grownK kp) (ext_K F N kp hn) (off1_of fun q hq => sep_of N hn _ (.head _) q hq) hi
end
def mixC (m c : Col) (s : Int) : Col := bareC (max m.1 (c.1 + s), max m.2.1 (c.2.1 + s), max m.2.2 (c.2.2 + s))
def insC (l : List Col) (c : Col) : List Col := if c ∈ l then l else l ++ [c]
def shiftsL (n : Nat) : List Int := (List.range n).map fun (i : Nat) => -3 + (i : Int)
def stepMix (c : Col) (found : List Col) (m : Col) (n : Nat) : List Col := (shiftsL n).foldl (fun f s => insC f (mixC m c s)) found
def stepCol (mixes : List Col) (c : Col) : List Col := mixes.foldl (fun f m => stepMix c f m 7) []
theorem insC_len (l : List Col) (c : Col) : (insC l c).length ≤ l.length + 1 := by unfold insC; split <;> simp
theorem stepMix_succ (c : Col) (found : List Col) (m : Col) (n : Nat) : stepMix c found m (n + 1) = insC (stepMix c found m n) (mixC m c (-3 + (n : Int))) := by
  unfold stepMix shiftsL; rw [List.range_succ, List.map_append, List.foldl_append]; rfl
theorem stepMix_len (c : Col) (found : List Col) (m : Col) (n : Nat) : (stepMix c found m n).length ≤ found.length + n := by
  induction n with
  | zero => simp [stepMix, shiftsL]
  | succ n ih => rw [stepMix_succ]; have := insC_len (stepMix c found m n) (mixC m c (-3 + (n : Int))); omega

section
variable {w : World} {A : Around} {s : Shared} {Q : Value → Shared → Prop} {E : Value → Shared → Prop} {h₀ : Heap} {L : Addr} {m : Str → Option Value} {news : List (Addr × Obj)}
theorem notin_K {aF D : Addr} {fs vs : Array Value} {c e : Nat} {rest nw : List (Addr × Obj)} {cs : List Col} {cc : Col} (N : News h₀ L s.heap news) (hm : (aF, W.listOf fs c) ∈ news) (hC : ColsIn rest fs cs) (sub : ∀ p ∈ rest, p ∈ news)
    (hx : (D, W.listOf vs e) ∈ news) (hi : IntsAre vs.toList (colL cc)) (ho : LCg.Off1 D nw) (sub2 : ∀ p ∈ rest, p ∈ nw) (hu : A.in1.units < cLine) (h : ∀ b : Bool, b = (!decide (cc ∈ cs)) → Q (.bool b) s) :
    wpAny (model PR w) A (compareOp .NotIn (.ref D) (.ref aF)) Q E s := by
  refine notin_cols (isl_of N hm) ((hC.mono sub).at N) ⟨vs, e, (N _ hx).1, hi⟩ (fun v hv q => ?_) hu (h _ rfl)
  subst q
  obtain ⟨i, hi⟩ := Array.getElem?_of_mem hv
  obtain ⟨a, d, e1, e2, us, e', e3, e4⟩ := hC.2 i _ hi
  cases e1
  exact off1_mem ho _ (sub2 _ e3) rfl
end
theorem colAt_lst {h₀ h : Heap} {L D : Addr} {news : List (Addr × Obj)} {a b c : Int} {t u v : Tok} (N : News h₀ L h news) (m : (D, LCg.lst [.int a t, .int b u, .int c v]) ∈ news) : ColAt h D (a, b, c) :=
  ⟨_, _, (N _ m).1, .cons _ _ (.cons _ _ (.cons _ _ .nil))⟩
theorem max2_K {prog : Program} {w : World} {A : Around} {s : Shared} {Q : Value → Shared → Prop} {E : Value → Shared → Prop} {h₀ : Heap} {L : Addr} {m : Str → Option Value} {news : List (Addr × Obj)} {a b : Int} {t u : Tok} (hh : A.handled = none) (F : Fr h₀ L s.heap m) (N : News h₀ L s.heap news)
    (h : ∀ h' tk r, Fr h₀ L h' m → News h₀ L h' news → Q (.int (max a b) r) { s with heap := h', toks := tk }) :
    wpAny (model prog w) A (call (.builtin "max") [.int a t, .int b u]) Q E s :=
  max_two_N hh F N fun h' tk F' N' => by
    have e : (if b > a then b else a) = max a b := by split <;> omega
    rw [e]; exact h h' tk _ F' N'
def mX (mb : Str → Option Value) (vM : Value) (uf um : Option Value) : Str → Option Value := fun y =>
  if y = Str.ofString "mixed" then um else if y = Str.ofString "found" then uf else if y = Str.ofString "mixes" then some vM else mb y
theorem mX_eq {f g : Str → Option Value} (a : f (Str.ofString "mixed") = g (Str.ofString "mixed")) (b : f (Str.ofString "found") = g (Str.ofString "found")) (c : f (Str.ofString "mixes") = g (Str.ofString "mixes"))
    (d : ∀ y, y ≠ Str.ofString "mixed" → y ≠ Str.ofString "found" → y ≠ Str.ofString "mixes" → f y = g y) : f = g := by
  funext y
  by_cases h : y = Str.ofString "mixed"
  · subst h; exact a
  · by_cases h2 : y = Str.ofString "found"
    · subst h2; exact b
    · by_cases h3 : y = Str.ofString "mixes"
      · subst h3; exact c
      · exact d y h h2 h3
theorem mX_mixed {mb : Str → Option Value} {vM : Value} {uf um : Option Value} {v : Value} : (fun y => if y = Str.ofString "mixed" then some v else mX mb vM uf um y) = mX mb vM uf (some v) :=
  mX_eq rfl rfl rfl fun y h h2 h3 => by simp [mX, h, h2, h3]
theorem mX_found {mb : Str → Option Value} {vM : Value} {uf um : Option Value} {v : Value} : (fun y => if y = Str.ofString "found" then some v else mX mb vM uf um y) = mX mb vM (some v) um :=
  mX_eq rfl rfl rfl fun y h h2 h3 => by simp [mX, h, h2, h3]
theorem mX_mixes {mb : Str → Option Value} {vM : Value} {uf um : Option Value} {v : Value} : (fun y => if y = Str.ofString "mixes" then some v else mX mb vM uf um y) = mX mb v uf um :=
  mX_eq rfl rfl rfl fun y h h2 h3 => by simp [mX, h, h2, h3]
theorem mX_start {mb : Str → Option Value} {v : Value} : (fun y => if y = Str.ofString "mixes" then some v else mb y) = mX mb v (mb (Str.ofString "found")) (mb (Str.ofString "mixed")) :=
  mX_eq rfl rfl rfl fun y h h2 h3 => by simp [mX, h, h2, h3]
def JO (S x3 x2 x1 : Addr) (oS : Obj) (mb : Str → Option Value) (c0 : Col) (ds : List Col) (i : Nat) (m₁ : Str → Option Value) (news₁ : List (Addr × Obj)) : Prop :=
  ∃ um uf aM us e q1 q2 q3 v1 v2 v3 rest, m₁ = mX mb (.ref aM) uf um ∧ news₁ = (S, oS) :: (x3, q1) :: (x2, q2) :: (x1, q3) :: rest ∧ q1.data = .cell v1 ∧ q2.data = .cell v2 ∧ q3.data = .cell v3 ∧
    (aM, W.listOf us e) ∈ rest ∧ ColsIn rest us ((ds.take i).foldl stepCol [bareC c0]) ∧ OwnOff rest [S, x3, x2, x1]
def JMid (aF I1 S x3 x2 x1 aM : Addr) (oI oS q3 : Obj) (mb : Str → Option Value) (c : Col) (ms : List Col) (rest0 : List (Addr × Obj)) (i : Nat) (m₁ : Str → Option Value) (news₁ : List (Addr × Obj)) : Prop :=
  ∃ um fs e q1 q2 v1 v2 rest, m₁ = mX mb (.ref aM) (some (.ref aF)) um ∧ news₁ = (aF, W.listOf fs e) :: (I1, oI) :: (S, oS) :: (x3, q1) :: (x2, q2) :: (x1, q3) :: rest ∧ q1.data = .cell v1 ∧ q2.data = .cell v2 ∧
    (∀ p ∈ rest0, p ∈ rest) ∧ ColsIn rest fs ((ms.take i).foldl (fun f m => stepMix c f m 7) []) ∧ OwnOff rest [aF, I1, S, x3, x2, x1]
def JIn (aF I2 I1 S x3 x2 x1 aM : Addr) (oI2 oI oS q2 q3 : Obj) (mb : Str → Option Value) (c mm : Col) (f0 : List Col) (rest0 : List (Addr × Obj)) (i : Nat) (m₁ : Str → Option Value) (news₁ : List (Addr × Obj)) : Prop :=
  ∃ um fs e q1 v1 rest, m₁ = mX mb (.ref aM) (some (.ref aF)) um ∧ news₁ = (aF, W.listOf fs e) :: (I2, oI2) :: (I1, oI) :: (S, oS) :: (x3, q1) :: (x2, q2) :: (x1, q3) :: rest ∧ q1.data = .cell v1 ∧
    (∀ p ∈ rest0, p ∈ rest) ∧ ColsIn rest fs (stepMix c f0 mm i) ∧ OwnOff rest [aF, I2, I1, S, x3, x2, x1]
theorem offCons {rest : List (Addr × Obj)} {l : List Addr} {a : Addr} (h : OwnOff rest l) (k : ∀ p ∈ rest, p.1 ≠ a) : OwnOff rest (a :: l) := fun p hp b hb => by
  rcases List.mem_cons.mp hb with rfl | hb
  · exact k p hp
  · exact h p hp b hb
theorem offIns {rest : List (Addr × Obj)} {l : List Addr} {a b : Addr} (h : OwnOff rest (a :: l)) (k : ∀ p ∈ rest, p.1 ≠ b) : OwnOff rest (a :: b :: l) := fun p hp x hx => by
  rcases List.mem_cons.mp hx with rfl | hx
  · exact h p hp _ (.head _)
  · rcases List.mem_cons.mp hx with rfl | hx
    · exact k p hp
    · exact h p hp x (.tail _ hx)
theorem fold2 {α β : Type} (f : β → α → β) (b : β) (x y : α) : List.foldl f b (List.take 2 [x, y]) = f (f b x) y := rfl
theorem foldMix_len (c : Col) : ∀ (ms f : List Col), (ms.foldl (fun f m => stepMix c f m 7) f).length ≤ f.length + 7 * ms.length
  | [], f => by simp
  | m :: r, f => by
    rw [List.foldl_cons]
    have h1 := foldMix_len c r (stepMix c f m 7)
    have h2 := stepMix_len c f m 7
    simp only [List.length_cons]; omega
theorem foldCol_len : ∀ (ds ms : List Col), ds.length ≤ 2 → (ds.foldl stepCol ms).length ≤ 49 * ms.length
  | [], ms, _ => by simp only [List.foldl_nil]; omega
  | [a], ms, _ => by have := foldMix_len a ms []; simp only [List.foldl_cons, List.foldl_nil, List.length_nil] at *; unfold stepCol; omega
  | [a, b], ms, _ => by
    have h1 := foldMix_len a ms []
    have h2 := foldMix_len b (stepCol ms a) []
    simp only [List.foldl_cons, List.foldl_nil, List.length_nil] at *
    unfold stepCol at *; omega
theorem gen_in {M : Model} {A : Around} {α : Type} {t : Sem α} {T : α → Shared → Prop} {E : Value → Shared → Prop} {s : Shared} (h : ∀ Q' : α → Shared → Prop, (∀ v s', T v s' → Q' v s') → wpAny M A t Q' E s) : wpAny M A t T E s := h T fun _ _ x => x
theorem gen_turn {M : Model} {A : Around} {α β : Type} {t : Sem α} {b : Sem β} {T : β → Shared → Prop} {E E' : Value → Shared → Prop} {s : Shared} (h : ∀ Q' : β → Shared → Prop, (∀ v s', T v s' → Q' v s') → wpAny M A t (fun _ s₃ => wpAny M A b Q' E' s₃) E s) : wpAny M A t (fun _ s₃ => wpAny M A b T E' s₃) E s := h T fun _ _ x => x
theorem fill8 : PySem.Challenge.rw_rl0034_01 = PySem.Challenge.rw_rl0034_01 ∧ hd.heap_1 = hd.heap_1 := by
  k_fill
  exact ⟨rfl, rfl⟩
theorem mixC_of (mm col : Col) (x : Int) : bareC (max ((colL mm).getD ((0 : Int) + ((0 : Nat) : Int)).toNat 0) ((colL col).getD ((0 : Int) + ((0 : Nat) : Int)).toNat 0 + x),
    max ((colL mm).getD ((0 : Int) + ((0 + 1 : Nat) : Int)).toNat 0) ((colL col).getD ((0 : Int) + ((0 + 1 : Nat) : Int)).toNat 0 + x), max ((colL mm).getD ((0 : Int) + ((0 + 1 + 1 : Nat) : Int)).toNat 0) ((colL col).getD ((0 : Int) + ((0 + 1 + 1 : Nat) : Int)).toNat 0 + x)) = mixC mm col x := rfl
theorem off1_cons {D a : Addr} {o : Obj} {l : List (Addr × Obj)} (h : LCg.Off1 D ((a, o) :: l)) : a ≠ D := h.1
theorem inner_end {s : Shared} {h₀ h' : Heap} {L aF I3 I2 I1 S x3 x2 x1 aM D T : Addr} {oI3 oI2 oI1 oS q q2n q3n oT oF p1 p2 p3 p4 p5 p6 p7 : Obj} {mb : Str → Option Value} {um v : Option Value} {col mm cc : Col} {f0 fc : List Col} {rest' rest2 : List (Addr × Obj)} {fs2 vs fs3 : Array Value} {c3 e tk i3 : Nat} {b9 : Bool}
    (F9 : Fr h₀ L h' (fun y => if y = Str.ofString "mixed" then some (.ref D) else mX mb (.ref aM) (some (.ref aF)) um y))
    (N9 : News h₀ L h' ((D, W.listOf vs e) :: (T, oT) :: (I3, oI3) :: (aF, W.listOf fs3 c3) :: (I2, oI2) :: (I1, oI1) :: (S, oS) :: (x3, q) :: (x2, q2n) :: (x1, q3n) :: rest2))
    (hoD : LCg.Off1 D ((T, oT) :: (I3, oI3) :: (aF, oF) :: (I2, oI2) :: (I1, oI1) :: (S, oS) :: (x3, q) :: (x2, q2n) :: (x1, q3n) :: rest2))
    (sp : LCg.Off1 I3 ((aF, p1) :: (I2, p2) :: (I1, p3) :: (S, p4) :: (x3, p5) :: (x2, p6) :: (x1, p7) :: rest2)) (dq : q.data = .cell v) (hsub : ∀ p ∈ rest', p ∈ rest2) (hC : ColsIn rest2 fs2 fc) (hO : OwnOff rest2 [aF, I2, I1, S, x3, x2, x1])
    (hfc : stepMix col f0 mm i3 = fc) (hi : IntsAre vs.toList (colL cc)) (hcc : cc = mixC mm col (-3 + (i3 : Int))) (hb : b9 = (!decide (cc ∈ fc))) (h3 : if b9 = true then fs3 = fs2.push (.ref D) else fs3 = fs2) :
    TurnEnd h₀ L I3 oI3 (JIn aF I2 I1 S x3 x2 x1 aM oI2 oI1 oS q2n q3n mb col mm f0 rest' (i3 + 1)) s .next { s with heap := h', toks := tk } := by
  rw [mX_mixed] at F9
  obtain ⟨-, s2, s3, s4, s5, s6, s7, s8, s9, s10⟩ := hoD
  obtain ⟨t1, t2, t3, t4, t5, t6, t7, t8⟩ := sp
  refine ⟨.inl rfl, h', tk, _, (aF, W.listOf fs3 c3) :: (I2, oI2) :: (I1, oI1) :: (S, oS) :: (x3, q) :: (x2, q2n) :: (x1, q3n) :: (D, W.listOf vs e) :: rest2, rfl, F9, news_sub N9 ?_, ?_, _, fs3, c3, q, v, (D, W.listOf vs e) :: rest2, rfl, rfl, dq, fun p hp => .tail _ (hsub p hp), ?_, ?_⟩
  · intro p hp
    simp only [List.mem_cons] at hp ⊢
    rcases hp with h | h | h | h | h | h | h | h | h | h <;> simp [h]
  · intro p hp
    simp only [List.mem_cons] at hp
    rcases hp with h | h | h | h | h | h | h | h | h
    · subst h; exact t1
    · subst h; exact t2
    · subst h; exact t3
    · subst h; exact t4
    · subst h; exact t5
    · subst h; exact t6
    · subst h; exact t7
    · subst h; exact Ne.symm s2
    · exact off1_mem t8 p h
  · rw [stepMix_succ, hfc, ← hcc]
    unfold insC
    by_cases hm : cc ∈ fc
    · rw [if_pos hm]
      rw [hb, if_neg (by simp [hm])] at h3
      subst h3
      exact hC.mono fun p hp => .tail _ hp
    · rw [if_neg hm]
      rw [hb, if_pos (by simp [hm])] at h3
      subst h3
      exact hC.push (fun p hp => .tail _ hp) ⟨vs, e, .head _, hi⟩
  · intro p hp b hb
    rcases List.mem_cons.mp hp with rfl | hp
    · simp only [List.mem_cons, List.not_mem_nil, or_false] at hb
      rcases hb with h | h | h | h | h | h | h <;> subst h
      · exact Ne.symm s3
      · exact Ne.symm s4
      · exact Ne.symm s5
      · exact Ne.symm s6
      · exact Ne.symm s7
      · exact Ne.symm s8
      · exact Ne.symm s9
    · exact hO p hp b hb
theorem mid_end {s : Shared} {h₀ h' : Heap} {L aF I2 I1 S x3 x2 x1 aM : Addr} {oI2 oI1 oS q q2n q3n p1 p2 p3 p4 p5 p6 : Obj} {mb : Str → Option Value} {um v v2 : Option Value} {col mm : Col} {f0 ms : List Col} {rest rest' rest2 : List (Addr × Obj)} {fs2 : Array Value} {e tk j : Nat}
    (F9 : Fr h₀ L h' (mX mb (.ref aM) (some (.ref aF)) um)) (N9 : News h₀ L h' ((aF, W.listOf fs2 e) :: (I2, oI2) :: (I1, oI1) :: (S, oS) :: (x3, q) :: (x2, q2n) :: (x1, q3n) :: rest2))
    (sp : LCg.Off1 I2 ((aF, p1) :: (I1, p2) :: (S, p3) :: (x3, p4) :: (x2, p5) :: (x1, p6) :: rest')) (dq : q.data = .cell v) (dq2 : q2n.data = .cell v2) (hsub : ∀ p ∈ rest, p ∈ rest') (hsub2 : ∀ p ∈ rest', p ∈ rest2)
    (hC : ColsIn rest2 fs2 (stepMix col f0 mm 7)) (hO : OwnOff rest2 [aF, I2, I1, S, x3, x2, x1]) (hf0 : (ms.take j).foldl (fun f m => stepMix col f m 7) [] = f0) (hmi : ms[j]? = some mm) :
    TurnEnd h₀ L I2 oI2 (JMid aF I1 S x3 x2 x1 aM oI1 oS q3n mb col ms rest (j + 1)) s .next { s with heap := h', toks := tk } := by
  obtain ⟨t1, t2, t3, t4, t5, t6, -⟩ := sp
  refine ⟨.inl rfl, h', tk, _, (aF, W.listOf fs2 e) :: (I1, oI1) :: (S, oS) :: (x3, q) :: (x2, q2n) :: (x1, q3n) :: rest2, rfl, F9, news_sub N9 ?_, ?_, um, fs2, e, q, q2n, v, v2, rest2, rfl, rfl, dq, dq2, fun p hp => hsub2 p (hsub p hp), ?_, ?_⟩
  · intro p hp
    simp only [List.mem_cons] at hp ⊢
    rcases hp with h | h | h | h | h | h | h | h <;> simp [h]
  · intro p hp
    simp only [List.mem_cons] at hp
    rcases hp with h | h | h | h | h | h | h
    · subst h; exact t1
    · subst h; exact t2
    · subst h; exact t3
    · subst h; exact t4
    · subst h; exact t5
    · subst h; exact t6
    · exact hO p h I2 (.tail _ (.head _))
  · rw [List.take_add_one, hmi, List.foldl_append, hf0]
    exact hC
  · intro p hp b hb
    exact hO p hp b (by simp only [List.mem_cons] at hb ⊢; rcases hb with h | h | h | h | h | h | h <;> simp [h])
theorem outer_end {s : Shared} {h₀ h' : Heap} {L aF I1 S x3 x2 x1 aM : Addr} {oI1 oS q1 q2 q3 p1 p2 p3 p4 : Obj} {mb : Str → Option Value} {um v1 v2 v3 : Option Value} {c0 col : Col} {ds ms : List Col} {rest rest' : List (Addr × Obj)} {fs us : Array Value} {e tk i : Nat} {P : Prop}
    (F9 : Fr h₀ L h' (fun y => if y = Str.ofString "mixes" then some (.ref aF) else mX mb (.ref aM) (some (.ref aF)) um y)) (N9 : News h₀ L h' ((aF, W.listOf fs e) :: (I1, oI1) :: (S, oS) :: (x3, q1) :: (x2, q2) :: (x1, q3) :: rest'))
    (sp : LCg.Off1 I1 ((S, p1) :: (x3, p2) :: (x2, p3) :: (x1, p4) :: rest)) (lF : (@LT.lt Nat _ I1 aF) ∧ (@LT.lt Nat _ S aF) ∧ (@LT.lt Nat _ x3 aF) ∧ (@LT.lt Nat _ x2 aF) ∧ (@LT.lt Nat _ x1 aF) ∧ P)
    (d1 : q1.data = .cell v1) (d2 : q2.data = .cell v2) (d3 : q3.data = .cell v3) (hU : us.size = ms.length) (hC : ColsIn rest' fs ((ms.take us.size).foldl (fun f m => stepMix col f m 7) [])) (hO : OwnOff rest' [aF, I1, S, x3, x2, x1])
    (hms : (ds.take i).foldl stepCol [bareC c0] = ms) (hci : ds[i]? = some col) :
    TurnEnd h₀ L I1 oI1 (JO S x3 x2 x1 oS mb c0 ds (i + 1)) s .next { s with heap := h', toks := tk } := by
  rw [mX_mixes] at F9
  obtain ⟨t1, t2, t3, t4, -⟩ := sp
  obtain ⟨l1, l2, l3, l4, l5, -⟩ := lF
  refine ⟨.inl rfl, h', tk, _, (S, oS) :: (x3, q1) :: (x2, q2) :: (x1, q3) :: (aF, W.listOf fs e) :: rest', rfl, F9, news_sub N9 ?_, ?_, um, some (.ref aF), aF, fs, e, q1, q2, q3, v1, v2, v3, (aF, W.listOf fs e) :: rest', rfl, rfl, d1, d2, d3, .head _, ?_, ?_⟩
  · intro p hp
    simp only [List.mem_cons] at hp ⊢
    rcases hp with h | h | h | h | h | h | h <;> simp [h]
  · intro p hp
    simp only [List.mem_cons] at hp
    rcases hp with h | h | h | h | h | h
    · subst h; exact t1
    · subst h; exact t2
    · subst h; exact t3
    · subst h; exact t4
    · subst h; exact Nat.ne_of_gt l1
    · exact hO p h I1 (.tail _ (.head _))
  · rw [List.take_add_one, hci, List.foldl_append, hms]
    rw [hU, List.take_length] at hC
    exact hC.mono fun p hp => .tail _ hp
  · intro p hp b hb
    rcases List.mem_cons.mp hp with rfl | hp
    · simp only [List.mem_cons, List.not_mem_nil, or_false] at hb
      rcases hb with h | h | h | h <;> subst h
      · exact Nat.ne_of_gt l2
      · exact Nat.ne_of_gt l3
      · exact Nat.ne_of_gt l4
      · exact Nat.ne_of_gt l5
    · exact hO p hp b (by simp only [List.mem_cons] at hb ⊢; rcases hb with h | h | h | h | h <;> simp [h])
theorem words_LMix_0 : True := by
  k_with_none
  (k_with "mine enterC" => (k_dflt (refine' enterC ?rwMix47 ?GwMix47 ?howMix47 ?hcdwMix47 ?hbwMix47 ?hlwMix47 ?hcwMix47 ?_ ?c1wMix47 ?c2wMix47 ?c3wMix47; (case GwMix47 => with_reducible assumption); (case howMix47 => k_is); (case rwMix47 => exact Nat.le_of_ble_eq_true rfl); (case hcdwMix47 => k_is); (case hbwMix47 => exact BindsTo.of_eq rfl); (case hlwMix47 => exact rfl); (case hcwMix47 => decide +kernel); (case c1wMix47 => exact rfl); (case c2wMix47 => exact rfl); (case c3wMix47 => exact rfl))))
  (k_with "exec For Name Name cons nil" => ((k_here; with_unfolding_all refine wpAny_For ?_)))
  (k_with "exec For Name Subscript cons nil" => ((k_here; with_unfolding_all refine wpAny_For ?_)))
  (k_with "exec For Name Call cons nil" => ((k_here; with_unfolding_all refine wpAny_For ?_)))
  (k_with "mine tl" => (first | with_reducible assumption | (refine List.mem_cons_of_mem _ ?_; k_extra "mine tl")))
  (k_with "mine sub" => (first | exact List.forall_mem_nil _ | (intro p hp; k_extra "mine tl") | (refine List.forall_mem_cons.mpr ⟨by k_mem, ?_⟩; k_extra "mine sub")))
  (k_with "mine k_lt" => skip)
  (k_with "mine pl" => (first | exact sn1 | exact sn2 | exact sn3 | exact sn4 | exact sn5 | exact sn6 | exact Ne.symm sn1 | exact Ne.symm sn2 | exact Ne.symm sn3 | exact Ne.symm sn4 | exact Ne.symm sn5 | exact Ne.symm sn6 | (refine peel ?_; k_extra "mine pl")))
  (k_with "mine k_ne" => (first | with_reducible assumption | (with_reducible refine Ne.symm ?_; with_reducible assumption) | exact off1_ne (by with_reducible assumption) (by k_mem) | exact Ne.symm (off1_ne (by with_reducible assumption) (by k_mem)) | exact lt_ne (by with_reducible assumption) (by k_mem) | exact lt_ne' (by with_reducible assumption) (by k_mem) | k_extra "mine pl" | (refine neN ?_; (try dsimp only); omega)))
  (k_with "mine k_all" => (first | exact OwnOff.ne (by with_reducible assumption) (by k_memK) | (intro p hp; exact off1_mem (by with_reducible assumption) p (by k_extra "mine tl")) | exact List.forall_mem_nil _ | (refine' List.forall_mem_cons.mpr ⟨?awMix55, ?bwMix55⟩; (case awMix55 => k_ne); (case bwMix55 => k_all))))
  (k_with "CompSrc" => ((k_here; k_dflt (refine LCg.CompSrc.range (by rfl) (by with_reducible assumption) (by with_reducible assumption) (by with_reducible assumption) (by first | decide | rfl) (by first | rfl | decide) (by first | exact Nat.le_of_ble_eq_true rfl | size_fits) ?_; intro _; lcg_lit))))
  (k_with "FinE" => (((unfold LCg.FinE); walk_at "tail fin")))
  (k_with "mine is_list" => (exact isl_of (by k_asm) (by k_extra "mine tl")))
  (k_with "CompRest" => ((with_unfolding_all first
      | (refine LCg.CompRest.succ ?_; walk_at "tail rest")
      | refine LCg.CompRest.zero ?_)))
  (k_with "CompEnd" => ((rename News _ _ _ _ => N9z; rename Fr _ _ _ _ => F9z; refine LCg.CompEnd.intro F9z N9z _ (fun p hp => hp) (by assumption) (by lcg_src) ?_; clear N9z F9z)))
  (k_with "call builtin:list.append" => ((k_here; (with_reducible show wpAny _ _ (call (Value.builtin _) [Value.ref _, _]) _ _ _); k_dflt (refine' append_K ?k1wMix61 ?k2wMix61 ?k3wMix61 ?_ ?zwMix61; (case k1wMix61 => k_asm); (case k2wMix61 => k_asm); (case k3wMix61 => k_upd); (case zwMix61 => first | assumption | size_fits); k_whole); intro _ _ _; (try k_sweep))))
  (k_with "compareOp NotIn ref ref" => ((k_here; (with_reducible show wpAny _ _ (compareOp CmpOp.NotIn (Value.ref _) (Value.ref _)) _ _ _); k_dflt (refine' notin_K ?NwMix62 ?hmwMix62 ?hCwMix62 ?subwMix62 ?hxwMix62 ?hiwMix62 ?howMix62 ?sub2wMix62 ?huwMix62 ?_; (case NwMix62 => k_asm); (case hmwMix62 => k_mem); (case hCwMix62 => with_reducible assumption); (case subwMix62 => (intro p hp; k_extra "mine tl")); (case hxwMix62 => k_mem); (case hiwMix62 => with_reducible assumption); (case howMix62 => with_reducible assumption); (case sub2wMix62 => (intro p hp; k_extra "mine tl")); (case huwMix62 => exact Nat.le_of_ble_eq_true rfl); k_whole); intro _ _)))
  (k_with "mine lvl" => (exact lvl_of rfl rfl rfl rfl))
  (k_with "mine col" => (first | with_reducible assumption | exact ColAt.keeps (by with_reducible assumption) (Fr.keep (by k_asm)) | exact colAt_lst (by k_asm) (by k_mem)))
  (k_with "call builtin:max" => ((k_here; (with_reducible show wpAny _ _ (call _ [Value.int _ _, Value.int _ _]) _ _ _); k_dflt (refine' max2_K ?hwMix65 ?FwMix65 ?NwMix65 ?_; (case hwMix65 => exact rfl); (case FwMix65 => k_asm); (case NwMix65 => k_asm)); intro _ _ _ _ _; (try dsimp only); (try k_sweep))))
  (k_with "call ref" => ((k_here; (with_reducible show wpAny _ _ (call (Value.ref 89) _) _ _ _); k_dflt (refine' bare_K ?RwMix66 ?FwMix66 ?NwMix66 ?GwMix66 ?awMix66 ?_; (case RwMix66 => k_extra "mine lvl"); (case FwMix66 => k_asm); (case NwMix66 => k_asm); (case GwMix66 => with_reducible assumption); (case awMix66 => k_extra "mine col")); intro _ _ _ _ _ _ _ _ _; (try dsimp only); (try k_sweep))))
  trivial
set_option maxHeartbeats 2500000 in
theorem mixes_spec {w : World} {A : Around} {s : Shared} {Q : Value → Shared → Prop} {E : Value → Shared → Prop} (R : Lvl A 800) (G : Gr w s.heap) {a r0 r1 r2 : Addr} {n : Nat} {c0 c1 c2 : Col}
    (hm : s.heap.get? a = some (W.listOf #[.ref r0, .ref r1, .ref r2] n)) (h0 : ColAt s.heap r0 c0) (h1 : ColAt s.heap r1 c1) (h2 : ColAt s.heap r2 c2)
    (k : ∀ a us e h' tk, (∀ b o, s.heap.get? b = some o → h'.get? b = some o) → s.heap.get? a = none → h'.get? a = some (W.listOf us e) → ColsAt h' us (stepCol (stepCol [bareC c0] c1) c2) → Q (.ref a) { s with heap := h', toks := tk }) :
    wpAny (model PR w) A (call (.ref 94) [.ref a]) Q E s := by
  obtain ⟨p, l, m, mg, mb, T⟩ := G.top
  have X := G.kin
  have hl : s.heap.IsList a #[.ref r0, .ref r1, .ref r2] := ⟨_, hm, rfl, n, rfl⟩
  refine lower R ?_
  clear R
  generalize A.frames = fr
  k_extra "mine enterC"
  intro L h₁ tk cells F N Y
  obtain ⟨o1, o2, o3, hE, d1, d2, d3⟩ := CellsAre.three Y
  subst hE
  clear Y
  replace d1 : o1.data = .cell none := d1
  replace d2 : o2.data = .cell none := d2
  replace d3 : o3.data = .cell none := d3
  (try dsimp only)
  (try k_fold)
  (try dsimp only)
  k_steps
  rename Fr _ _ _ _ => F'
  rename News _ _ _ _ => N'
  rename IntsAre _ (colL (bareC c0)) => hi0
  rename_i D0 vs0 e0 h00 tk0 ho0 aM0 hA2 lM hA3 S hA4 lS

  generalize (bindL _ _ _) = mb at F'
  rw [mX_start] at F'
  generalize hoS : W.listOf #[.ref r1, .ref r2] 0 = oS at N'
  have hds : ColsAt s.heap #[.ref r1, .ref r2] [c1, c2] := ⟨rfl, fun i v hv => by
    match i, hv with
    | 0, hv => cases hv; exact ⟨r1, c1, rfl, rfl, h1⟩
    | 1, hv => cases hv; exact ⟨r2, c2, rfl, rfl, h2⟩
    | i + 2, hv => simp at hv⟩
  have N2 : News s.heap L hA4 ((S, oS) :: (L + 1 + 1 + 1, o1) :: (L + 1 + 1, o2) :: (L + 1, o3) :: [(aM0, W.listOf #[.ref D0] 0), (D0, W.listOf vs0 e0)]) := news_sub N' (by k_extra "mine sub")
  clear N'
  refine iter_mine (n := 0) (items := #[.ref r1, .ref r2]) (JO S (L + 1 + 1 + 1) (L + 1 + 1) (L + 1) oS mb c0 [c1, c2]) rfl F' N2 ?j0 ?hl ?turn ?done (fun _ _ => rfl)
  case j0 =>
    refine ⟨_, _, aM0, #[.ref D0], 0, o1, o2, o3, none, none, none, [(aM0, W.listOf #[.ref D0] 0), (D0, W.listOf vs0 e0)], rfl, rfl, d1, d2, d3, .head _, ColsIn.push ColsIn.nil (fun _ h => h) ⟨vs0, e0, .tail _ (.head _), hi0⟩, ?_⟩
    intro p hp b hb
    simp only [List.mem_cons, List.not_mem_nil, or_false] at hp hb
    simp only [LCg.Off1, and_true] at ho0
    rcases hp with rfl | rfl <;> rcases hb with rfl | rfl | rfl | rfl <;> k_ne
  case hl =>
    rintro i m₁ news₁ ⟨um, uf, aM, us, e, q1, q2, q3, v1, v2, v3, rest, rfl, rfl, e1, e2, e3, hM, hC, hO⟩
    exact .inr (by rw [hoS]; exact .head _)
  case done =>
    rintro m₁ news₁ h' tk' ⟨um, uf, aM, us, e, q1, q2, q3, v1, v2, v3, rest, rfl, rfl, e1, e2, e3, hM, hC, hO⟩ F₂ N₂
    clear F' N2
    (try dsimp only)
    k_steps
    rw [show (#[Value.ref r1, Value.ref r2]).size = 2 from rfl, fold2] at hC
    have hC9 := (hC.mono (show ∀ p ∈ rest, p ∈ (S, oS) :: (L + 1 + 1 + 1, q1) :: (L + 1 + 1, q2) :: (L + 1, q3) :: rest by k_extra "mine sub")).at N₂
    exact k aM us e h' tk' F₂.keep (N₂ (aM, W.listOf us e) (by k_extra "mine tl")).2.2 (N₂ (aM, W.listOf us e) (by k_extra "mine tl")).1 hC9
  case turn =>
    rintro i v m₁ news₁ I1 oI1 h₂ tk₂ hv ⟨um, uf, aM, us, e, q1, q2, q3, v1, v2, v3, rest, rfl, rfl, e1, e2, e3, hM, hC, hO⟩ F₂ N₂ sep
    obtain ⟨rc, col, rfl, hci, cvs, ce, hcg, hcI⟩ := hds.2 i v hv
    have hcl : s.heap.IsList rc cvs := ⟨_, hcg, rfl, ce, rfl⟩
    clear F' N2
    have sp := off1_of sep
    refine gen_turn fun Q7 hQ7 => ?_
    refine wpAny_assign_Name ?_
    (try dsimp only)
    k_steps
    clear ho0 lM hi0 d1 d2 d3 hl hm h0 h1 h2 hds
    rename Fr _ _ _ _ => F3
    rename News _ _ _ _ => N3
    rename_i hB1 q3n dq3 aF hB2 lF hB3
    rw [mX_found] at F3
    have hms : (([c1, c2].take i).foldl stepCol [bareC c0]).length ≤ 49 := by have := foldCol_len ([c1, c2].take i) [bareC c0] (by simp; omega); simpa using this
    generalize hmsE : ([c1, c2].take i).foldl stepCol [bareC c0] = ms at hC hms
    refine iter_mine (n := e) (items := us) (JMid aF I1 S (L + 1 + 1 + 1) (L + 1 + 1) (L + 1) aM oI1 oS q3n mb col ms rest) rfl F3 N3 ?j0 ?hl ?turn ?done (fun _ _ => rfl)
    case j0 => exact ⟨um, #[], 0, q1, q2, v1, v2, rest, rfl, rfl, e1, e2, fun _ h => h, ColsIn.nil, offCons (offCons hO fun p hp => sep p (by k_extra "mine tl")) fun p hp => Nat.ne_of_lt (kst_ltOf lF.2.2.2.2.2 p hp)⟩
    case hl =>
      rintro j m₁ news₁ ⟨um', fs, e', q1', q2', v1', v2', rest', rfl, rfl, e1', e2', hsub, hC', hO'⟩
      have hM' := hsub _ hM
      exact .inr (by k_extra "mine tl")
    case done =>
      rintro m₁ news₁ h' tk' ⟨um', fs, e', q1', q2', v1', v2', rest', rfl, rfl, e1', e2', hsub, hC', hO'⟩ F₃ N₃
      clear F3 N3
      (try dsimp only)
      k_steps
      rename Fr _ _ _ _ => F9
      rename News _ _ _ _ => N9
      exact hQ7 _ _ (outer_end F9 N9 sp lF e1' e2' dq3 hC.1 hC' hO' hmsE hci)
    case turn =>
      rintro j v m₁ news₁ I2 oI2 h₃ tk₃ hv2 ⟨um', fs, e', q1', q2', v1', v2', rest', rfl, rfl, e1', e2', hsub, hC', hO'⟩ F₃ N₃ sep'
      obtain ⟨rm, mm, rfl, hmi, mvs, me, hmm, hmI⟩ := hC.2 j v hv2
      have hmm' := hsub _ hmm
      clear F3 N3
      have sp' := off1_of sep'
      refine gen_turn fun Q8 hQ8 => ?_
      refine wpAny_assign_Name ?_
      (try dsimp only)
      k_steps
      rename IsRange _ _ _ _ _ _ _ _ => hr9
      rename Fr _ _ _ _ => F4
      rename News _ _ _ _ => N4
      rename_i hC1 q2n F5 N5 dq2 hC2 tkC t1 t2 t3 kpC
      clear F5 N5 kpC
      have N6 : News s.heap L hC2 ((aF, W.listOf fs e') :: (I2, oI2) :: (I1, oI1) :: (S, oS) :: (L + 1 + 1 + 1, q1') :: (L + 1 + 1, q2n) :: (L + 1, q3n) :: rest') := news_sub N4 (by k_extra "mine sub")
      clear N4
      have hf0 : ((ms.take j).foldl (fun f m => stepMix col f m 7) []).length ≤ 343 := by have := foldMix_len col (ms.take j) []; simp only [List.length_nil, List.length_take] at this; omega
      generalize hf0E : (ms.take j).foldl (fun f m => stepMix col f m 7) [] = f0 at hC' hf0
      refine iter_range (n := 7) (JIn aF I2 I1 S (L + 1 + 1 + 1) (L + 1 + 1) (L + 1) aM oI2 oI1 oS q2n q3n mb col mm f0 rest') rfl F4 N6 hr9 (by decide) (by decide) ?j0 ?turn ?done (fun _ _ => rfl)
      case j0 => exact ⟨um', fs, e', q1', v1', rest', rfl, rfl, e1', fun _ h => h, hC', offIns hO' fun p hp => sep' p (by k_extra "mine tl")⟩
      case done =>
        rintro m₁ news₁ h' tk' ⟨um'', fs2, e2'', q1'', v1'', rest2, rfl, rfl, e1'', hsub2, hC2, hO2⟩ F₄ N₄
        clear F4 N6
        (try dsimp only)
        k_steps
        exact hQ8 _ _ (mid_end F₄ N₄ sp' e1'' dq2 hsub hsub2 hC2 hO2 hf0E hmi)
      case turn =>
        rintro i3 t4 m₁ news₁ I3 oI3 h₄ tk₄ hi3 ⟨um'', fs2, e2'', q1'', v1'', rest2, rfl, rfl, e1'', hsub2, hC2, hO2⟩ F₄ N₄ sep''
        have hmm2 := hsub2 _ hmm'
        have hz : fs2.size ≤ sizeLine := by rw [hC2.1, sizeLine_eq]; have := stepMix_len col f0 mm i3; omega
        have sp'' := off1_of sep''
        clear F4 N6 hmm hmm' hO hO' hC hC' sep sep'
        generalize hfc : stepMix col f0 mm i3 = fc at hC2
        refine gen_turn fun Q9 hQ9 => ?_
        refine wpAny_assign_Name ?_
        (try dsimp only)
        k_steps
        all_goals
          rename Fr _ _ _ _ => F9
          rename News _ _ _ _ => N9
          rename IntsAre _ (colL (bareC _)) => hi9
          rename LCg.Off1 _ ((_, _) :: (I3, _) :: _) => ho9
          rename (_ = Data.cell (some (Value.int _ _))) => dq9
          rename (_ = (!decide _)) => hb9
          rw [mixC_of] at hi9 hb9
        · rename (_ = true) => ht9
          exact hQ9 _ _ (inner_end F9 N9 ho9 sp'' dq9 hsub2 hC2 hO2 hfc hi9 rfl hb9 (by rw [if_pos ht9]))
        · rename (_ = false) => ht9
          exact hQ9 _ _ (inner_end F9 N9 ho9 sp'' dq9 hsub2 hC2 hO2 hfc hi9 rfl hb9 (by rw [if_neg (by rw [ht9]; decide)]))

def CodeK (h₀ : Heap) (news : List (Addr × Obj)) (c : Addr) : Prop := h₀.CodeRec (.ref c) lamQ ∨ ∃ oc vs t, (c, oc) ∈ news ∧ oc.data = .fields vs ∧ vs[1]? = some (.str lamQ t)
def TabK (h₀ : Heap) (news : List (Addr × Obj)) (tb : Obj) : Option Addr → Prop
  | none => tb = tabObj #[]
  | some c => tb = tabObj #[rawInt 126, rawInt 22, .ref c] ∧ CodeK h₀ news c
theorem CodeK.mono {h₀ : Heap} {news news' : List (Addr × Obj)} {c : Addr} (x : CodeK h₀ news c) (k : ∀ p ∈ news, p ∈ news') : CodeK h₀ news' c := by
  rcases x with x | ⟨oc, vs, t, m, a, b⟩
  · exact .inl x
  · exact .inr ⟨oc, vs, t, k _ m, a, b⟩
theorem TabK.mono {h₀ : Heap} {news news' : List (Addr × Obj)} {tb : Obj} {o : Option Addr} (x : TabK h₀ news tb o) (k : ∀ p ∈ news, p ∈ news') : TabK h₀ news' tb o := by
  cases o with
  | none => exact x
  | some c => exact ⟨x.1, x.2.mono k⟩
section
variable {w : World} {A : Around} {s : Shared} {Q : Value → Shared → Prop} {E : Value → Shared → Prop} {h₀ : Heap} {L : Addr} {m : Str → Option Value} {news : List (Addr × Obj)}
theorem zh_up {h : Heap} (hz : h₀.get? 101 = none) (k : ∀ b o, h₀.get? b = some o → h.get? b = some o) : ∀ b o, h₀.get? b = some o → (Zh h).get? b = some o :=
  fun b o e => zh_get (fun q => by rw [q, hz] at e; cases e) (k b o e)
theorem gt_of {h : Heap} {tb : Obj} {o : Option Addr} (hz : h₀.get? 101 = none) (G : Gr w h₀) (cd : CodeHd h₀ 105 101) (F : Fr h₀ L h m) (N : News h₀ L h news) (ht : ((101 : Addr), tb) ∈ news) (T : TabK h₀ news tb o) : GT w h o := by
  refine ⟨G.keeps (zh_up hz F.keep), cd.keeps (zh_up hz F.keep), ?_⟩
  cases o with
  | none => exact .empty (by rw [(N _ ht).1]; exact congrArg some T)
  | some c =>
    obtain ⟨rfl, T⟩ := T
    refine .full (N _ ht).1 ?_
    rcases T with x | ⟨oc, vs, t, hm, d, v⟩
    · exact x.keeps (zh_up hz F.keep)
    · refine ⟨c, oc, vs, t, rfl, zh_get (fun q => ?_) (N _ hm).1, d, v⟩
      have e1 := (N _ hm).1
      have e2 := (N _ ht).1
      simp only at e1 e2
      rw [q, e2] at e1
      cases e1
      cases d
      simp at v
      exact nomatch v
theorem rule_K {tb : Obj} {o : Option Addr} {g : Obj → List (Addr × Obj)} {tl : List (Addr × Obj)} {r : Int} {t : Tok} {b : Bool} (R : Lvl A 900) (hz : h₀.get? 101 = none) (G : Gr w h₀) (cd : CodeHd h₀ 105 101) (F : Fr h₀ L s.heap m) (N : News h₀ L s.heap news)
    (T : TabK h₀ tl tb o) (htl : ∀ p ∈ tl, p ∈ news) (U : UpdF (101 : Addr) tb news g)
    (k : ∀ x nw c tb' h' tk, Fr h₀ L h' m → News h₀ L h' (g tb' ++ nw) → (∀ p ∈ nw, ∀ q ∈ news, q.1 ≠ p.1) → RuleIn w nw x r b c → TabK h₀ (tl ++ nw) tb' (some c) → Q (.ref x) { s with heap := h', toks := tk }) :
    wpAny (model PR w) A (call (.ref 106) [.int r t, .bool b]) Q E s := by
  obtain ⟨pre, post, e, hg, h1, h2⟩ := U.split
  have ht : ((101 : Addr), tb) ∈ news := by rw [e]; simp
  refine rule_spec R (gt_of hz G cd F N ht (T.mono htl)) fun x c nw h' tk kp hsz GT' hoc hnw hR hc => ?_
  have up : ∀ a ob, h₀.get? a = some ob → h'.get? a = some ob := fun a ob ea => kp a ob (fun q => by rw [q, hz] at ea; cases ea) (F.keep a ob ea)
  have n101 := N _ ht
  have F' : Fr h₀ L h' m := ⟨F.ns.at' fun ob eb => kp L ob (Ne.symm n101.2.1) eb, up, F.above⟩
  have tab' : h'.get? 101 = some (tabObj #[rawInt 126, rawInt 22, .ref c]) := by
    cases GT'.tab with
    | full a _ => exact a
  have lt : ∀ q ∈ news, q.1 < s.heap.objs.size := fun q hq => Heap.lt_size (N q hq).1
  have N' : News h₀ L h' (g (tabObj #[rawInt 126, rawInt 22, .ref c]) ++ nw) := fun p hp => by
    rcases List.mem_append.mp hp with hp | hp
    · rw [hg] at hp
      rcases List.mem_append.mp hp with hp | hp
      · have hq : p ∈ news := by rw [e]; exact List.mem_append_left _ hp
        exact ⟨kp _ _ (h1 p hp) (N p hq).1, (N p hq).2⟩
      · rcases List.mem_cons.mp hp with rfl | hp
        · exact ⟨tab', n101.2⟩
        · have hq : p ∈ news := by rw [e]; exact List.mem_append_right _ (.tail _ hp)
          exact ⟨kp _ _ (h2 p hp) (N p hq).1, (N p hq).2⟩
    · refine ⟨(hnw p hp).1, Nat.ne_of_gt (Nat.lt_of_lt_of_le F.ns.lt (hnw p hp).2), ?_⟩
      cases q : h₀.get? p.1 with
      | none => rfl
      | some ob => exact absurd (Heap.lt_size (F.keep _ _ q)) (Nat.not_lt.mpr (hnw p hp).2)
  refine k x nw c _ h' tk F' N' (fun p hp q hq => Nat.ne_of_lt (Nat.lt_of_lt_of_le (lt q hq) (hnw p hp).2)) hR ⟨rfl, ?_⟩
  cases o with
  | none =>
    obtain ⟨oc, vs, t', hm, d, v⟩ := hc rfl
    exact .inr ⟨oc, vs, t', List.mem_append_right _ hm, d, v⟩
  | some c0 =>
    have := hoc c0 rfl
    subst this
    exact T.2.mono fun p hp => List.mem_append_left _ hp
theorem snoc_K {nw : List (Addr × Obj)} {h' : Heap} (F : Fr h₀ L s.heap m) (N : News h₀ L s.heap news) (kp : ∀ b o, s.heap.get? b = some o → h'.get? b = some o) (hn : ∀ p ∈ nw, h'.get? p.1 = some p.2 ∧ s.heap.get? p.1 = none) :
    Fr h₀ L h' m ∧ News h₀ L h' (news ++ nw) ∧ ∀ p ∈ nw, ∀ q ∈ news, q.1 ≠ p.1 :=
  ⟨F.grownK kp, fun p hp => ext_K F N kp hn p ((List.mem_append.mp hp).elim (fun h => List.mem_append_right _ h) fun h => List.mem_append_left _ h), sep_of N hn⟩
theorem record_K (R : Lvl A 900) (F : Fr h₀ L s.heap m) (N : News h₀ L s.heap news) (G : Gr w h₀) {a b : Addr} {us rs : Array Value} {na nb : Nat} (ha : (a, W.listOf us na) ∈ news) (hb : (b, W.listOf rs nb) ∈ news) (za : us.size ≤ 1000) (zb : rs.size ≤ 1000)
    (k : ∀ x nw h' tk, Fr h₀ L h' m → News h₀ L h' (news ++ nw) → (∀ p ∈ nw, ∀ q ∈ news, q.1 ≠ p.1) → EntIn w nw x us rs → Q (.ref x) { s with heap := h', toks := tk }) :
    wpAny (model PR w) A (call (.ref 113) [.ref a, .ref b]) Q E s := by
  refine record_spec R (G.keeps F.keep) (N _ ha).1 (N _ hb).1 za zb fun x d lu lr t1 t2 t3 t4 n n1 n2 h' tk kp hn => ?_
  obtain ⟨F', N', S'⟩ := snoc_K F N kp hn
  exact k x _ h' tk F' N' S' ⟨d, lu, lr, t1, t2, t3, t4, n, n1, n2, by simp, by simp, by simp, by simp⟩
theorem EntIn.mono {nw nw' : List (Addr × Obj)} {x : Addr} {us rs : Array Value} (y : EntIn w nw x us rs) (k : ∀ p ∈ nw, p ∈ nw') : EntIn w nw' x us rs := by
  obtain ⟨d, lu, lr, t1, t2, t3, t4, n, n1, n2, a, b, c, e⟩ := y
  exact ⟨d, lu, lr, t1, t2, t3, t4, n, n1, n2, k _ a, k _ b, k _ c, k _ e⟩
theorem EntIn.at {h : Heap} {x : Addr} {us rs : Array Value} (y : EntIn w news x us rs) (N : News h₀ L h news) : EntAt w h x us rs := by
  obtain ⟨d, lu, lr, t1, t2, t3, t4, n, n1, n2, a, b, c, e⟩ := y
  exact ⟨d, lu, lr, t1, t2, t3, t4, n, n1, n2, (N _ a).1, (N _ b).1, (N _ c).1, (N _ e).1⟩
theorem merge_K (R : Lvl A 900) (F : Fr h₀ L s.heap m) (N : News h₀ L s.heap news) (G : Gr w h₀) {e1 e2 : Addr} {us1 rs1 us2 rs2 : Array Value} {xs1 xs2 : List Str} (h1 : EntIn w news e1 us1 rs1) (h2 : EntIn w news e2 us2 rs2)
    (hx1 : StrsAre us1.toList xs1) (hx2 : StrsAre us2.toList xs2) (z1 : us1.size ≤ 1000) (z2 : us2.size ≤ 1000) (z3 : rs1.size + rs2.size ≤ 1000)
    (k : ∀ x nw us h' tk, Fr h₀ L h' m → News h₀ L h' (news ++ nw) → (∀ p ∈ nw, ∀ q ∈ news, q.1 ≠ p.1) → EntIn w nw x us (rs1 ++ rs2) → StrsAre us.toList (xs1.filter fun x => xs2.contains x) → Q (.ref x) { s with heap := h', toks := tk }) :
    wpAny (model PR w) A (call (.ref 77) [.ref e1, .ref e2]) Q E s := by
  refine merge_spec R (G.keeps F.keep) (h1.at N) (h2.at N) hx1 hx2 z1 z2 z3 fun x nw us h' tk kp hn hE hs => ?_
  obtain ⟨F', N', S'⟩ := snoc_K F N kp hn
  exact k x nw us h' tk F' N' S' hE hs
theorem hls_K (R : Lvl A 900) (F : Fr h₀ L s.heap m) (N : News h₀ L s.heap news) (G : Gr w h₀) {x y z : UInt64} {t t' t'' : Tok} (ok : (Float64.cmp (fmin3 x y z) (fmax3 x y z) == some Ordering.eq) = false → FOk x y z)
    (k : ∀ a h' tk t1 t2 t3 l, Fr h₀ L h' m → News h₀ L h' ((a, { cls := .type "tuple", data := .seq #[.float (hlsH x y z) t1, .float l t2, .float (hlsS x y z) t3] }) :: news) → LCg.Off1 a news → Q (.ref a) { s with heap := h', toks := tk }) :
    wpAny (model PR w) A (call (.ref 21) [.float x t, .float y t', .float z t'']) Q E s := by
  refine hls_spec R (G.keeps F.keep) ok fun a h' tk t1 t2 t3 l kp ha ha' => ?_
  have hn : ∀ p ∈ [(a, ({ cls := .type "tuple", data := .seq #[.float (hlsH x y z) t1, .float l t2, .float (hlsS x y z) t3] } : Obj))], h'.get? p.1 = some p.2 ∧ s.heap.get? p.1 = none := fun p hp => by rcases List.mem_singleton.mp hp with rfl; exact ⟨ha', ha⟩
  exact k a h' tk t1 t2 t3 l (F.grownK kp) (ext_K F N kp hn) (off1_of fun q hq => sep_of N hn _ (.head _) q hq)
theorem hsv_K (R : Lvl A 900) (F : Fr h₀ L s.heap m) (N : News h₀ L s.heap news) (G : Gr w h₀) {x y z : UInt64} {t t' t'' : Tok} (ok : (Float64.cmp (fmin3 x y z) (fmax3 x y z) == some Ordering.eq) = false → FOk x y z)
    (k : ∀ a h' tk t1 t2 t3 h l, Fr h₀ L h' m → News h₀ L h' ((a, { cls := .type "tuple", data := .seq #[.float h t1, .float l t2, .float (fmax3 x y z) t3] }) :: news) → LCg.Off1 a news → Q (.ref a) { s with heap := h', toks := tk }) :
    wpAny (model PR w) A (call (.ref 28) [.float x t, .float y t', .float z t'']) Q E s := by
  refine hsv_spec R (G.keeps F.keep) ok fun a h' tk t1 t2 t3 h l kp ha ha' => ?_
  have hn : ∀ p ∈ [(a, ({ cls := .type "tuple", data := .seq #[.float h t1, .float l t2, .float (fmax3 x y z) t3] } : Obj))], h'.get? p.1 = some p.2 ∧ s.heap.get? p.1 = none := fun p hp => by rcases List.mem_singleton.mp hp with rfl; exact ⟨ha', ha⟩
  exact k a h' tk t1 t2 t3 h l (F.grownK kp) (ext_K F N kp hn) (off1_of fun q hq => sep_of N hn _ (.head _) q hq)
def RuleK (w : World) (h₀ : Heap) (tail : List (Addr × Obj)) (x : Addr) (r : Int) (b : Bool) : Prop := ∃ c, RuleIn w tail x r b c ∧ CodeK h₀ tail c
def LightK (w : World) (h₀ : Heap) (tail : List (Addr × Obj)) (v : Value) (rs : List (Int × Bool)) : Prop :=
  ∃ e vs, v = .ref e ∧ EntIn w tail e #[] vs ∧ vs.size = rs.length ∧ ∀ (i : Nat) (u : Value), vs[i]? = some u → ∃ x r, u = .ref x ∧ rs[i]? = some r ∧ RuleK w h₀ tail x r.1 r.2
def LightsK (w : World) (h₀ : Heap) (tail : List (Addr × Obj)) (ys : List Value) (rss : List (List (Int × Bool))) : Prop :=
  ys.length = rss.length ∧ ∀ (i : Nat) (v : Value), ys[i]? = some v → ∃ rs, rss[i]? = some rs ∧ LightK w h₀ tail v rs
theorem RuleIn.mono {nw nw' : List (Addr × Obj)} {x : Addr} {r : Int} {b : Bool} {c : Addr} (y : RuleIn w nw x r b c) (k : ∀ p ∈ nw, p ∈ nw') : RuleIn w nw' x r b c := by
  obtain ⟨d, lu, lr, t1, t2, t3, t4, t5, t6, n, f, cc, oc, tr, pm, ctv, a1, a2, a3, a4, a5⟩ := y
  exact ⟨d, lu, lr, t1, t2, t3, t4, t5, t6, n, f, cc, oc, tr, pm, ctv, k _ a1, k _ a2, k _ a3, k _ a4, a5⟩
theorem RuleK.mono {nw nw' : List (Addr × Obj)} {x : Addr} {r : Int} {b : Bool} (y : RuleK w h₀ nw x r b) (k : ∀ p ∈ nw, p ∈ nw') : RuleK w h₀ nw' x r b := let ⟨c, h1, h2⟩ := y; ⟨c, h1.mono k, h2.mono k⟩
theorem LightK.mono {nw nw' : List (Addr × Obj)} {v : Value} {rs : List (Int × Bool)} (y : LightK w h₀ nw v rs) (k : ∀ p ∈ nw, p ∈ nw') : LightK w h₀ nw' v rs :=
  let ⟨e, vs, h1, h2, h3, h4⟩ := y; ⟨e, vs, h1, h2.mono k, h3, fun i u hu => let ⟨x, r, a1, a2, a3⟩ := h4 i u hu; ⟨x, r, a1, a2, a3.mono k⟩⟩
theorem LightsK.mono {nw nw' : List (Addr × Obj)} {ys : List Value} {rss : List (List (Int × Bool))} (y : LightsK w h₀ nw ys rss) (k : ∀ p ∈ nw, p ∈ nw') : LightsK w h₀ nw' ys rss :=
  ⟨y.1, fun i v hv => let ⟨rs, a1, a2⟩ := y.2 i v hv; ⟨rs, a1, a2.mono k⟩⟩
theorem LightsK.nil {nw : List (Addr × Obj)} : LightsK w h₀ nw [] [] := ⟨rfl, fun i v h => by simp at h⟩
theorem LightsK.snoc {nw : List (Addr × Obj)} {ys : List Value} {rss : List (List (Int × Bool))} {v : Value} {rs : List (Int × Bool)} (y : LightsK w h₀ nw ys rss) (z : LightK w h₀ nw v rs) : LightsK w h₀ nw (ys ++ [v]) (rss ++ [rs]) := by
  refine ⟨by simp [y.1], fun i u hu => ?_⟩
  by_cases q : i < ys.length
  · rw [List.getElem?_append_left q] at hu
    obtain ⟨r, a1, a2⟩ := y.2 i u hu
    exact ⟨r, by rw [List.getElem?_append_left (by rw [← y.1]; exact q)]; exact a1, a2⟩
  · rw [List.getElem?_append_right (by omega)] at hu
    have h0 : i - ys.length = 0 := by
      have := (List.getElem?_eq_some_iff.mp hu).1
      simp at this; omega
    rw [h0] at hu
    simp at hu
    subst hu
    exact ⟨rs, by rw [List.getElem?_append_right (by rw [← y.1]; omega), ← y.1, h0]; rfl, z⟩
end

section
variable {prog : Program} {w : World} {A : Around} {E : Value → Shared → Prop} {s : Shared} {h₀ : Heap} {L : Addr} {m : Str → Option Value} {env : Env}
theorem restT_J {ct elt : Expr} {x : Str} {scope : Scope} {cl : List (Str × Addr)} {S : List (Addr × Obj) → Prop} {P : Nat → Value → Prop} {Fin : List Value → List (Addr × Obj) → Prop} (J : Nat → List Value → List (Addr × Obj) → Prop) {n : Nat}
    (turn : ∀ i v ys news I oI C oC D m₂ h tk, P i v → i < n → J i ys news → LCg.NsObj oC m₂ → m₂ x = some v → Fr h₀ L h m → News h₀ L h ((I, oI) :: (C, oC) :: (D, LCg.lst ys) :: news) → LCg.Off3 I C D news →
      ((@Ne Nat I C) ∧ (@Ne Nat I D) ∧ (@Ne Nat C D)) → wpAny (model prog w) A (isTrue ct (compEnvC scope cl C env) (eval ct (compEnvC scope cl C env))) (fun ok s' => if ok = true then
        wpAny (model prog w) A (eval elt (compEnvC scope cl C env)) (LCg.CompEnd h₀ L m { s with heap := h, toks := tk } I oI C oC D (LCg.lst ys) S (fun y news' => J (i + 1) (ys ++ [y]) news')) (fun _ _ => False) s'
        else LCg.CompEnd h₀ L m { s with heap := h, toks := tk } I oI C oC D (LCg.lst ys) S (fun _ news' => J (i + 1) ys news') Value.none s') (fun _ _ => False) { s with heap := h, toks := tk })
    (fin : ∀ ys news, J n ys news → Fin ys news) : ∀ k i ys news, i + k = n → J i ys news → LCt.CompRestT prog w A h₀ L m env ct elt x scope cl s S P Fin k i ys news
  | 0, i, ys, news, e, j => LCt.CompRestT.zero (fin _ _ (by rw [← e]; exact j))
  | k + 1, i, ys, news, e, j => LCt.CompRestT.succ fun v I oI C oC D m₂ h tk E' hp hc hm F N off ne =>
      wpAny_mono (turn i v ys news I oI C oC D m₂ h tk hp (by omega) j hc hm F N off ne) (fun ok s₂ h₂ => by
        by_cases q : ok = true
        · rw [if_pos q] at h₂ ⊢
          exact wpAny_mono h₂ (fun y s₃ ⟨h', tk', news', e', F', N', off', hS, j'⟩ => ⟨h', tk', news', e', F', N', off', hS, restT_J J turn fin k (i + 1) _ _ (by omega) j'⟩) fun _ _ z => z.elim
        · rw [if_neg q] at h₂ ⊢
          obtain ⟨h', tk', news', e', F', N', off', hS, j'⟩ := h₂
          exact ⟨h', tk', news', e', F', N', off', hS, restT_J J turn fin k (i + 1) _ _ (by omega) j'⟩) fun _ _ z => z.elim
theorem fin_not {x : UInt64} (h : Float64.isFinite x = true) : Float64.isNaN x = false ∧ Float64.isInf x = false := by
  unfold Float64.isFinite at h
  unfold Float64.isNaN Float64.isInf
  split at h
  · rename_i q; rw [q]; exact ⟨rfl, rfl⟩
  · cases h
theorem int_K {Q : Value → Shared → Prop} {x : UInt64} {t : Tok} (hA : A.handled = none) (fin : Float64.isFinite x = true) (h : ∀ n, n = PySem.Flt.toInt Float64.truncOf x → Q (.int n s.toks) { s with toks := s.toks + 1 }) :
    wpAny (model prog w) A (call (.type "int") [.float x t]) Q E s :=
  PySem.Flt.call_int_float3 hA (fun q => absurd q (by rw [(fin_not fin).1]; exact Bool.false_ne_true)) (fun q => absurd q (by rw [(fin_not fin).2]; exact Bool.false_ne_true)) fun _ => h _ rfl
theorem mulfi_K {Q : Value → Shared → Prop} {x : UInt64} {n : Int} {t u : Tok} (hn : Float64.isInf (Float64.ofInt n) = false) (h : Q (.float (Float64.mul x (Float64.ofInt n)) s.toks) { s with toks := s.toks + 1 }) :
    wpAny (model prog w) A (binaryOp .Mult (.float x t) (.int n u)) Q E s :=
  AutoFloatOps.mul_fi_1 (by rw [hn]; exact Bool.false_ne_true) h
theorem restT_F {ct elt : Expr} {x : Str} {scope : Scope} {cl : List (Str × Addr)} {S : List (Addr × Obj) → Prop} {P : Nat → Value → Prop} {Fin : List Value → List (Addr × Obj) → Prop} {news : List (Addr × Obj)} (J : Nat → List Value → Prop) {n : Nat}
    (turn : ∀ i v ys I oI C oC D m₂ h tk, P i v → i < n → J i ys → LCg.NsObj oC m₂ → m₂ x = some v → Fr h₀ L h m → News h₀ L h ((I, oI) :: (C, oC) :: (D, LCg.lst ys) :: news) → LCg.Off3 I C D news →
      ((@Ne Nat I C) ∧ (@Ne Nat I D) ∧ (@Ne Nat C D)) → wpAny (model prog w) A (isTrue ct (compEnvC scope cl C env) (eval ct (compEnvC scope cl C env))) (fun ok s' => if ok = true then
        wpAny (model prog w) A (eval elt (compEnvC scope cl C env)) (LCg.CompEnd h₀ L m { s with heap := h, toks := tk } I oI C oC D (LCg.lst ys) S (fun y news' => news' = news ∧ J (i + 1) (ys ++ [y]))) (fun _ _ => False) s'
        else LCg.CompEnd h₀ L m { s with heap := h, toks := tk } I oI C oC D (LCg.lst ys) S (fun _ news' => news' = news ∧ J (i + 1) ys) Value.none s') (fun _ _ => False) { s with heap := h, toks := tk })
    (fin : ∀ ys, J n ys → Fin ys news) (k i : Nat) (ys : List Value) (e : i + k = n) (j : J i ys) : LCt.CompRestT prog w A h₀ L m env ct elt x scope cl s S P Fin k i ys news :=
  restT_J (fun i ys nw => nw = news ∧ J i ys) (fun i v ys nw I oI C oC D m₂ h tk hp hi hj hc hm F N off ne => by
    obtain ⟨rfl, hj⟩ := hj
    exact turn i v ys I oI C oC D m₂ h tk hp hi hj hc hm F N off ne) (fun ys nw hj => by
    obtain ⟨rfl, hj⟩ := hj
    exact fin ys hj) k i ys news e ⟨rfl, j⟩
theorem rest_F {elt : Expr} {x : Str} {scope : Scope} {cl : List (Str × Addr)} {S : List (Addr × Obj) → Prop} {P : Nat → Value → Prop} {Fin : List Value → List (Addr × Obj) → Prop} {news : List (Addr × Obj)} (J : Nat → List Value → Prop) {n : Nat}
    (turn : ∀ i v ys I oI C oC D m₂ h tk, P i v → i < n → J i ys → LCg.NsObj oC m₂ → m₂ x = some v → Fr h₀ L h m → News h₀ L h ((I, oI) :: (C, oC) :: (D, LCg.lst ys) :: news) → LCg.Off3 I C D news →
      ((@Ne Nat I C) ∧ (@Ne Nat I D) ∧ (@Ne Nat C D)) → wpAny (model prog w) A (eval elt (compEnvC scope cl C env))
        (LCg.CompEnd h₀ L m { s with heap := h, toks := tk } I oI C oC D (LCg.lst ys) S (fun y news' => news' = news ∧ J (i + 1) (ys ++ [y]))) (fun _ _ => False) { s with heap := h, toks := tk })
    (fin : ∀ ys, J n ys → Fin ys news) (k i : Nat) (ys : List Value) (e : i + k = n) (j : J i ys) : LCg.CompRest prog w A h₀ L m env elt x scope cl s S P Fin k i ys news :=
  rest_J (fun i ys nw => nw = news ∧ J i ys) (fun i v ys nw I oI C oC D m₂ h tk hp hi hj hc hm F N off ne => by
    obtain ⟨rfl, hj⟩ := hj
    exact turn i v ys I oI C oC D m₂ h tk hp hi hj hc hm F N off ne) (fun ys nw hj => by
    obtain ⟨rfl, hj⟩ := hj
    exact fin ys hj) k i ys news e ⟨rfl, j⟩
theorem item_M {value slice : Expr} {l : Addr} {us : Array Value} {n i : Nat} {u : Tok} {news : List (Addr × Obj)} {Q : Value → Shared → Prop} (N : News h₀ L s.heap news) (hm : (l, W.listOf us n) ∈ news) (hi : i < us.size) (hz : i < 1000) (h : ∀ v, us[i]? = some v → Q v s)
    (hs : subscripted slice false (.ref l) (.int (0 + (i : Int)) u) = operate [.ref l, .int (0 + (i : Int)) u] (getItem (.ref l) (.int (0 + (i : Int)) u)) := by with_unfolding_all rfl) :
    wpAny (model prog w) A (subscriptTail value slice (.ref l) (.int (0 + (i : Int)) u)) Q E s := by
  have hl : s.heap.IsList l us := ⟨_, (N _ hm).1, rfl, n, rfl⟩
  have e : us[(0 + (i : Int)).toNat]? = some us[i] := by
    rw [show (0 + (i : Int)).toNat = i by omega]; simp [hi]
  exact tail_any hl.typeIs slot_list_getitem.lookup (wpAny_getItem_list hl (by omega) (by omega) e (h _ (by simp [hi]))) hs
theorem names_M {value slice : Expr} {l : Addr} {us : Array Value} {n i : Nat} {u : Tok} {xs : List Str} {news : List (Addr × Obj)} {Q : Value → Shared → Prop} (N : News h₀ L s.heap news) (hm : (l, W.listOf us n) ∈ news) (hS : StrsAre us.toList xs) (hi : i < xs.length) (hz : xs.length < 1000)
    (h : ∀ t x, xs[i]? = some x → Q (.str x t) s)
    (hs : subscripted slice false (.ref l) (.int (0 + (i : Int)) u) = operate [.ref l, .int (0 + (i : Int)) u] (getItem (.ref l) (.int (0 + (i : Int)) u)) := by with_unfolding_all rfl) :
    wpAny (model prog w) A (subscriptTail value slice (.ref l) (.int (0 + (i : Int)) u)) Q E s := by
  have hl := strs_len hS
  refine item_M N hm (by simp at hl; omega) (by omega) (fun v hv => ?_) hs
  obtain ⟨t, e⟩ := hS.at (show xs[i]? = some xs[i] by simp [hi])
  rw [show us[i]? = us.toList[i]? by simp, e] at hv
  cases hv
  exact h t _ (by simp [hi])
end
structure FF (x y z : UInt64) (a b c : Int) : Prop where
  deg : Float64.isFinite (degF x y z) = true
  top : Float64.isFinite (topF x y z) = true
  topI : topI x y z = max a (max b c)
  u0 : underI x y z 0 = decide (a < max a (max b c))
  u1 : underI x y z 1 = decide (b < max a (max b c))
  u2 : underI x y z 2 = decide (c < max a (max b c))
  lo : 0 ≤ degI x y z
  hi : degI x y z ≤ 360
theorem ff_of {x y z : UInt64} {a b c : Int} (hx : x = qf a) (hy : y = qf b) (hz : z = qf c) (ha : 0 ≤ a) (hb : 0 ≤ b) (hc : 0 ≤ c) (ha' : a ≤ 6) (hb' : b ≤ 6) (hc' : c ≤ 6) : FF x y z a b c := by
  have h := ok_at ha hb hc ha' hb' hc'
  rw [okAt, ← hx, ← hy, ← hz] at h
  simp only [Bool.and_eq_true, beq_iff_eq, decide_eq_true_eq] at h
  obtain ⟨⟨⟨⟨⟨⟨⟨⟨-, h1⟩, h2⟩, h3⟩, h4⟩, h5⟩, h6⟩, h7⟩, h8⟩ := h
  exact ⟨h1, h2, h3, h4, h5, h6, h7, h8⟩

theorem app_tl {p : Addr × Obj} {l r : List (Addr × Obj)} (h : p ∈ l) : p ∈ l ++ r := List.mem_append_left _ h
theorem app_tr {p : Addr × Obj} {l r : List (Addr × Obj)} (h : p ∈ r) : p ∈ l ++ r := List.mem_append_right _ h
def Hold (P : Prop) : Prop := P
theorem hold_in {P : Prop} (h : Hold P) : P := h
theorem news_sub2 {h₀ h : Heap} {L : Addr} {l l' : List (Addr × Obj)} (N : News h₀ L h l) (k : ∀ p ∈ l', p ∈ l) : News h₀ L h l' := fun p hp => N p (k p hp)
theorem own_of {nw news : List (Addr × Obj)} {adr : List Addr} (h : ∀ p ∈ nw, ∀ q ∈ news, q.1 ≠ p.1) (k : ∀ b ∈ adr, ∃ ob, (b, ob) ∈ news) : OwnOff nw adr := fun p hp b hb => let ⟨ob, hm⟩ := k b hb; Ne.symm (h p hp (b, ob) hm)
theorem own_cons {x : Addr × Obj} {nw : List (Addr × Obj)} {adr : List Addr} (h : ∀ b ∈ adr, x.1 ≠ b) (k : OwnOff nw adr) : OwnOff (x :: nw) adr := fun p hp b hb => by
  rcases List.mem_cons.mp hp with rfl | hp
  · exact h b hb
  · exact k p hp b hb
def rss0 (tc : Col) : List (List (Int × Bool)) := [[(tc.1 + 7, false)], [(tc.2.1 + 7, false)], [(tc.2.2 + 7, false)]]
theorem rss0_get {i : Nat} {tc : Col} (hi : i < 3) : (rss0 tc)[i]? = some [((colL tc).getD (0 + (i : Int)).toNat 0 + 7, false)] := by
  match i, hi with
  | 0, _ => rfl
  | 1, _ => rfl
  | 2, _ => rfl
def JL (w : World) (h₀ : Heap) (hs : List (Addr × Obj)) (rss : List (List (Int × Bool))) (tail0 : List (Addr × Obj)) (i : Nat) (ys : List Value) (news : List (Addr × Obj)) : Prop :=
  ∃ tb o tail, news = hs ++ (101, tb) :: tail ∧ TabK h₀ tail tb o ∧ LightsK w h₀ tail ys (rss.take i) ∧ OwnOff tail (101 :: hs.map (·.1)) ∧ ∀ p ∈ tail0, p ∈ tail
def topC (tc c : Col) : Int := max (c.1 - tc.1) (max (c.2.1 - tc.2.1) (c.2.2 - tc.2.2))
def rssT (tc : Col) (ds : List Col) : List (List (Int × Bool)) :=
  [(tc.1 + 7, false) :: ds.map (fun c => (c.1 - topC tc c + 7, true)), (tc.2.1 + 7, false) :: ds.map (fun c => (c.2.1 - topC tc c + 7, true)), (tc.2.2 + 7, false) :: ds.map (fun c => (c.2.2 - topC tc c + 7, true))]
def undK (tc c : Col) : Nat → List Str
  | 0 => []
  | 1 => if c.1 - tc.1 < topC tc c then [Str.ofString "red"] else []
  | 2 => (if c.1 - tc.1 < topC tc c then [Str.ofString "red"] else []) ++ (if c.2.1 - tc.2.1 < topC tc c then [Str.ofString "green"] else [])
  | _ => ((if c.1 - tc.1 < topC tc c then [Str.ofString "red"] else []) ++ (if c.2.1 - tc.2.1 < topC tc c then [Str.ofString "green"] else [])) ++ (if c.2.2 - tc.2.2 < topC tc c then [Str.ofString "blue"] else [])
def underT (tc c : Col) : List Str := undK tc c 3
def leftT (tc : Col) (ds : List Col) : List Str := ds.foldl (fun l c => l.filter fun x => (underT tc c).contains x) [Str.ofString "red", Str.ofString "green", Str.ofString "blue"]
def JT (w : World) (h₀ : Heap) (x7 x6 x5 x4 x3 x2 x1 : Addr) (o6n o7 : Obj) (aNm : Addr) (us0 : Array Value) (tc : Col) (cs : List Col) (i : Nat) (m₁ : Str → Option Value) (news₁ : List (Addr × Obj)) : Prop :=
  ∃ (mb : Str → Option Value) (eL : Addr) (q7 q6 q5 q4 q3 : Obj) (v7 v6 v5 v4 : Option Value) (aLt : Addr) (lts : Array Value) (nl : Nat) (tb : Obj) (o : Option Addr) (tail : List (Addr × Obj)) (us : Array Value), m₁ = (fun y => if y = Str.ofString "left" then some (.ref eL) else mb y) ∧
    news₁ = (x7, q7) :: (x6, q6) :: (x5, q5) :: (x4, q4) :: (x3, q3) :: (x2, o6n) :: (x1, o7) :: (101, tb) :: tail ∧ q7.data = .cell v7 ∧ q6.data = .cell v6 ∧ q5.data = .cell v5 ∧ q4.data = .cell v4 ∧ q3.data = .cell (some (.ref aLt)) ∧
    (aLt, W.listOf lts nl) ∈ tail ∧ LightsK w h₀ tail lts.toList (rssT tc (cs.take i)) ∧ EntIn w tail eL us #[] ∧ StrsAre us.toList (leftT tc (cs.take i)) ∧ us.size ≤ 3 ∧ TabK h₀ tail tb o ∧
    OwnOff tail [101, x7, x6, x5, x4, x3, x2, x1] ∧ (aNm, W.listOf us0 0) ∈ tail
theorem off3_app {I C D : Addr} {hs tail : List (Addr × Obj)} {tb : Obj} (off : LCg.Off3 I C D (hs ++ (101, tb) :: tail)) : (∀ p ∈ hs, p.1 ≠ I ∧ p.1 ≠ C ∧ p.1 ≠ D) ∧ ((101 : Nat) ≠ I ∧ (101 : Nat) ≠ C ∧ (101 : Nat) ≠ D) ∧ ∀ p ∈ tail, p.1 ≠ I ∧ p.1 ≠ C ∧ p.1 ≠ D :=
  ⟨fun p hp => off.mem p (List.mem_append_left _ hp), off.mem (101, tb) (List.mem_append_right _ (.head _)), fun p hp => off.mem p (List.mem_append_right _ (.tail _ hp))⟩
theorem light_end {w : World} {h₀ h' : Heap} {L : Addr} {m : Str → Option Value} {s₁ : Shared} {I C D e : Addr} {oI oC oD tb tb' : Obj} (hs : List (Addr × Obj)) {tail tail' tail0 front : List (Addr × Obj)} {rss : List (List (Int × Bool))} {i tk : Nat} {ys : List Value} {rs : List (Int × Bool)} {o : Option Addr} {S : List (Addr × Obj) → Prop}
    (F9 : Fr h₀ L h' m) (N9 : News h₀ L h' (front ++ ((I, oI) :: (C, oC) :: (D, oD) :: (hs ++ (101, tb') :: tail'))))
    (off : LCg.Off3 I C D (hs ++ (101, tb) :: tail)) (hS : ∀ l, S l) (sub : ∀ p ∈ tail, p ∈ tail')
    (sep : ∀ p ∈ tail', p ∈ tail ∨ ∀ q ∈ I :: C :: D :: 101 :: hs.map (·.1), q ≠ p.1)
    (hT : TabK h₀ tail' tb' o) (hE : LightK w h₀ tail' (.ref e) rs) (hL : LightsK w h₀ tail ys (rss.take i)) (hO : OwnOff tail (101 :: hs.map (·.1))) (h0 : ∀ p ∈ tail0, p ∈ tail) (hr : rss[i]? = some rs) :
    LCg.CompEnd h₀ L m s₁ I oI C oC D oD S (fun y news' => JL w h₀ hs rss tail0 (i + 1) (ys ++ [y]) news') (.ref e) { s₁ with heap := h', toks := tk } := by
  obtain ⟨a1, a2, a3⟩ := off3_app off
  refine LCg.CompEnd.intro F9 N9 (hs ++ (101, tb') :: tail') (fun p hp => List.mem_append_right _ hp) (LCg.Off3.of fun p hp => ?_) (hS _) ⟨tb', o, tail', rfl, hT, ?_, ?_, fun p hp => sub p (h0 p hp)⟩
  · rcases List.mem_append.mp hp with hp | hp
    · exact a1 p hp
    · rcases List.mem_cons.mp hp with rfl | hp
      · exact a2
      · rcases sep p hp with q | q
        · exact a3 p q
        · exact ⟨Ne.symm (q I (.head _)), Ne.symm (q C (.tail _ (.head _))), Ne.symm (q D (.tail _ (.tail _ (.head _))))⟩
  · rw [List.take_add_one, hr]
    exact (hL.mono sub).snoc hE
  · intro p hp a ha
    rcases sep p hp with q | q
    · exact hO p q a ha
    · exact Ne.symm (q a (.tail _ (.tail _ (.tail _ ha))))
theorem sep_nw {nw news : List (Addr × Obj)} {as : List Addr} (s1 : ∀ p ∈ nw, ∀ q ∈ news, q.1 ≠ p.1) (k : ∀ a ∈ as, ∃ ob, (a, ob) ∈ news) : ∀ p ∈ nw, ∀ a ∈ as, a ≠ p.1 := fun p hp a ha => let ⟨ob, hm⟩ := k a ha; s1 p hp (a, ob) hm
theorem light_new {w : World} {h₀ : Heap} {tail nw1 nw2 : List (Addr × Obj)} {tb' : Obj} {x e c : Addr} {r : Int} {b : Bool} (hR : RuleIn w nw1 x r b c) (hT : TabK h₀ (tail ++ nw1) tb' (some c)) (hE : EntIn w nw2 e #[] #[.ref x]) :
    LightK w h₀ ((tail ++ nw1) ++ nw2) (.ref e) [(r, b)] := by
  refine ⟨e, _, rfl, hE.mono fun p hp => List.mem_append_right _ hp, rfl, fun j u hu => ?_⟩
  match j, hu with
  | 0, hu => cases hu; exact ⟨x, (r, b), rfl, rfl, c, hR.mono fun p hp => List.mem_append_left _ (List.mem_append_right _ hp), hT.2.mono fun p hp => List.mem_append_left _ hp⟩
  | j + 1, hu => simp at hu
theorem sub_app2 {tail nw1 nw2 : List (Addr × Obj)} : ∀ p ∈ tail, p ∈ (tail ++ nw1) ++ nw2 := fun _ hp => List.mem_append_left _ (List.mem_append_left _ hp)
theorem sep_app2 {tail nw1 nw2 : List (Addr × Obj)} {P : Addr × Obj → Prop} (h1 : ∀ p ∈ nw1, P p) (h2 : ∀ p ∈ nw2, P p) : ∀ p ∈ (tail ++ nw1) ++ nw2, p ∈ tail ∨ P p := fun p hp => by
  rcases List.mem_append.mp hp with hp | hp
  · rcases List.mem_append.mp hp with hp | hp
    · exact .inl hp
    · exact .inr (h1 p hp)
  · exact .inr (h2 p hp)
section
variable {prog : Program} {w : World} {A : Around} {E : Value → Shared → Prop} {s : Shared}
theorem div8_K {Q : Value → Shared → Prop} {c t : List Int} {j : Nat} {t1 t2 : Tok} (hA : A.handled = none) (hcb : ∀ j, -3 ≤ c.getD j 0 - t.getD j 0 ∧ c.getD j 0 - t.getD j 0 ≤ 3)
    (h : ∀ x, x = qf (c.getD j 0 - t.getD j 0 + 3) → Q (.float x s.toks) { s with toks := s.toks + 1 }) : wpAny (model prog w) A (binaryOp .Div (.int (c.getD j 0 - t.getD j 0 + 3) t1) (.int 8 t2)) Q E s := by
  have hb := hcb j
  refine PySem.Flt.div_ii_fits hA (Nat.lt_of_lt_of_le (m := 7) (by omega) (by decide +kernel)) (fun q => nomatch q) fun _ _ => h _ rfl
theorem fok_of {x y z : UInt64} {c t : List Int} {i j k : Nat} (hx : x = qf (c.getD i 0 - t.getD i 0 + 3)) (hy : y = qf (c.getD j 0 - t.getD j 0 + 3)) (hz : z = qf (c.getD k 0 - t.getD k 0 + 3)) (hcb : ∀ j, -3 ≤ c.getD j 0 - t.getD j 0 ∧ c.getD j 0 - t.getD j 0 ≤ 3) :
    (Float64.cmp (fmin3 x y z) (fmax3 x y z) == some Ordering.eq) = false → FOk x y z := by
  intro hne
  have h := ok_at (a := c.getD i 0 - t.getD i 0 + 3) (b := c.getD j 0 - t.getD j 0 + 3) (c := c.getD k 0 - t.getD k 0 + 3) (by have := hcb i; omega) (by have := hcb j; omega) (by have := hcb k; omega) (by have := hcb i; omega) (by have := hcb j; omega) (by have := hcb k; omega)
  rw [okAt, ← hx, ← hy, ← hz] at h
  simp only [Bool.and_eq_true] at h
  have h1 := h.1.1.1.1.1.1.1.1
  unfold fOkB at h1
  rw [hne, Bool.false_or] at h1
  simp only [Bool.and_eq_true, Bool.not_eq_true'] at h1
  exact ⟨h1.1.1.1, h1.1.1.2, h1.1.2, h1.2⟩
theorem ff_at {x y z : UInt64} {c t : List Int} {i j k : Nat} (hx : x = qf (c.getD i 0 - t.getD i 0 + 3)) (hy : y = qf (c.getD j 0 - t.getD j 0 + 3)) (hz : z = qf (c.getD k 0 - t.getD k 0 + 3)) (hcb : ∀ j, -3 ≤ c.getD j 0 - t.getD j 0 ∧ c.getD j 0 - t.getD j 0 ≤ 3) :
    FF x y z (c.getD i 0 - t.getD i 0 + 3) (c.getD j 0 - t.getD j 0 + 3) (c.getD k 0 - t.getD k 0 + 3) :=
  ff_of hx hy hz (by have := hcb i; omega) (by have := hcb j; omega) (by have := hcb k; omega) (by have := hcb i; omega) (by have := hcb j; omega) (by have := hcb k; omega)
theorem ff_at' {x y z : UInt64} {c t : List Int} {i j k : Nat} {o : Obj} {tt : Tok} (_ : o.data = .cell (some (.float (hlsS x y z) tt))) (hx : x = qf (c.getD i 0 - t.getD i 0 + 3)) (hy : y = qf (c.getD j 0 - t.getD j 0 + 3)) (hz : z = qf (c.getD k 0 - t.getD k 0 + 3)) (hcb : ∀ j, -3 ≤ c.getD j 0 - t.getD j 0 ∧ c.getD j 0 - t.getD j 0 ≤ 3) :
    FF x y z (c.getD i 0 - t.getD i 0 + 3) (c.getD j 0 - t.getD j 0 + 3) (c.getD k 0 - t.getD k 0 + 3) := ff_at hx hy hz hcb
theorem deg_K {prog : Program} {w : World} {A : Around} {E : Value → Shared → Prop} {s : Shared} {Q : Value → Shared → Prop} {x y z : UInt64} {a b c : Int} {t : Tok} (hA : A.handled = none) (ff : FF x y z a b c) (h : ∀ n, n = degI x y z → Q (.int n s.toks) { s with toks := s.toks + 1 }) :
    wpAny (model prog w) A (call (.type "int") [.float (Float64.add (Float64.mul (hlsH x y z) (Float64.ofInt 360)) 4602678819172646912) t]) Q E s := int_K hA ff.deg h
theorem top_K {prog : Program} {w : World} {A : Around} {E : Value → Shared → Prop} {s : Shared} {Q : Value → Shared → Prop} {x y z : UInt64} {a b c : Int} {t : Tok} (hA : A.handled = none) (ff : FF x y z a b c) (h : ∀ n, n = max a (max b c) → Q (.int n s.toks) { s with toks := s.toks + 1 }) :
    wpAny (model prog w) A (call (.type "int") [.float (Float64.mul (fmax3 x y z) (Float64.ofInt 8)) t]) Q E s := int_K hA ff.top fun n e => h n (e.trans ff.topI)
end
theorem und_ok {x y z : UInt64} {tc c : Col} (ff : FF x y z (c.1 - tc.1 + 3) (c.2.1 - tc.2.1 + 3) (c.2.2 - tc.2.2 + 3)) {i : Nat} {v : Str} (hx : [Str.ofString "red", Str.ofString "green", Str.ofString "blue"][i]? = some v) :
    undK tc c (i + 1) = undK tc c i ++ (if underI x y z i = true then [v] else []) := by
  have key : ∀ a : Int, (a + 3 < max (c.1 - tc.1 + 3) (max (c.2.1 - tc.2.1 + 3) (c.2.2 - tc.2.2 + 3))) ↔ a < topC tc c := by
    intro a; unfold topC; omega
  match i, hx with
  | 0, hx =>
    cases hx
    have e : underI x y z ((0 : Nat) : Int) = _ := ff.u0
    rw [e]
    simp only [undK, key, decide_eq_true_eq, List.nil_append]
  | 1, hx =>
    cases hx
    have e : underI x y z ((1 : Nat) : Int) = _ := ff.u1
    rw [e]
    simp only [undK, key, decide_eq_true_eq]
  | 2, hx =>
    cases hx
    have e : underI x y z ((2 : Nat) : Int) = _ := ff.u2
    rw [e]
    simp only [undK, key, decide_eq_true_eq]
  | i + 3, hx => simp at hx
theorem und_len (tc c : Col) (i : Nat) : (undK tc c i).length ≤ 3 := by
  match i with
  | 0 => exact Nat.zero_le _
  | 1 => simp only [undK]; split <;> simp
  | 2 => simp only [undK]; split <;> split <;> simp
  | i + 3 => simp only [undK]; split <;> split <;> split <;> simp
theorem und_val {x y z : UInt64} {n : Int} {i : Nat} (hD : n = degI x y z) : underI x y z i = ((Float64.cmp (hlsS x y z) 0 != some Ordering.eq) && decide (120 < (n - 120 * (0 + (i : Int)) + 60).fmod 360)) := by
  subst hD
  unfold underI grayF
  rw [Int.zero_add]
  rfl
theorem und_yes {x y z : UInt64} {tc c : Col} (ff : FF x y z (c.1 - tc.1 + 3) (c.2.1 - tc.2.1 + 3) (c.2.2 - tc.2.2 + 3)) {i : Nat} {v : Str} {n : Int} {ys : List Value} {t : Tok} (hD : n = degI x y z) (h1 : (Float64.cmp (hlsS x y z) 0 != some Ordering.eq) = true) (h2 : 120 < (n - 120 * (0 + (i : Int)) + 60).fmod 360)
    (hx : [Str.ofString "red", Str.ofString "green", Str.ofString "blue"][i]? = some v) (hy : StrsAre ys (undK tc c i)) : StrsAre (ys ++ [.str v t]) (undK tc c (i + 1)) := by
  rw [und_ok ff hx, und_val hD, h1, decide_eq_true h2]
  exact strsAre_append hy (.cons _ _ .nil)
theorem und_no {x y z : UInt64} {tc c : Col} (ff : FF x y z (c.1 - tc.1 + 3) (c.2.1 - tc.2.1 + 3) (c.2.2 - tc.2.2 + 3)) {i : Nat} {n : Int} {ys : List Value} (hD : n = degI x y z) (h : (Float64.cmp (hlsS x y z) 0 != some Ordering.eq) = false ∨ ¬ 120 < (n - 120 * (0 + (i : Int)) + 60).fmod 360)
    (hi : i < 3) (hy : StrsAre ys (undK tc c i)) : StrsAre ys (undK tc c (i + 1)) := by
  have hx : [Str.ofString "red", Str.ofString "green", Str.ofString "blue"][i]? = some ([Str.ofString "red", Str.ofString "green", Str.ofString "blue"][i]) := by simp [hi]
  have e : underI x y z i = false := by
    rw [und_val hD]
    rcases h with h | h
    · rw [h]; rfl
    · rw [decide_eq_false h, Bool.and_false]
  rw [und_ok ff hx, e, if_neg (by simp), List.append_nil]
  exact hy
theorem z3_of {α : Type} {vs : Array α} {v : α} (h : vs.size ≤ 900) : vs.size + (#[v] : Array α).size ≤ 1000 := by
  show vs.size + 1 ≤ 1000
  omega
def RulesK (w : World) (h₀ : Heap) (tail : List (Addr × Obj)) (vs : Array Value) (rs : List (Int × Bool)) : Prop :=
  vs.size = rs.length ∧ ∀ (i : Nat) (u : Value), vs[i]? = some u → ∃ x r, u = .ref x ∧ rs[i]? = some r ∧ RuleK w h₀ tail x r.1 r.2
theorem RulesK.snoc {w : World} {h₀ : Heap} {tail tail' : List (Addr × Obj)} {vs : Array Value} {rs : List (Int × Bool)} {x : Addr} {r : Int} {b : Bool} (y : RulesK w h₀ tail vs rs) (k : ∀ p ∈ tail, p ∈ tail') (z : RuleK w h₀ tail' x r b) : RulesK w h₀ tail' (vs ++ #[.ref x]) (rs ++ [(r, b)]) := by
  refine ⟨by simp [y.1], fun i u hu => ?_⟩
  by_cases q : i < vs.size
  · rw [Array.getElem?_append_left q] at hu
    obtain ⟨x', r', a1, a2, a3⟩ := y.2 i u hu
    exact ⟨x', r', a1, by rw [List.getElem?_append_left (by rw [← y.1]; exact q)]; exact a2, a3.mono k⟩
  · rw [Array.getElem?_append_right (by omega)] at hu
    have h0 : i - vs.size = 0 := by
      have := (Array.getElem?_eq_some_iff.mp hu).1
      simp at this; omega
    rw [h0] at hu
    simp at hu
    subst hu
    exact ⟨x, (r, b), rfl, by rw [List.getElem?_append_right (by rw [← y.1]; omega), ← y.1, h0]; rfl, z⟩
theorem strs_nil {us : Array Value} (h : StrsAre us.toList []) : us = #[] := by
  have : us.toList = [] := by generalize us.toList = l at h; cases h; rfl
  simpa using this
theorem lights_M {prog : Program} {w : World} {A : Around} {E : Value → Shared → Prop} {s : Shared} {h₀ : Heap} {L : Addr} {value slice : Expr} {l : Addr} {us : Array Value} {n i : Nat} {u : Tok} {rss : List (List (Int × Bool))} {news tl : List (Addr × Obj)} {Q : Value → Shared → Prop} (N : News h₀ L s.heap news) (hm : (l, W.listOf us n) ∈ news) (hS : LightsK w h₀ tl us.toList rss) (hi : i < rss.length) (hz : rss.length < 1000) (hz2 : ∀ rs ∈ rss, rs.length ≤ 900)
    (h : ∀ e vs rs, rss[i]? = some rs → EntIn w tl e #[] vs → vs.size ≤ 900 → RulesK w h₀ tl vs rs → Q (.ref e) s)
    (hs : subscripted slice false (.ref l) (.int (0 + (i : Int)) u) = operate [.ref l, .int (0 + (i : Int)) u] (getItem (.ref l) (.int (0 + (i : Int)) u)) := by with_unfolding_all rfl) :
    wpAny (model prog w) A (subscriptTail value slice (.ref l) (.int (0 + (i : Int)) u)) Q E s := by
  have hl := hS.1
  refine item_M N hm (by simp at hl; omega) (by omega) (fun v hv => ?_) hs
  obtain ⟨rs, e1, e2⟩ := hS.2 i v (by simpa using hv)
  obtain ⟨e, vs, rfl, a1, a2, a3⟩ := id e2
  exact h e vs rs e1 a1 (by rw [a2]; exact hz2 _ (List.mem_of_getElem? e1)) ⟨a2, a3⟩
theorem sep_fr {nw front hs tl : List (Addr × Obj)} {I C D : Addr} {oI oC oD tb : Obj} (s1 : ∀ p ∈ nw, ∀ q ∈ front ++ ((I, oI) :: (C, oC) :: (D, oD) :: (hs ++ (101, tb) :: tl)), q.1 ≠ p.1) : ∀ p ∈ nw, ∀ a ∈ I :: C :: D :: 101 :: hs.map (·.1), a ≠ p.1 := fun p hp a ha => by
  have key : ∀ q ∈ ((I, oI) :: (C, oC) :: (D, oD) :: (hs ++ (101, tb) :: tl)), q.1 ≠ p.1 := fun q hq => s1 p hp q (List.mem_append_right _ hq)
  rcases List.mem_cons.mp ha with rfl | ha
  · exact key (a, oI) (.head _)
  rcases List.mem_cons.mp ha with rfl | ha
  · exact key (a, oC) (.tail _ (.head _))
  rcases List.mem_cons.mp ha with rfl | ha
  · exact key (a, oD) (.tail _ (.tail _ (.head _)))
  rcases List.mem_cons.mp ha with rfl | ha
  · exact key (101, tb) (.tail _ (.tail _ (.tail _ (List.mem_append_right _ (.head _)))))
  obtain ⟨q, hq, rfl⟩ := List.mem_map.mp ha
  exact key q (.tail _ (.tail _ (.tail _ (List.mem_append_left _ hq))))
theorem sep_f2 {nw front hs tl : List (Addr × Obj)} {tb : Obj} (s1 : ∀ p ∈ nw, ∀ q ∈ front ++ (hs ++ (101, tb) :: tl), q.1 ≠ p.1) : ∀ p ∈ nw, ∀ a ∈ 101 :: hs.map (·.1), a ≠ p.1 := fun p hp a ha => by
  have key : ∀ q ∈ (hs ++ (101, tb) :: tl), q.1 ≠ p.1 := fun q hq => s1 p hp q (List.mem_append_right _ hq)
  rcases List.mem_cons.mp ha with rfl | ha
  · exact key (101, tb) (List.mem_append_right _ (.head _))
  obtain ⟨q, hq, rfl⟩ := List.mem_map.mp ha
  exact key q (List.mem_append_left _ hq)
theorem sub_app3 {tail nw1 nw2 nw3 : List (Addr × Obj)} : ∀ p ∈ tail, p ∈ ((tail ++ nw1) ++ nw2) ++ nw3 := fun _ hp => List.mem_append_left _ (sub_app2 _ hp)
theorem sep_app3 {tail nw1 nw2 nw3 : List (Addr × Obj)} {P : Addr × Obj → Prop} (h1 : ∀ p ∈ nw1, P p) (h2 : ∀ p ∈ nw2, P p) (h3 : ∀ p ∈ nw3, P p) : ∀ p ∈ ((tail ++ nw1) ++ nw2) ++ nw3, p ∈ tail ∨ P p := fun p hp => by
  rcases List.mem_append.mp hp with hp | hp
  · exact sep_app2 h1 h2 p hp
  · exact .inr (h3 p hp)
theorem own_app2 {tail nw1 nw2 : List (Addr × Obj)} {as : List Addr} (h : OwnOff tail as) (h1 : ∀ p ∈ nw1, ∀ a ∈ as, a ≠ p.1) (h2 : ∀ p ∈ nw2, ∀ a ∈ as, a ≠ p.1) : OwnOff ((tail ++ nw1) ++ nw2) as := fun p hp a ha =>
  (sep_app2 h1 h2 p hp).elim (fun q => h p q a ha) fun q => Ne.symm (q a ha)
theorem own_ins {tl : List (Addr × Obj)} {l : List Addr} {a b : Addr} (h : OwnOff tl (a :: l)) (k : ∀ p ∈ tl, p.1 ≠ b) : OwnOff tl (a :: b :: l) := fun p hp x hx => by
  rcases List.mem_cons.mp hx with rfl | hx
  · exact h p hp _ (.head _)
  · rcases List.mem_cons.mp hx with rfl | hx
    · exact k p hp
    · exact h p hp x (.tail _ hx)
theorem light_snoc {w : World} {h₀ : Heap} {tail nw1 nw2 nw3 : List (Addr × Obj)} {tb' : Obj} {x e c : Addr} {r r' : Int} {b : Bool} {vs us : Array Value} {rs : List (Int × Bool)} (hK : RulesK w h₀ tail vs rs) (hR : RuleIn w nw1 x r b c) (hT : TabK h₀ (tail ++ nw1) tb' (some c)) (hE : EntIn w nw3 e us (vs ++ #[.ref x])) (hus : StrsAre us.toList [])
    (hr : r = r') : LightK w h₀ (((tail ++ nw1) ++ nw2) ++ nw3) (.ref e) (rs ++ [(r', b)]) := by
  subst hr
  have e0 := strs_nil hus
  subst e0
  have y := hK.snoc (tail' := ((tail ++ nw1) ++ nw2) ++ nw3) (x := x) (r := r) (b := b) sub_app3 ⟨c, hR.mono fun p hp => List.mem_append_left _ (List.mem_append_left _ (List.mem_append_right _ hp)), hT.2.mono fun p hp => List.mem_append_left _ (List.mem_append_left _ hp)⟩
  exact ⟨e, _, rfl, hE.mono fun p hp => List.mem_append_right _ hp, y.1, y.2⟩
theorem rssT_get {tc c : Col} {ds : List Col} {i : Nat} (hi : i < 3) {rs : List (Int × Bool)} (h : (rssT tc ds)[i]? = some rs) : (rssT tc (ds ++ [c]))[i]? = some (rs ++ [((colL c).getD (0 + (i : Int)).toNat 0 - topC tc c + 7, true)]) := by
  match i, hi with
  | 0, _ => cases h; simp [rssT]
  | 1, _ => cases h; simp [rssT]
  | 2, _ => cases h; simp [rssT]
theorem rssT_len {tc : Col} {ds : List Col} (h : ds.length ≤ 800) : ∀ rs ∈ rssT tc ds, rs.length ≤ 900 := by
  intro rs hr
  simp only [rssT, List.mem_cons, List.not_mem_nil, or_false] at hr
  rcases hr with rfl | rfl | rfl <;> simp only [List.length_cons, List.length_map] <;> omega
theorem left_snoc {tc c : Col} {ds : List Col} : leftT tc (ds ++ [c]) = (leftT tc ds).filter fun x => (underT tc c).contains x := by
  unfold leftT; rw [List.foldl_append]; rfl
theorem left_len {tc : Col} : ∀ {ds : List Col}, (leftT tc ds).length ≤ 3 := by
  intro ds
  have key : ∀ (ds : List Col) (l : List Str), (ds.foldl (fun l c => l.filter fun x => (underT tc c).contains x) l).length ≤ l.length := by
    intro ds
    induction ds with
    | nil => intro l; exact Nat.le_refl _
    | cons c r ih => intro l; exact Nat.le_trans (ih _) (List.length_filter_le _ _)
  exact key ds _
theorem top_eq {tc c : Col} {n : Int} (h : n = max ((colL c).getD (0 + ((0 : Nat) : Int)).toNat 0 - (colL tc).getD (0 + ((0 : Nat) : Int)).toNat 0 + 3) (max ((colL c).getD (0 + ((0 + 1 : Nat) : Int)).toNat 0 - (colL tc).getD (0 + ((0 + 1 : Nat) : Int)).toNat 0 + 3) ((colL c).getD (0 + ((0 + 1 + 1 : Nat) : Int)).toNat 0 - (colL tc).getD (0 + ((0 + 1 + 1 : Nat) : Int)).toNat 0 + 3))) : n - 3 = topC tc c := by
  replace h : n = max (c.1 - tc.1 + 3) (max (c.2.1 - tc.2.1 + 3) (c.2.2 - tc.2.2 + 3)) := h
  unfold topC; omega
theorem turn_end {w : World} {h₀ h' : Heap} {L D9 I1 x7 x6 x5 x4 x3 x2 x1 eL aNm : Addr} {oI1 oI1' q7 q6 q5 q4 q3 v3' o6n o7 tb : Obj} {mb : Str → Option Value} {s : Shared} {tk i : Nat} {tail : List (Addr × Obj)} {ys : List Value} {us0 us : Array Value} {tc col : Col} {cs : List Col} {v7 v6 v5 v4 : Option Value} {o : Option Addr}
    (F9 : Fr h₀ L h' (fun y => if y = Str.ofString "left" then some (.ref eL) else mb y))
    (N9 : News h₀ L h' ((D9, LCg.lst ys) :: (I1, oI1) :: (x7, q7) :: (x6, q6) :: (x5, q5) :: (x4, q4) :: (x3, q3) :: (x2, o6n) :: (x1, o7) :: (101, tb) :: tail))
    (o8 : LCg.Off1 D9 ([(I1, oI1'), (x7, q7), (x6, q6), (x5, q5), (x4, q4), (x3, v3'), (x2, o6n), (x1, o7)] ++ (101, tb) :: tail))
    (sp : ∀ a ∈ [101, x7, x6, x5, x4, x3, x2, x1], a ≠ I1)
    (d7 : q7.data = .cell v7) (d6 : q6.data = .cell v6) (d5 : q5.data = .cell v5) (d4 : q4.data = .cell v4) (d3 : q3.data = .cell (some (.ref D9)))
    (hci : cs[i]? = some col) (LL : LightsK w h₀ tail ys ((rssT tc (cs.take i ++ [col])).take 3)) (hE : EntIn w tail eL us #[]) (hS : StrsAre us.toList ((leftT tc (cs.take i)).filter fun x => (underT tc col).contains x))
    (TK : TabK h₀ tail tb o) (OO : OwnOff tail [101, I1, x7, x6, x5, x4, x3, x2, x1]) (hNm : (aNm, W.listOf us0 0) ∈ tail) :
    TurnEnd h₀ L I1 oI1 (JT w h₀ x7 x6 x5 x4 x3 x2 x1 o6n o7 aNm us0 tc cs (i + 1)) s .next { s with heap := h', toks := tk } := by
  have et : cs.take (i + 1) = cs.take i ++ [col] := by rw [List.take_add_one, hci]; rfl
  have o9 := off1_mem o8
  have OO' : OwnOff tail [101, x7, x6, x5, x4, x3, x2, x1] := fun p hp a ha => OO p hp a (by simp only [List.mem_cons] at ha ⊢; rcases ha with h | h | h | h | h | h | h | h | h <;> simp [h])
  refine ⟨.inl rfl, h', tk, _, (x7, q7) :: (x6, q6) :: (x5, q5) :: (x4, q4) :: (x3, q3) :: (x2, o6n) :: (x1, o7) :: (101, tb) :: ((D9, LCg.lst ys) :: tail), rfl, F9, news_sub2 N9 ?_, ?_, ?_⟩
  · intro p hp
    simp only [List.mem_cons] at hp ⊢
    rcases hp with h | h | h | h | h | h | h | h | h | h | h <;> simp [h]
  · intro p hp
    simp only [List.mem_cons] at hp
    rcases hp with h | h | h | h | h | h | h | h | h | h
    · subst h; exact sp x7 (by simp)
    · subst h; exact sp x6 (by simp)
    · subst h; exact sp x5 (by simp)
    · subst h; exact sp x4 (by simp)
    · subst h; exact sp x3 (by simp)
    · subst h; exact sp x2 (by simp)
    · subst h; exact sp x1 (by simp)
    · subst h; exact sp 101 (by simp)
    · subst h; exact Ne.symm (o9 (I1, oI1') (.head _))
    · exact OO p h I1 (.tail _ (.head _))
  · refine ⟨mb, eL, q7, q6, q5, q4, q3, v7, v6, v5, v4, D9, ys.toArray, ys.length, tb, o, (D9, LCg.lst ys) :: tail, us, rfl, rfl, d7, d6, d5, d4, d3, .head _, ?_, hE.mono fun p hp => .tail _ hp, ?_, ?_, TK.mono fun p hp => .tail _ hp, own_cons ?_ OO', .tail _ hNm⟩
    · rw [et]
      have e2 : (rssT tc (cs.take i ++ [col])).take 3 = rssT tc (cs.take i ++ [col]) := rfl
      rw [e2] at LL
      simpa using LL.mono fun p hp => .tail _ hp
    · rw [et, left_snoc]; exact hS
    · have := strs_len hS
      have h1 := left_len (tc := tc) (ds := cs.take i ++ [col])
      rw [left_snoc, ← this] at h1
      simpa using h1
    · intro b hb
      simp only [List.mem_cons, List.not_mem_nil, or_false] at hb
      rcases hb with h | h | h | h | h | h | h | h <;> subst h
      · exact Ne.symm (o9 (101, tb) (by simp))
      · exact Ne.symm (o9 (b, q7) (by simp))
      · exact Ne.symm (o9 (b, q6) (by simp))
      · exact Ne.symm (o9 (b, q5) (by simp))
      · exact Ne.symm (o9 (b, q4) (by simp))
      · exact Ne.symm (o9 (b, v3') (by simp))
      · exact Ne.symm (o9 (b, o6n) (by simp))
      · exact Ne.symm (o9 (b, o7) (by simp))
def LamK (h₀ : Heap) (tail : List (Addr × Obj)) (f : Addr) (r : Int) : Prop :=
  ∃ c pm c' ctv oc tr, (f, lamObj c pm c' ctv) ∈ tail ∧ (c, oc) ∈ tail ∧ oc.data = .cell (some (.int r tr)) ∧ CodeK h₀ tail c'
theorem RuleK.open {w : World} {h₀ : Heap} {tail : List (Addr × Obj)} {x : Addr} {r : Int} {b : Bool} (y : RuleK w h₀ tail x r b) :
    ∃ d lu lr t1 t2 t3 t4 t5 t6 n f, (x, instObj 66 d) ∈ tail ∧ (d, dictOf (ruleL w t1 t2 t3 t4 t5 t6 lu lr f b) n) ∈ tail ∧ LamK h₀ tail f r := by
  obtain ⟨c', ⟨d, lu, lr, t1, t2, t3, t4, t5, t6, n, f, c, oc, tr, pm, ctv, a1, a2, a3, a4, a5⟩, hc⟩ := y
  exact ⟨d, lu, lr, t1, t2, t3, t4, t5, t6, n, f, a1, a2, c, pm, c', ctv, oc, tr, a3, a4, a5, hc⟩
theorem LamK.at {h₀ h : Heap} {L : Addr} {tail news : List (Addr × Obj)} {f : Addr} {r : Int} (y : LamK h₀ tail f r) (kp : ∀ b o, h₀.get? b = some o → h.get? b = some o) (N : News h₀ L h news) (sub : ∀ p ∈ tail, p ∈ news) : LamAt h f r := by
  obtain ⟨c, pm, c', ctv, oc, tr, a, b, d, e⟩ := y
  refine ⟨c, pm, c', ctv, oc, tr, (N _ (sub _ a)).1, (N _ (sub _ b)).1, d, ?_⟩
  rcases e with x | ⟨oc', vs, t, hm, d', v⟩
  · exact x.keeps kp
  · exact ⟨c', oc', vs, t, rfl, (N _ (sub _ hm)).1, d', v⟩
theorem RuleK.at {w : World} {h₀ h : Heap} {L : Addr} {tail news : List (Addr × Obj)} {x : Addr} {r : Int} {b : Bool} (y : RuleK w h₀ tail x r b) (kp : ∀ b o, h₀.get? b = some o → h.get? b = some o) (N : News h₀ L h news) (sub : ∀ p ∈ tail, p ∈ news) : RuleAt w h x r b := by
  obtain ⟨d, lu, lr, t1, t2, t3, t4, t5, t6, n, f, a1, a2, a3⟩ := y.open
  exact ⟨d, lu, lr, t1, t2, t3, t4, t5, t6, n, f, (N _ (sub _ a1)).1, (N _ (sub _ a2)).1, a3.at kp N sub⟩
theorem inst_in {h₀ h : Heap} {L : Addr} {news : List (Addr × Obj)} {x d : Addr} {es : List DictEntry} {n : Nat} (N : News h₀ L h news) (h1 : (x, instObj 66 d) ∈ news) (h2 : (d, dictOf es n) ∈ news) : InstAt h x (instObj 66 d) 66 (some (dictOf es n)) :=
  ⟨(N _ h1).1, rfl, rfl, (N _ h2).1⟩
theorem and_N {P : Prop} {h₀ h : Heap} {L : Addr} {news : List (Addr × Obj)} {f : Addr} {o : Obj} (N : News h₀ L h news) (hm : (f, o) ∈ news) (q : P) : h.get? f = some o ∧ P := ⟨(N _ hm).1, q⟩
section
variable {w : World} {A : Around} {s : Shared} {Q : Value → Shared → Prop} {E : Value → Shared → Prop} {h₀ : Heap} {L : Addr} {m : Str → Option Value} {news tail : List (Addr × Obj)}
theorem lam_N {p : Program} {loose : List Str} {mean : ExcName → Option Value} {mg mb : Str → Option Value} {f : Addr} {r : Int} {v : Value}
    (hroom : A.depth < recursionLimit) (F : Fr h₀ L s.heap m) (N : News h₀ L s.heap news) (T : Top p loose mean mg mb h₀) (hf : LamK h₀ tail f r) (sub : ∀ p ∈ tail, p ∈ news)
    (k : ∀ t h' tk, Fr h₀ L h' m → News h₀ L h' news → Q (.int r t) { s with heap := h', toks := tk }) : wpAny (model PR w) A (call (.ref f) [v]) Q E s :=
  lam_call hroom (T.nolimit.keeps F.keep) (hf.at F.keep N sub) fun t h' tk kp => k t h' tk (F.grownK kp) (N.grown kp)
theorem callWith_lamN {M : Model} {env : Env} {pos : Pos} {f c c' : Addr} {pm ctv : Value} {e : Expr} {rest : List Expr}
    (hf : (f, lamObj c pm c' ctv) ∈ tail)
    (h : wpAny M A (spliced (backTo pos (starEach (e :: rest) env))) (fun vs s₁ => s₁.heap.get? f = some (lamObj c pm c' ctv) ∧ wpAny M A (call (.ref f) vs) Q E s₁) E s)
    (he : starEach (e :: rest) env = (false, eval e env) :: starEach rest env) :
    wpAny M A (callWith pos (.ref f) [] (backTo pos (starEach (e :: rest) env)) []) Q E s := let _ := hf; callWith_def rfl h he
theorem allow_K (R : Lvl A 900) (F : Fr h₀ L s.heap m) (N : News h₀ L s.heap news) (G : Gr w h₀) {e : Addr} {vs : Array Value} {x : Str} {t : Tok} {rs : List (Int × Bool)} (hE : EntIn w tail e #[] vs) (hK : RulesK w h₀ tail vs rs) (sub : ∀ p ∈ tail, p ∈ news) (hp : ∀ r ∈ rs, 0 < r.1)
    (k : ∀ h' tk, Fr h₀ L h' m → News h₀ L h' news → Q (.bool (rs.foldl stepA (-1, true)).2) { s with heap := h', toks := tk }) :
    wpAny (model PR w) A (call (.ref 63) [.ref e, .str x t]) Q E s := by
  refine allow_spec R (G.keeps F.keep) ((hE.mono sub).at N) (rs := rs) ⟨hK.1, fun i v hv => ?_⟩ fun h' tk kp => k h' tk (F.grownK kp) (N.grown kp)
  obtain ⟨x', r, a1, a2, a3⟩ := hK.2 i v hv
  exact ⟨x', r, a1, a2, a3.at F.keep N sub, hp r (List.mem_of_getElem? a2)⟩
end
def bestV (tc c0 c1 c2 : Col) (j : Nat) : Int := max (pj j c0 - topC tc c0) (max (pj j c1 - topC tc c1) (pj j c2 - topC tc c2))
theorem rssT_at {tc c0 c1 c2 : Col} {i : Nat} {rs : List (Int × Bool)} (h : (rssT tc [c0, c1, c2])[i]? = some rs) :
    rs = [(pj i tc + 7, false), (pj i c0 - topC tc c0 + 7, true), (pj i c1 - topC tc c1 + 7, true), (pj i c2 - topC tc c2 + 7, true)] := by
  match i, h with
  | 0, h => cases h; rfl
  | 1, h => cases h; rfl
  | 2, h => cases h; rfl
  | i + 3, h => simp [rssT] at h
theorem bestV_of {tc c0 c1 c2 : Col} {i : Nat} {M : Int} (ha : M = pj i c0 - topC tc c0 + 7 ∨ M = pj i c1 - topC tc c1 + 7 ∨ M = pj i c2 - topC tc c2 + 7) (hb : pj i c0 - topC tc c0 + 7 ≤ M ∧ pj i c1 - topC tc c1 + 7 ≤ M ∧ pj i c2 - topC tc c2 + 7 ≤ M) : M - 7 = bestV tc c0 c1 c2 i := by
  unfold bestV; omega
theorem pj_top (tc c : Col) (i : Nat) : pj i c - topC tc c ≤ pj i tc := by
  unfold topC
  match i with
  | 0 => simp only [pj]; omega
  | 1 => simp only [pj]; omega
  | i + 2 => simp only [pj]; omega
theorem allow_val {tc c0 c1 c2 : Col} {i : Nat} {rs : List (Int × Bool)} (h : (rssT tc [c0, c1, c2])[i]? = some rs) (hp : ∀ r ∈ rs, 0 < r.1) : (rs.foldl stepA (-1, true)).2 = decide (bestV tc c0 c1 c2 i = pj i tc) := by
  have e := rssT_at h
  subst e
  have h0 := pj_top tc c0 i
  have h1 := pj_top tc c1 i
  have h2 := pj_top tc c2 i
  have p0 := hp _ (.head _)
  unfold bestV
  generalize pj i c0 - topC tc c0 = a at *
  generalize pj i c1 - topC tc c1 = b at *
  generalize pj i c2 - topC tc c2 = c at *
  generalize pj i tc = d at *
  simp only [] at p0
  simp only [List.foldl_cons, List.foldl_nil]
  have s0 : stepA (-1, true) (d + 7, false) = (d + 7, false) := by unfold stepA; rw [if_pos (by simp only []; omega)]
  have sT : ∀ a, a ≤ d → stepA (d + 7, true) (a + 7, true) = (d + 7, true) := by
    intro a ha
    unfold stepA
    rw [if_neg (by simp only []; omega), if_neg (by simp)]
  have sF : ∀ a, a ≤ d → stepA (d + 7, false) (a + 7, true) = (d + 7, decide (a = d)) := by
    intro a ha
    unfold stepA
    rw [if_neg (by simp only []; omega)]
    by_cases q : a = d
    · rw [if_pos (by simp only []; exact ⟨by omega, trivial⟩), decide_eq_true q]
    · rw [if_neg (by simp only []; omega), decide_eq_false q]
  rw [s0, sF a h0]
  by_cases qa : a = d
  · rw [decide_eq_true qa, sT b h1, sT c h2, eq_comm, decide_eq_true_eq]; omega
  · rw [decide_eq_false qa, sF b h1]
    by_cases qb : b = d
    · rw [decide_eq_true qb, sT c h2, eq_comm, decide_eq_true_eq]; omega
    · rw [decide_eq_false qb, sF c h2]
      show decide (c = d) = _
      congr 1
      apply propext
      omega
theorem rss_pos {tc c0 c1 c2 : Col} (hb : ∀ c ∈ [c0, c1, c2], ∀ j, -3 ≤ (colL c).getD j 0 - (colL tc).getD j 0 ∧ (colL c).getD j 0 - (colL tc).getD j 0 ≤ 3) (ht : 0 ≤ tc.1 ∧ 0 ≤ tc.2.1 ∧ 0 ≤ tc.2.2) : ∀ rs ∈ rssT tc [c0, c1, c2], ∀ r ∈ rs, 0 < r.1 := by
  have key : ∀ c ∈ [c0, c1, c2], 0 < c.1 - topC tc c + 7 ∧ 0 < c.2.1 - topC tc c + 7 ∧ 0 < c.2.2 - topC tc c + 7 := by
    intro c hc
    have b0 : -3 ≤ c.1 - tc.1 ∧ c.1 - tc.1 ≤ 3 := hb c hc 0
    have b1 : -3 ≤ c.2.1 - tc.2.1 ∧ c.2.1 - tc.2.1 ≤ 3 := hb c hc 1
    have b2 : -3 ≤ c.2.2 - tc.2.2 ∧ c.2.2 - tc.2.2 ≤ 3 := hb c hc 2
    unfold topC; omega
  have k0 := key c0 (by simp)
  have k1 := key c1 (by simp)
  have k2 := key c2 (by simp)
  intro rs hrs r hr
  simp only [rssT, List.mem_cons, List.not_mem_nil, or_false, List.map_cons, List.map_nil] at hrs
  rcases hrs with rfl | rfl | rfl <;> simp only [List.mem_cons, List.not_mem_nil, or_false] at hr <;> rcases hr with rfl | rfl | rfl | rfl <;> simp only [] <;> omega
theorem true_step {rs : List (Int × Bool)} {i : Nat} {r : Int × Bool} (h : rs[i]? = some r) : ((rs.take (i + 1)).filter (·.2)).map (·.1) = ((rs.take i).filter (·.2)).map (·.1) ++ (if r.2 = true then [r.1] else []) := by
  rw [List.take_add_one, h, List.filter_append, List.map_append]
  congr 1
  show (([r].filter (·.2)).map (·.1)) = _
  by_cases q : r.2 = true
  · rw [if_pos q]; simp [q]
  · rw [if_neg q]; simp [q]
theorem range_snoc {α : Type} (f : Nat → α) (i : Nat) : (List.range (i + 1)).map f = (List.range i).map f ++ [f i] := by
  rw [List.range_succ, List.map_append]; rfl
theorem new_of {h₀ h : Heap} {L a : Addr} {o : Obj} {news : List (Addr × Obj)} (N : News (Zh h₀) L h news) (m : (a, o) ∈ news) (n : a ≠ 101) : h.get? a = some o ∧ h₀.get? a = none := by
  refine ⟨(N _ m).1, ?_⟩
  cases q : h₀.get? a with
  | none => rfl
  | some ob => have := zh_get n q; rw [(N _ m).2.2] at this; cases this
theorem zh_kp {h₀ h : Heap} {L : Addr} {m : Str → Option Value} (F : Fr (Zh h₀) L h m) : ∀ a ob, a ≠ 101 → h₀.get? a = some ob → h.get? a = some ob := fun a ob n e => F.keep a ob (zh_get n e)
theorem src_in {h₀ : Heap} {ax : Addr} {its : Array Value} {n : Nat} {news : List (Addr × Obj)} (h : (ax, W.listOf its n) ∈ news) : LCg.SrcAt h₀ ax its news := .inr ⟨_, h, rfl, n, rfl⟩
theorem ne101 {L : Nat} (h : 101 < L) : (@Ne Nat 101 (L + 1)) ∧ (@Ne Nat 101 (L + 1 + 1)) ∧ (@Ne Nat 101 (L + 1 + 1 + 1)) ∧ (@Ne Nat 101 (L + 1 + 1 + 1 + 1)) ∧ (@Ne Nat 101 (L + 1 + 1 + 1 + 1 + 1)) ∧ (@Ne Nat 101 (L + 1 + 1 + 1 + 1 + 1 + 1)) ∧ (@Ne Nat 101 (L + 1 + 1 + 1 + 1 + 1 + 1 + 1)) :=
  have k : ∀ {a : Nat}, 101 < a → 101 < a + 1 := fun h => Nat.lt_succ_of_lt h
  ⟨Nat.ne_of_lt (k h), Nat.ne_of_lt (k (k h)), Nat.ne_of_lt (k (k (k h))), Nat.ne_of_lt (k (k (k (k h)))), Nat.ne_of_lt (k (k (k (k (k h))))), Nat.ne_of_lt (k (k (k (k (k (k h)))))), Nat.ne_of_lt (k (k (k (k (k (k (k h))))))) ⟩

theorem fill9 : PySem.Challenge.rw_rl0034_01 = PySem.Challenge.rw_rl0034_01 ∧ hd.heap_1 = hd.heap_1 := by
  k_fill
  exact ⟨rfl, rfl⟩
theorem words_LTold_0 : True := by
  k_with_none
  (k_with "binaryOp Mult float int" => ((k_dflt (refine' mulfi_K ?hwTold67 ?_; (case hwTold67 => decide +kernel)); (try dsimp only))))
  (k_with "call type:int" => ((k_dflt (first | (refine' deg_K ?hwTold68 ?fwTold68 ?_; (case hwTold68 => exact rfl); (case fwTold68 => exact ff_at (by with_reducible assumption) (by with_reducible assumption) (by with_reducible assumption) (by with_reducible assumption))) | (refine' top_K ?hwTold68 ?fwTold68 ?_; (case hwTold68 => exact rfl); (case fwTold68 => exact ff_at (by with_reducible assumption) (by with_reducible assumption) (by with_reducible assumption) (by with_reducible assumption)))); intro _ _; (try dsimp only))))
  (k_with "CompSrcT" => ((k_dflt (refine hold_in ?_))))
  (k_with "mine enterG" => (k_dflt ((case ho => k_is); (case r => exact Nat.le_of_ble_eq_true rfl); (case hcd => k_is); (case hb => exact BindsTo.of_eq rfl); (case hl => exact rfl); (case hc => decide +kernel); (case c1 => exact rfl); (case c2 => exact rfl); (case c3 => exact rfl))))
  (k_with "mine lvl" => (exact lvl_of rfl rfl rfl rfl))
  (k_with "mine tl" => (first | with_reducible assumption | (refine List.mem_cons_of_mem _ ?_; k_extra "mine tl") | (refine app_tl ?_; k_extra "mine tl") | (refine app_tr ?_; k_extra "mine tl")))
  (k_with "mine mem" => (first | exact List.Mem.head _ | with_reducible assumption | (refine List.mem_cons_of_mem _ ?_; k_extra "mine mem") | (refine app_tl ?_; k_extra "mine mem") | (refine app_tr ?_; k_extra "mine mem")))
  (k_with "mine sub" => (first | exact List.forall_mem_nil _ | (intro p hp; k_extra "mine tl") | (refine List.forall_mem_cons.mpr ⟨by k_extra "mine mem", ?_⟩; k_extra "mine sub")))
  (k_with "mine k_inst" => (exact inst_in (by k_asm) (by k_extra "mine mem") (by k_extra "mine mem")))
  (k_with "getMethod ref" => ((k_here; k_dflt (refine' method_ownF ?FwTold76 ?XwTold76 ?IwTold76 ?owTold76 ?gwTold76 ?fwTold76 ?lwTold76 ?twTold76 ?_; (case FwTold76 => k_asm); (case XwTold76 => k_asm); (case IwTold76 => k_inst); (case owTold76 => exact rfl); (case gwTold76 => k_is); (case fwTold76 => k_is); (case lwTold76 => k_get); (case twTold76 => k_is); k_whole); (try dsimp only))))
  (k_with "getAttr ref" => ((k_here; k_dflt (refine' get_ownF ?FwTold77 ?XwTold77 ?IwTold77 ?gwTold77 ?hwTold77 ?awTold77 ?swTold77 ?twTold77 ?lwTold77 ?vwTold77 ?_; (case FwTold77 => k_asm); (case XwTold77 => k_asm); (case IwTold77 => k_inst); (case gwTold77 => k_is); (case hwTold77 => k_is); (case awTold77 => k_is); (case swTold77 => k_is); (case twTold77 => k_is); (case lwTold77 => k_get); (case vwTold77 => k_handed); k_whole))))
  (k_with "call ref" => ((k_here; k_dflt (refine' lam_N ?rwTold78 ?FwTold78 ?NwTold78 ?TwTold78 ?fwTold78 ?subwTold78 ?_; (case fwTold78 => with_reducible assumption); (case FwTold78 => k_asm); (case NwTold78 => k_asm); (case TwTold78 => k_asm); (case subwTold78 => (intro p hp; k_extra "mine tl")); (case rwTold78 => exact Nat.le_of_ble_eq_true rfl); k_whole); intro _ _ _ _ _; (try k_sweep))))
  (k_with "callWith ref" => ((k_here; k_dflt (refine' callWith_lamN ?fwTold79 ?_ ?ewTold79; (case fwTold79 => with_reducible assumption); (case ewTold79 => exact rfl); k_whole))))
  (k_with "And" => (((with_reducible show Heap.get? _ _ = some _ ∧ _); refine and_N (by k_asm) (by k_extra "mine mem") ?_; try dsimp only [List.nil_append, List.cons_append])))
  (k_with "call ref" => ((k_here; (with_reducible show wpAny _ _ (call (Value.ref 63) _) _ _ _); k_dflt (refine' allow_K ?RwTold81 ?FwTold81 ?NwTold81 ?GwTold81 ?hEwTold81 ?hKwTold81 ?subwTold81 ?hpwTold81 ?_; (case RwTold81 => k_extra "mine lvl"); (case FwTold81 => k_asm); (case NwTold81 => k_asm); (case GwTold81 => with_reducible assumption); (case hEwTold81 => with_reducible assumption); (case hKwTold81 => with_reducible assumption); (case subwTold81 => (intro p hp; k_extra "mine tl")); (case hpwTold81 => with_reducible assumption)); intro _ _ _ _; (try dsimp only); (try k_sweep))))
  (k_with "call ref" => ((k_here; (with_reducible show wpAny _ _ (call (Value.ref 113) _) _ _ _); k_dflt (refine' record_K ?RwTold82 ?FwTold82 ?NwTold82 ?GwTold82 ?awTold82 ?bwTold82 ?zawTold82 ?zbwTold82 ?_; (case RwTold82 => k_extra "mine lvl"); (case FwTold82 => k_asm); (case NwTold82 => k_asm); (case GwTold82 => with_reducible assumption); (case awTold82 => k_extra "mine mem"); (case bwTold82 => k_extra "mine mem"); (case zawTold82 => first | with_reducible assumption | exact Nat.le_of_ble_eq_true rfl); (case zbwTold82 => first | with_reducible assumption | exact Nat.le_of_ble_eq_true rfl)); intro _ _ _ _ _; walk_at "tail N"; intro _ _; (try dsimp only); (try k_sweep))))
  (k_with "call ref" => ((k_here; (with_reducible show wpAny _ _ (call (Value.ref 106) _) _ _ _); k_dflt (refine' rule_K ?RwTold83 ?hzwTold83 ?GwTold83 ?cdwTold83 ?FwTold83 ?NwTold83 ?TwTold83 ?htlwTold83 ?UwTold83 ?_; (case RwTold83 => k_extra "mine lvl"); (case hzwTold83 => with_reducible assumption); (case GwTold83 => with_reducible assumption); (case cdwTold83 => with_reducible assumption); (case FwTold83 => k_asm); (case NwTold83 => k_asm); (case TwTold83 => with_reducible assumption); (case htlwTold83 => (intro p hp; k_extra "mine tl")); (case UwTold83 => k_updF)); intro _ _ _ _ _ _ _; walk_at "tail N"; intro _ _ _; (try dsimp only); (try k_sweep))))
  (k_with "exec For Name Name cons nil" => ((k_here; with_unfolding_all refine wpAny_For ?_)))
  (k_with "CompSrc" => ((k_dflt (refine hold_in ?_))))
  (k_with "CompSrc" => ((k_here; (with_reducible show LCg.CompSrc _ _ _ _ _ _ _ (Expr.BinOp _ _ _ _) _ _ _ _ _ _); k_dflt (refine LCg.CompSrc.range (by rfl) (by with_reducible assumption) (by with_reducible assumption) (by with_reducible assumption) (by first | decide | rfl) (by first | rfl | decide) (by first | exact Nat.le_of_ble_eq_true rfl | size_fits) ?_; intro _; lcg_lit))))
  (k_with "CompRest" => ((with_unfolding_all first
      | (refine LCg.CompRest.succ ?_; walk_at "tail rest")
      | refine LCg.CompRest.zero ?_)))
  (k_with "CompEnd" => ((rename News _ _ _ _ => N9z; rename Fr _ _ _ _ => F9z; refine LCg.CompEnd.intro F9z N9z _ (fun p hp => hp) (by with_reducible assumption) (by lcg_src) ?_; clear N9z F9z)))
  (k_with "FinE" => (((unfold LCg.FinE); walk_at "tail fin")))
  (k_with "mine k_mem" => (k_extra "mine mem"))
  (k_with "mine k_lt" => skip)
  (k_with "mine pl" => (first | exact sn1 | exact sn2 | exact sn3 | exact sn4 | exact sn5 | exact sn6 | exact Ne.symm sn1 | exact Ne.symm sn2 | exact Ne.symm sn3 | exact Ne.symm sn4 | exact Ne.symm sn5 | exact Ne.symm sn6 | (refine peel ?_; k_extra "mine pl")))
  (k_with "mine k_ne" => (first | with_reducible assumption | (with_reducible refine Ne.symm ?_; with_reducible assumption) | exact off1_ne (by with_reducible assumption) (by k_extra "mine mem") | exact Ne.symm (off1_ne (by with_reducible assumption) (by k_extra "mine mem")) | exact lt_ne (by with_reducible assumption) (by k_extra "mine mem") | exact lt_ne' (by with_reducible assumption) (by k_extra "mine mem") | k_extra "mine pl" | (refine neN ?_; (try dsimp only); omega)))
  (k_with "FinA" => (((unfold LCg.FinA); walk_at "tail fin")))
  (k_with "binaryOp Div int int" => ((k_dflt (refine' div8_K ?hwTold94 ?bwTold94 ?_; (case hwTold94 => exact rfl); (case bwTold94 => with_reducible assumption)); intro _ _; (try dsimp only))))
  (k_with "call ref" => ((k_here; (with_reducible show wpAny _ _ (call (Value.ref 21) _) _ _ _); k_dflt (refine' hls_K ?RwTold95 ?FwTold95 ?NwTold95 ?GwTold95 ?okwTold95 ?_; (case RwTold95 => k_extra "mine lvl"); (case FwTold95 => k_asm); (case NwTold95 => k_asm); (case GwTold95 => with_reducible assumption); (case okwTold95 => exact fok_of (by with_reducible assumption) (by with_reducible assumption) (by with_reducible assumption) (by with_reducible assumption))); intro _ _ _ _ _ _ _ _ _ _; (try dsimp only); (try k_sweep))))
  (k_with "call ref" => ((k_here; (with_reducible show wpAny _ _ (call (Value.ref 28) _) _ _ _); k_dflt (refine' hsv_K ?RwTold96 ?FwTold96 ?NwTold96 ?GwTold96 ?okwTold96 ?_; (case RwTold96 => k_extra "mine lvl"); (case FwTold96 => k_asm); (case NwTold96 => k_asm); (case GwTold96 => with_reducible assumption); (case okwTold96 => exact fok_of (by with_reducible assumption) (by with_reducible assumption) (by with_reducible assumption) (by with_reducible assumption))); intro _ _ _ _ _ _ _ _ _ _ _; (try dsimp only); (try k_sweep))))
  (k_with "mine k_all" => (first | exact OwnOff.ne (by with_reducible assumption) (by k_memK) | (intro p hp; exact off1_mem (by with_reducible assumption) p (by k_extra "mine tl")) | exact List.forall_mem_nil _ | (refine' List.forall_mem_cons.mpr ⟨?awTold97, ?bwTold97⟩; (case awTold97 => k_ne); (case bwTold97 => k_all))))
  (k_with "call ref" => ((k_here; (with_reducible show wpAny _ _ (call (Value.ref 77) _) _ _ _); k_dflt (refine' merge_K ?RwTold98 ?FwTold98 ?NwTold98 ?GwTold98 ?h1wTold98 ?h2wTold98 ?x1wTold98 ?x2wTold98 ?z1wTold98 ?z2wTold98 ?z3wTold98 ?_; (case RwTold98 => k_extra "mine lvl"); (case FwTold98 => k_asm); (case NwTold98 => k_asm); (case GwTold98 => with_reducible assumption); (case h1wTold98 => k_extra "mine ent"); (case h2wTold98 => k_extra "mine ent"); (case x1wTold98 => first | with_reducible assumption | exact .nil); (case x2wTold98 => first | with_reducible assumption | exact .nil); (case z1wTold98 => first | with_reducible assumption | exact Nat.le_of_ble_eq_true rfl); (case z2wTold98 => first | with_reducible assumption | exact Nat.le_of_ble_eq_true rfl); (case z3wTold98 => first | exact z3_of (by with_reducible assumption) | exact Nat.le_of_ble_eq_true rfl)); intro _ _ _ _ _ _; walk_at "tail N"; intro _ _ _; (try dsimp only); (try k_sweep))))
  (k_with "mine ent" => ((refine EntIn.mono (by with_reducible assumption) ?_; intro p hp; k_extra "mine tl")))
  (k_with "subscriptTail Name Name ref int" => ((k_here; k_dflt (refine' lights_M ?NwTold100 ?mwTold100 ?SwTold100 ?iwTold100 ?zwTold100 ?z2wTold100 ?_ ?ewTold100; (case NwTold100 => k_asm); (case mwTold100 => k_extra "mine mem"); (case SwTold100 => with_reducible assumption); (case iwTold100 => (show _ < 3); with_reducible assumption); (case zwTold100 => exact Nat.le_of_ble_eq_true rfl); (case z2wTold100 => with_reducible assumption); (case ewTold100 => with_unfolding_all rfl)); intro _ _ _ _ _ _ _; (try dsimp only))))
  (k_with "subscriptTail Name Name ref int" => ((k_here; k_dflt (refine' names_M ?NwTold101 ?mwTold101 ?SwTold101 ?iwTold101 ?zwTold101 ?_ ?ewTold101; (case NwTold101 => k_asm); (case mwTold101 => k_extra "mine mem"); (case SwTold101 => with_reducible assumption); (case iwTold101 => (show _ < 3); with_reducible assumption); (case zwTold101 => decide); (case ewTold101 => with_unfolding_all rfl)); intro _ _ _; (try dsimp only))))
  trivial
set_option maxHeartbeats 4000000 in
theorem told_spec {w : World} {A : Around} {s : Shared} {Q : Value → Shared → Prop} {E : Value → Shared → Prop} (R : Lvl A 800) {o : Option Addr} (G : GT w s.heap o) {a t r0 r1 r2 : Addr} {n : Nat} {c0 c1 c2 tc : Col}
    (hm : (Zh s.heap).get? a = some (W.listOf #[.ref r0, .ref r1, .ref r2] n)) (h0 : ColAt (Zh s.heap) r0 c0) (h1 : ColAt (Zh s.heap) r1 c1) (h2 : ColAt (Zh s.heap) r2 c2) (ht : ColAt (Zh s.heap) t tc)
    (hbd : ∀ c ∈ [c0, c1, c2], ∀ j, -3 ≤ (colL c).getD j 0 - (colL tc).getD j 0 ∧ (colL c).getD j 0 - (colL tc).getD j 0 ≤ 3) (htc : 0 ≤ tc.1 ∧ 0 ≤ tc.2.1 ∧ 0 ≤ tc.2.2)
    (k : ∀ x la lb lc us be na nb nc o' h' tk, (∀ a ob, a ≠ 101 → s.heap.get? a = some ob → h'.get? a = some ob) → GT w h' o' →
      (∀ p ∈ [(x, ({ cls := .type "tuple", data := .seq #[.ref la, .ref lb, .ref lc] } : Obj)), (la, W.listOf us na), (lb, W.listOf ((List.range 3).map fun j => Value.bool (decide (bestV tc c0 c1 c2 j = pj j tc))).toArray nb), (lc, W.listOf be nc)], h'.get? p.1 = some p.2 ∧ s.heap.get? p.1 = none) →
      StrsAre us.toList (leftT tc [c0, c1, c2]) → IntsAre be.toList [bestV tc c0 c1 c2 0, bestV tc c0 c1 c2 1, bestV tc c0 c1 c2 2] → Q (.ref x) { s with heap := h', toks := tk }) :
    wpAny (model PR w) A (call (.ref 118) [.ref a, .ref t]) Q E s := by
  obtain ⟨p, l, m, mg, mb, T⟩ := G.gr.top
  have X := G.gr.kin
  have C := G.cd
  obtain ⟨tvs, te, htg, hti⟩ := ht
  have htl : (Zh s.heap).IsList t tvs := ⟨_, htg, rfl, te, rfl⟩
  have GG := G.gr
  obtain ⟨tb, hP, hTK⟩ : ∃ tb, s.heap.get? 101 = some tb ∧ TabK (Zh s.heap) [] tb o := by
    cases G.tab with
    | empty e => exact ⟨_, e, rfl⟩
    | full e c => exact ⟨_, e, rfl, .inl c⟩
  refine lower R ?_
  clear R
  generalize A.frames = fr
  have hN : ∀ p ∈ [((101 : Addr), tb)], s.heap.get? p.1 = some p.2 := by intro p hp; rcases List.mem_singleton.mp hp with rfl; exact hP
  refine' enterG (news := [((101 : Addr), tb)]) (g := Zh s.heap) rfl ?r GG hN ?ho ?hcd ?hb ?hl ?hc ?_ ?c1 ?c2 ?c3
  k_extra "mine enterG"
  intro L h₁ tk cells hL F N Y l0
  have hz : (Zh s.heap).get? 101 = none := hideAll_none [101] (.head _)
  clear hP hN
  have hlt : 101 < L := l0 _ (.head _)
  obtain ⟨hq1, hq2, hq3, hq4, hq5, hq6, hq7⟩ := ne101 hlt
  obtain ⟨o1, o2, o3, o4, o5, o6, o7, hE, d1, d2, d3, d4, d5, d6, d7⟩ := kc_seven Y
  subst hE
  clear Y l0
  replace d1 : o1.data = .cell none := d1
  replace d2 : o2.data = .cell none := d2
  replace d3 : o3.data = .cell none := d3
  replace d4 : o4.data = .cell none := d4
  replace d5 : o5.data = .cell none := d5
  replace d6 : o6.data = .cell none := d6
  replace d7 : o7.data = .cell (some (.ref t)) := d7
  (try simp only [List.cons_append, List.nil_append] at N)
  (try dsimp only)
  (try k_fold)
  (try dsimp only)
  k_steps
  unfold Hold
  rename IsRange _ _ _ _ _ _ _ _ => hr9
  rename Fr _ _ _ _ => F9
  rename News _ _ _ _ => N9
  rename EntIn _ _ _ _ _ => hE0
  rename_i aNm hA1 lNm hA2 o6n dq6 tkA l0 hA3 lA x0 nw0 hA4 tkB sB hA5 F8 N8 hA6 tkC tC1 tC2 tC3 kpC
  clear F8 N8 kpC
  generalize hU : (#[Value.str (Str.ofString "red") _, Value.str (Str.ofString "green") _, Value.str (Str.ofString "blue") _] : Array Value) = us0 at N9 hE0
  have hS0 : StrsAre us0.toList [Str.ofString "red", Str.ofString "green", Str.ofString "blue"] := by rw [← hU]; exact .cons _ _ (.cons _ _ (.cons _ _ .nil))
  have N10 : News (Zh s.heap) L hA6 ((L + 1 + 1 + 1 + 1 + 1 + 1 + 1, o1) :: (L + 1 + 1 + 1 + 1 + 1 + 1, o2) :: (L + 1 + 1 + 1 + 1 + 1, o3) :: (L + 1 + 1 + 1 + 1, o4) :: (L + 1 + 1 + 1, o5) :: (L + 1 + 1, o6n) :: (L + 1, o7) :: (101, tb) :: (aNm, W.listOf us0 0) :: nw0) :=
    news_sub2 N9 (by k_extra "mine sub")
  have O0 : OwnOff ((aNm, W.listOf us0 0) :: nw0) [101, L + 1 + 1 + 1 + 1 + 1 + 1 + 1, L + 1 + 1 + 1 + 1 + 1 + 1, L + 1 + 1 + 1 + 1 + 1, L + 1 + 1 + 1 + 1, L + 1 + 1 + 1, L + 1 + 1, L + 1] := by
    refine own_cons (fun b hb => ?_) (own_of sB ?_)
    · simp only [List.mem_cons, List.not_mem_nil, or_false] at hb
      rcases hb with rfl | rfl | rfl | rfl | rfl | rfl | rfl | rfl <;> k_ne
    · simp only [List.forall_mem_cons]
      exact ⟨⟨_, by k_extra "mine mem"⟩, ⟨_, by k_extra "mine mem"⟩, ⟨_, by k_extra "mine mem"⟩, ⟨_, by k_extra "mine mem"⟩, ⟨_, by k_extra "mine mem"⟩, ⟨_, by k_extra "mine mem"⟩, ⟨_, by k_extra "mine mem"⟩, ⟨_, by k_extra "mine mem"⟩, fun _ h => nomatch h⟩
  clear N9 sB lA lNm
  refine LCg.CompSrc.range rfl F9 N10 hr9 (by decide) (by first | rfl | decide) (Nat.le_of_ble_eq_true rfl) ?_
  intro g'
  refine rest_J (JL w (Zh s.heap) [(L + 1 + 1 + 1 + 1 + 1 + 1 + 1, o1), (L + 1 + 1 + 1 + 1 + 1 + 1, o2), (L + 1 + 1 + 1 + 1 + 1, o3), (L + 1 + 1 + 1 + 1, o4), (L + 1 + 1 + 1, o5), (L + 1 + 1, o6n), (L + 1, o7)] (rss0 tc) ((aNm, W.listOf us0 0) :: nw0))
    ?turn ?fin _ 0 [] _ (Nat.zero_add _) ⟨tb, o, _, rfl, hTK.mono (fun p hp => nomatch hp), LightsK.nil, O0, fun p hp => hp⟩
  case turn =>
    --B1
    rintro i v ys news I oI C oC D m2 h tk2 hv hi ⟨tb1, o', tail, rfl, TK, LL, OO, h0'⟩ hoC hm2 F3 N3 off ne
    obtain ⟨tv, rfl⟩ := hv
    have hi3 : i < 3 := hi
    clear F9 N10 O0 hi
    have n3 := (off3_app off).2.1
    have off9 := off
    simp only [List.cons_append, List.nil_append] at N3 off
    simp only [List.map_cons, List.map_nil] at OO
    (try dsimp only)
    k_steps
    rename Fr _ _ _ _ => F9
    rename News _ _ _ _ => N9
    rename RuleIn _ _ _ _ _ _ => hR
    rename TabK _ (_ ++ _) _ _ => hT
    rename EntIn _ _ _ _ _ => hE
    rename_i nw1 c1' tb1' hF1 tkF1 s1 D2' hF2 lF2 x2' nw2 hF3 tkF3 s2
    exact light_end [(L + 1 + 1 + 1 + 1 + 1 + 1 + 1, o1), (L + 1 + 1 + 1 + 1 + 1 + 1, o2), (L + 1 + 1 + 1 + 1 + 1, o3), (L + 1 + 1 + 1 + 1, o4), (L + 1 + 1 + 1, o5), (L + 1 + 1, o6n), (L + 1, o7)] (front := [_, _]) F9 N9 off9 (fun _ => trivial) sub_app2
      (sep_app2 (sep_fr (front := [_]) (hs := [_, _, _, _, _, _, _]) s1) (sep_fr (front := [_, _]) (hs := [_, _, _, _, _, _, _]) s2)) (hT.mono fun p hp => List.mem_append_left _ hp) (light_new hR hT hE) LL OO h0' (rss0_get hi3)
    --E1
  case fin =>
    rintro ys news ⟨tb1, o', tail, rfl, TK, LL, OO, h0'⟩
    clear F9 N10 O0
    simp only [List.map_cons, List.map_nil] at OO
    simp only [List.cons_append, List.nil_append]
    (try dsimp only)
    k_steps
    rename Fr _ _ _ _ => F9
    rename News _ _ _ _ => N9
    generalize (bindL _ _ _) = mb0 at F9
    rename_i D9 hB1 tkD o8 hB2 o5n dq5
    have N10 : News (Zh s.heap) L hB2 ((L + 1 + 1 + 1 + 1 + 1 + 1 + 1, o1) :: (L + 1 + 1 + 1 + 1 + 1 + 1, o2) :: (L + 1 + 1 + 1 + 1 + 1, o3) :: (L + 1 + 1 + 1 + 1, o4) :: (L + 1 + 1 + 1, o5n) :: (L + 1 + 1, o6n) :: (L + 1, o7) :: (101, tb1) :: ((D9, LCg.lst ys) :: tail)) :=
      news_sub2 N9 (by k_extra "mine sub")
    have OD : OwnOff ((D9, LCg.lst ys) :: tail) [101, L + 1 + 1 + 1 + 1 + 1 + 1 + 1, L + 1 + 1 + 1 + 1 + 1 + 1, L + 1 + 1 + 1 + 1 + 1, L + 1 + 1 + 1 + 1, L + 1 + 1 + 1, L + 1 + 1, L + 1] := by
      refine own_cons (fun b hb => ?_) OO
      simp only [List.mem_cons, List.not_mem_nil, or_false] at hb
      obtain ⟨n1, n2, n3, n4, n5, n6, n7, n8, -⟩ := o8
      rcases hb with rfl | rfl | rfl | rfl | rfl | rfl | rfl | rfl
      · exact Ne.symm n8
      · exact Ne.symm n1
      · exact Ne.symm n2
      · exact Ne.symm n3
      · exact Ne.symm n4
      · exact Ne.symm n5
      · exact Ne.symm n6
      · exact Ne.symm n7
    have hds : ColsAt (Zh s.heap) #[.ref r0, .ref r1, .ref r2] [c0, c1, c2] := ⟨rfl, fun i v hv => by
      match i, hv with
      | 0, hv => cases hv; exact ⟨r0, c0, rfl, rfl, h0⟩
      | 1, hv => cases hv; exact ⟨r1, c1, rfl, rfl, h1⟩
      | 2, hv => cases hv; exact ⟨r2, c2, rfl, rfl, h2⟩
      | i + 3, hv => simp at hv⟩
    clear N9
    refine iter_mine (n := n) (items := #[.ref r0, .ref r1, .ref r2]) (JT w (Zh s.heap) (L + 1 + 1 + 1 + 1 + 1 + 1 + 1) (L + 1 + 1 + 1 + 1 + 1 + 1) (L + 1 + 1 + 1 + 1 + 1) (L + 1 + 1 + 1 + 1) (L + 1 + 1 + 1) (L + 1 + 1) (L + 1) o6n o7 aNm us0 tc [c0, c1, c2])
      rfl F9 N10 ?j0 (fun _ _ _ _ => .inl hm) ?turn2 ?done2 (fun _ _ => rfl)
    case j0 =>
      refine ⟨mb0, x0, o1, o2, o3, o4, o5n, none, none, none, none, D9, ys.toArray, ys.length, tb1, o', _, us0, rfl, rfl, d1, d2, d3, d4, dq5, .head _, ?_, ?_, ?_, ?_, TK.mono (fun p hp => .tail _ hp), OD, .tail _ (h0' _ (.head _))⟩
      · have e : rss0 tc = rssT tc ([c0, c1, c2].take 0) := rfl
        rw [show (rss0 tc).take 3 = rss0 tc from rfl, e] at LL
        simpa using LL.mono fun p hp => .tail _ hp
      · exact hE0.mono fun p hp => .tail _ (h0' _ (.tail _ hp))
      · exact hS0
      · rw [← hU]; exact Nat.le_refl _
    case done2 =>
      --B3
      rintro m₁ news₁ h₃ tk₃ ⟨mb, eL, q7, q6, q5, q4, q3, v7, v6, v5, v4, aLt, lts, nl, tb2, o2', tail2, us, rfl, rfl, e7, e6, e5, e4, e3, hLt, LK, hE, hS, hz3, TK2, OO2, hNm⟩ F₃ N₃
      replace LK : LightsK w (Zh s.heap) tail2 lts.toList (rssT tc [c0, c1, c2]) := LK
      replace hS : StrsAre us.toList (leftT tc [c0, c1, c2]) := hS
      clear F9 N10 OD hTK d1 d2 d3 d4 d5 d6 dq5 LL OO TK h0' hE0 hNm
      obtain ⟨led, N₄, hsub, h101, d3⟩ : ∃ led, News (Zh s.heap) L h₃ led ∧ (∀ p ∈ tail2, p ∈ led) ∧ ((101 : Addr), tb2) ∈ led ∧ ((L + 1 + 1 + 1 : Addr), q3) ∈ led := ⟨_, N₃, fun p hp => by k_extra "mine tl", by k_extra "mine mem", by k_extra "mine mem"⟩
      replace LK := LK.mono hsub
      replace hLt := hsub _ hLt
      replace TK2 := TK2.mono hsub
      clear N₃ e7 e6 e5 e4
      have hlz : lts.size = 3 := by have h := LK.1; rw [show (rssT tc [c0, c1, c2]).length = 3 from rfl] at h; simpa using h
      obtain ⟨dL, lu, lr, y1, y2, y3, y4, nL, nL1, nL2, hE1, hE2, hE3, hE4⟩ := hE
      (try dsimp only)
      have nlu : lu ≠ 101 := OO2 _ hE3 101 (.head _)
      replace hE1 := hsub _ hE1
      replace hE2 := hsub _ hE2
      replace hE3 := hsub _ hE3
      clear hE4 OO2
      k_steps
      unfold Hold
      rename Fr _ _ _ _ => F4
      rename News _ _ _ _ => N4
      refine LCg.CompSrc.ledger (its := lts) (k := nl) rfl F4 N4 (by k_extra "mine mem") (by rw [hlz, sizeLine_eq]; decide) ?_
      intro g4'
      refine rest_F (fun i ys => IntsAre ys ((List.range i).map (bestV tc c0 c1 c2))) ?turnB ?finB _ 0 [] (Nat.zero_add _) .nil
      case turnB =>
        rintro i v ys3 I oI C3 oC D m2 h5 tk5 hv hi hys hoC hm2 F5 N5 off5 ne5
        obtain ⟨rs, hrs, e, vs, rfl, hEn, hvz, hK⟩ := LK.2 i v (by simpa using hv)
        obtain ⟨d, lu', lr', w1, w2, w3, w4, n', n1', n2', m1, m2', m3, m4⟩ := id hEn
        have hrl := congrArg List.length (rssT_at hrs)
        clear F4 N4
        (try dsimp only)
        k_steps
        unfold Hold
        refine LCt.CompSrcT.ledger (its := vs) (k := n2') rfl F5 N5 (by k_extra "mine mem") (by rw [hvz, hrl, sizeLine_eq]; exact Nat.le_of_ble_eq_true rfl) ?_
        intro g5'
        refine restT_F (fun i6 ys6 => IntsAre ys6 (((rs.take i6).filter (·.2)).map (·.1))) ?turnC ?finC _ 0 [] (Nat.zero_add _) .nil
        case turnC =>
          rintro i6 v6 ys6 I6 oI6 C6 oC6 D6 m6 h6 tk6 hv6 hi6 hys6 hoC6 hm6 F6 N6 off6 ne6
          obtain ⟨x, r, rfl, hri, hRK⟩ := hK i6 v6 hv6
          obtain ⟨d', lu6, lr6, z1, z2, z3, z4, z5, z6, n6, f, b1, b2, b3⟩ := hRK.open
          obtain ⟨lc, lpm, lc', lctv, loc, ltr, hfo, -⟩ := id b3
          clear F5 N5
          (try dsimp only)
          k_steps
          all_goals
            rename (r.snd = _) => hr9
            rw [true_step hri]
          · rw [if_pos hr9]
            exact IntsAre.append hys6 (.cons _ _ .nil)
          · rw [if_neg (by rw [hr9]; exact Bool.false_ne_true), List.append_nil]
            exact hys6
        case finC =>
          intro ys6 hys6
          replace hys6 : IntsAre ys6 [pj i c0 - topC tc c0 + 7, pj i c1 - topC tc c1 + 7, pj i c2 - topC tc c2 + 7] := by rw [hvz, List.take_length, rssT_at hrs] at hys6; exact hys6
          clear F5 N5
          (try dsimp only)
          k_steps
          rename Fr _ _ _ _ => F9
          rename News _ _ _ _ => N9
          rename (_ = _ ∨ _ = _ ∨ _ = _) => ha
          rename (_ ≤ _ ∧ _ ≤ _ ∧ _ ≤ _) => hb
          refine LCg.CompEnd.intro F9 N9 _ (fun p hp => .tail _ hp) off5 (src_in (n := nl) (by k_extra "mine mem")) ⟨rfl, ?_⟩
          rw [range_snoc, ← bestV_of ha hb]
          exact IntsAre.append hys (.cons _ _ .nil)
      case finB =>
        intro ys3 hys
        replace hys : IntsAre ys3 [bestV tc c0 c1 c2 0, bestV tc c0 c1 c2 1, bestV tc c0 c1 c2 2] := by rw [hlz] at hys; exact hys
        have hpos := rss_pos hbd htc
        clear F4 N4
        (try dsimp only)
        k_steps
        unfold Hold
        rename Fr _ _ _ _ => F7
        rename News _ _ _ _ => N7
        rename_i aB hB tkB oB
        refine LCg.CompSrc.ledger (its := lts) (k := nl) rfl F7 N7 (by k_extra "mine mem") (by rw [hlz, sizeLine_eq]; decide) ?_
        intro g7'
        refine rest_F (fun i ys => ys = (List.range i).map fun j => Value.bool (decide (bestV tc c0 c1 c2 j = pj j tc))) ?turnA ?finA _ 0 [] (Nat.zero_add _) rfl
        case turnA =>
          rintro i7 v7 ys7 I7 oI7 C7 oC7 D7 m7 h7 tk7 hv7 hi7 hys7 hoC7 hm7 F8 N8 off7 ne7
          obtain ⟨rs, hrs, e, vs, rfl, hEn, hvz, hK⟩ := LK.2 i7 v7 (by simpa using hv7)
          obtain ⟨d, lu', lr', w1, w2, w3, w4, n', n1', n2', m1, m2', m3, m4⟩ := id hEn
          have hKK : RulesK w (Zh s.heap) led vs rs := ⟨hvz, hK⟩
          have hrp := hpos _ (List.mem_of_getElem? hrs)
          clear F7 N7
          (try dsimp only)
          k_steps
          rw [range_snoc, ← hys7, allow_val hrs hrp]
        case finA =>
          intro ys7 hys7
          rw [hlz] at hys7
          subst hys7
          clear F7 N7
          (try dsimp only)
          k_steps
          rename Fr _ _ _ _ => F9
          rename News _ _ _ _ => N9
          rename_i aA hA tkA oA aT hT lT
          have GT9 : GT w hT o2' := gt_of hz GG C F9 N9 (by k_extra "mine mem") (TK2.mono (fun p hp => by k_extra "mine tl"))
          refine k aT lu aA aB us ys3.toArray nL1 ((List.range 3).map fun j => Value.bool (decide (bestV tc c0 c1 c2 j = pj j tc))).length ys3.length o2' hT _ (zh_kp F9) GT9 ?_ hS (by simpa using hys)
          simp only [List.forall_mem_cons]
          exact ⟨new_of N9 (by k_extra "mine mem") (by k_ne), new_of N9 (by k_extra "mine mem") nlu, new_of N9 (by k_extra "mine mem") (by k_ne), new_of N9 (by k_extra "mine mem") (by k_ne), fun _ h => nomatch h⟩
      --E3
    case turn2 =>
      --B2
      rintro i v m₁ news₁ I1 oI1 h₂ tk₂ hv ⟨mb, eL, q7, q6, q5, q4, q3, v7, v6, v5, v4, aLt, lts, nl, tb2, o2', tail2, us, rfl, rfl, e7, e6, e5, e4, e3, hLt, LK, hE, hS, hz3, TK2, OO2, hNm⟩ F₂ N₂ sep
      obtain ⟨rc, col, rfl, hci, cvs, ce, hcg, hcI⟩ := hds.2 i v hv
      have hcl : (Zh s.heap).IsList rc cvs := ⟨_, hcg, rfl, ce, rfl⟩
      clear F9 N10 OD hTK d1 d2 d3 d4 d5 d6 dq5 LL OO TK h0' hE0
      have sp := off1_of sep
      have hcb := hbd col (List.mem_of_getElem? hci)
      refine wpAny_assign_Name ?_
      (try dsimp only)
      k_steps
      unfold Hold
      rename IsRange _ _ _ _ _ _ _ _ => hr9
      rename Fr _ _ _ _ => F9
      rename News _ _ _ _ => N9
      rename (_ = Data.cell (some (Value.float (hlsS _ _ _) _))) => dS
      rename (_ = degI _ _ _) => hD
      rename (_ = max _ (max _ _)) => hTop
      rename (_ = Data.cell (some (Value.int (_ - 3) _))) => dTop
      rename (_ = Data.cell (some (Value.ref rc))) => dCol
      have ff := ff_at' dS (by with_reducible assumption) (by with_reducible assumption) (by with_reducible assumption) hcb
      rename_i dDeg _ _ _ _ _ _ _ _ _ _ _ _ _ F8 N8 hA1 _ _ _ _ kpA
      obtain ⟨p7, p6, p5, p4, xx, yy, zz, nD, nT, u1, u2, u3, dTop, dDeg, dDep, dCol, hD, hT9, ff, N10⟩ : ∃ (p7 p6 p5 p4 : Obj) (x y z : UInt64) (nD nT : Int) (t1 t2 t3 : Tok), p7.data = .cell (some (.int (nT - 3) t1)) ∧ p6.data = .cell (some (.int nD t2)) ∧ p5.data = .cell (some (.float (hlsS x y z) t3)) ∧ p4.data = .cell (some (.ref rc)) ∧
          nD = degI x y z ∧ nT - 3 = topC tc col ∧ FF x y z (col.1 - tc.1 + 3) (col.2.1 - tc.2.1 + 3) (col.2.2 - tc.2.2 + 3) ∧
          News (Zh s.heap) L hA1 ((I1, oI1) :: (L + 1 + 1 + 1 + 1 + 1 + 1 + 1, p7) :: (L + 1 + 1 + 1 + 1 + 1 + 1, p6) :: (L + 1 + 1 + 1 + 1 + 1, p5) :: (L + 1 + 1 + 1 + 1, p4) :: (L + 1 + 1 + 1, q3) :: (L + 1 + 1, o6n) :: (L + 1, o7) :: (101, tb2) :: tail2) :=
        ⟨_, _, _, _, _, _, _, _, _, _, _, _, dTop, dDeg, dS, dCol, hD, top_eq hTop, ff, news_sub2 N9 (by k_extra "mine sub")⟩
      clear F8 N8 kpA N9 e7 e6 e5 e4
      refine LCt.CompSrcT.range rfl F9 N10 hr9 (by decide) (by first | rfl | decide) (Nat.le_of_ble_eq_true rfl) ?_
      intro g2'
      refine restT_F (fun i2 ys2 => StrsAre ys2 (undK tc col i2)) ?turnU ?finU _ 0 [] (Nat.zero_add _) .nil
      case turnU =>
        rintro i2 v2 ys2 I2 oI2 C2 oC2 D2 m2 h4 tk4 hv2 hi2 hys2 hoC2 hm2 F5 N5 off5 ne5
        obtain ⟨tv2, rfl⟩ := hv2
        replace hi2 : i2 < 3 := hi2
        clear F9 N10
        (try dsimp only)
        k_steps
        · rename (_ != _) = true => c1
          rename (_ < Int.fmod _ _) => c2
          rename ([_, _, _][i2]? = _) => c3
          exact und_yes ff hD c1 c2 c3 hys2
        · rename (_ != _) = true => c1
          rename (¬ _) => c2
          exact und_no ff hD (.inr c2) hi2 hys2
        · rename (_ != _) = false => c1
          exact und_no ff hD (.inl c1) hi2 hys2
      case finU =>
        intro ys2 hys2
        have hS9 : StrsAre ys2.toArray.toList (undK tc col 3) := by simpa using hys2
        have hz9 : ys2.toArray.size ≤ 1000 := by have h1 := strs_len hS9; have h2 := und_len tc col 3; rw [← h1] at h2; simpa using Nat.le_trans h2 (by decide : 3 ≤ 1000)
        have hz8 : us.size ≤ 1000 := by omega
        clear F9 N10 hr9
        (try dsimp only)
        k_steps
        unfold Hold
        rename IsRange _ _ _ _ _ _ _ _ => hr9
        rename Fr _ _ _ _ => F9
        rename News _ _ _ _ => N9
        rename_i aE hU2 lE xR nwR hU3 tkR sR eR xM nwM usM hU4 tkM sM eM lM hU5 F8 N8 hU6 tkU6 tU1 tU2 tU3 kpU
        have N10 : News (Zh s.heap) L hU6 ((I1, oI1) :: (L + 1 + 1 + 1 + 1 + 1 + 1 + 1, p7) :: (L + 1 + 1 + 1 + 1 + 1 + 1, p6) :: (L + 1 + 1 + 1 + 1 + 1, p5) :: (L + 1 + 1 + 1 + 1, p4) :: (L + 1 + 1 + 1, q3) :: (L + 1 + 1, o6n) :: (L + 1, o7) :: (101, tb2) :: ((tail2 ++ nwR) ++ nwM)) := news_sub2 N9 (by k_extra "mine sub")
        have O3 : OwnOff ((tail2 ++ nwR) ++ nwM) [101, I1, L + 1 + 1 + 1 + 1 + 1 + 1 + 1, L + 1 + 1 + 1 + 1 + 1 + 1, L + 1 + 1 + 1 + 1 + 1, L + 1 + 1 + 1 + 1, L + 1 + 1 + 1, L + 1 + 1, L + 1] :=
          own_app2 (own_ins OO2 (fun p hp => sep p (by k_extra "mine tl"))) (sep_f2 (front := [_, _]) (hs := [_, _, _, _, _, _, _, _]) sR) (sep_f2 (front := [_, _]) (hs := [_, _, _, _, _, _, _, _]) sM)
        clear F8 N8 kpU N9 sR sM lE
        refine LCg.CompSrc.range rfl F9 N10 hr9 (by decide) (by first | rfl | decide) (Nat.le_of_ble_eq_true rfl) ?_
        intro g3'
        refine rest_J (JL w (Zh s.heap) [(I1, oI1), (L + 1 + 1 + 1 + 1 + 1 + 1 + 1, p7), (L + 1 + 1 + 1 + 1 + 1 + 1, p6), (L + 1 + 1 + 1 + 1 + 1, p5), (L + 1 + 1 + 1 + 1, p4), (L + 1 + 1 + 1, q3), (L + 1 + 1, o6n), (L + 1, o7)] (rssT tc ([c0, c1, c2].take i ++ [col])) ((tail2 ++ nwR) ++ nwM))
          ?turnL ?finL _ 0 [] _ (Nat.zero_add _) ⟨tb2, o2', _, rfl, TK2.mono sub_app2, LightsK.nil, O3, fun p hp => hp⟩
        case turnL =>
          rintro i3 v3 ys3 news3 I3 oI3 C3 oC3 D3 m3 h5 tk5 hv3 hi3 ⟨tb3, o3', tail3, rfl, TK3, LL3, OO3, h3'⟩ hoC3 hm3 F5 N5 off5 ne5
          obtain ⟨tv3, rfl⟩ := hv3
          replace hi3 : i3 < 3 := hi3
          have LK3 := LK.mono (fun p hp => h3' p (sub_app2 p hp))
          have hLt3 := h3' _ (sub_app2 _ hLt)
          have hz7 := rssT_len (tc := tc) (ds := [c0, c1, c2].take i) (by simp; omega)
          clear F9 N10 O3 LK hLt hr9 TK2 OO2
          have n3 := (off3_app off5).2.1
          have n9 : (@Ne Nat 101 I1) := sp.2.2.2.2.2.2.2.1
          clear sp sep
          have off9 := off5
          simp only [List.cons_append, List.nil_append] at N5 off5
          simp only [List.map_cons, List.map_nil] at OO3
          (try dsimp only)
          k_steps
          rename Fr _ _ _ _ => F9
          rename News _ _ _ _ => N9
          rename_i e9 vs9 rs9 hr9 hE9 hz9' hK9 l1 hG1 lt1 cE1 t1 x1 nw1 c1 tb9 hG2 tkG2 s1 hR hT l2 hG3 lt2 x2 nw2 hG4 tkG4 s2 hE2 x3 nw3 us3 hG5 tkG5 s3 hE3 hS3
          exact light_end [(I1, oI1), (L + 1 + 1 + 1 + 1 + 1 + 1 + 1, p7), (L + 1 + 1 + 1 + 1 + 1 + 1, p6), (L + 1 + 1 + 1 + 1 + 1, p5), (L + 1 + 1 + 1 + 1, p4), (L + 1 + 1 + 1, q3), (L + 1 + 1, o6n), (L + 1, o7)] (front := [_, _]) F9 N9 off9 (fun _ => trivial) sub_app3
            (sep_app3 (sep_fr (front := [_]) (hs := [_, _, _, _, _, _, _, _]) s1) (sep_fr (front := [_, _]) (hs := [_, _, _, _, _, _, _, _]) s2) (sep_fr (front := [_, _]) (hs := [_, _, _, _, _, _, _, _]) s3))
            (hT.mono fun p hp => List.mem_append_left _ (List.mem_append_left _ hp)) (light_snoc hK9 hR hT hE3 hS3 (by rw [hT9])) LL3 OO3 h3' (rssT_get hi3 hr9)
        case finL =>
          rintro ys3 news3 ⟨tb3, o3', tail3, rfl, TK3, LL3, OO3, h3'⟩
          clear F9 N10 hr9 O3
          simp only [List.map_cons, List.map_nil] at OO3
          simp only [List.cons_append, List.nil_append]
          have sp' : ∀ a ∈ ([101, L + 1 + 1 + 1 + 1 + 1 + 1 + 1, L + 1 + 1 + 1 + 1 + 1 + 1, L + 1 + 1 + 1 + 1 + 1, L + 1 + 1 + 1 + 1, L + 1 + 1 + 1, L + 1 + 1, L + 1] : List Addr), a ≠ I1 := by
            obtain ⟨n1, n2, n3, n4, n5, n6, n7, n8, -⟩ := sp
            simp only [List.forall_mem_cons]
            exact ⟨n8, n1, n2, n3, n4, n5, n6, n7, fun _ h => nomatch h⟩
          (try dsimp only)
          k_steps
          rename Fr _ _ _ _ => F9
          rename News _ _ _ _ => N9
          rename LCg.Off1 _ _ => o8
          rename (_ = Data.cell (some (Value.ref _))) => d3
          exact turn_end F9 N9 o8 sp' dTop dDeg dDep dCol d3 hci LL3 (eM.mono fun p hp => h3' p (List.mem_append_right _ hp)) lM TK3 OO3 (h3' _ (sub_app2 _ hNm))
      --E2

theorem typeCall_zip_3 (a b c : Value) : checkTypeCall "zip" ⟨[a, b, c], []⟩ = pure () := by kernel_rfl
theorem newCall_zip_3 (a b c : Value) : checkBuiltinCall "zip.__new__" ⟨[.type "zip", a, b, c], []⟩ = pure () := by kernel_rfl
theorem args_object_init_4 (a b c d : Value) : argsOk "object.__init__" ⟨[a, b, c, d], []⟩ := by
  unfold argsOk; rw [signature?_of (id := "object.__init__") (n := ['_', '_', 't', 'i', 'n', 'i', '_', '_']) (o := ['t', 'c', 'e', 'j', 'b', 'o']) (by kernel_rfl) PySem.F.owner_object]; kernel_rfl
abbrev IsTrip (h : Heap) (T : Addr) (a b c : Value) : Prop := h.get? T = some { cls := .type "tuple", data := .seq #[a, b, c] }
section
variable {prog : Program} {w : World} {A : Around} {E : Value → Shared → Prop} {s : Shared}
theorem updateSeq_trip {T : Addr} {a b c x : Value} {k : Nat} {Q : Unit → Shared → Prop} (hT : IsTrip s.heap T a b c)
    (h : ∀ h', h'.get? T = some { cls := .type "tuple", data := .seq ((#[a, b, c] : Array Value).setIfInBounds k x) } → Heap.SameBut T s.heap h' → Q () { s with heap := h' }) :
    wpAny (model prog w) A (updateSeq T (·.setIfInBounds k x)) Q E s := by
  refine wpAny_updateSeq hT rfl (h _ ?_ (Heap.SameBut.update ..))
  rw [Heap.get?_update_self _ hT rfl]
  simp [Obj.mapSeq]
structure ZipApart3 (z TI TO i1 i2 i3 l1 l2 l3 : Addr) : Prop where
  TIz : TI ≠ z
  TOz : TO ≠ z
  i1z : i1 ≠ z
  i2z : i2 ≠ z
  i3z : i3 ≠ z
  TITO : TI ≠ TO
  TIi1 : TI ≠ i1
  TIi2 : TI ≠ i2
  TIi3 : TI ≠ i3
  TOi1 : TO ≠ i1
  TOi2 : TO ≠ i2
  TOi3 : TO ≠ i3
  i12 : i1 ≠ i2
  i13 : i1 ≠ i3
  i23 : i2 ≠ i3
  l1w : ∀ b ∈ [z, TO, i1, i2, i3], l1 ≠ b
  l2w : ∀ b ∈ [z, TO, i1, i2, i3], l2 ≠ b
  l3w : ∀ b ∈ [z, TO, i1, i2, i3], l3 ≠ b

theorem zip3_next_item {z TI TO i1 i2 i3 l1 l2 l3 : Addr} {k : Nat} {xs ys us : Array Value} {x y u a b c : Value} {Q : Value → Shared → Prop} (D : ZipApart3 z TI TO i1 i2 i3 l1 l2 l3)
    (hz : IsZip s.heap z TI TO .none) (hTI : IsTrip s.heap TI (.ref i1) (.ref i2) (.ref i3)) (hTO : IsTrip s.heap TO a b c)
    (h1 : s.heap.IsListIter i1 l1 k) (h2 : s.heap.IsListIter i2 l2 k) (h3 : s.heap.IsListIter i3 l3 k) (hl1 : s.heap.IsList l1 xs) (hl2 : s.heap.IsList l2 ys) (hl3 : s.heap.IsList l3 us) (hx : xs[k]? = some x) (hy : ys[k]? = some y) (hu : us[k]? = some u)
    (hQ : ∀ h', IsZip h' z TI TO (rawInt s.heap.objs.size) → IsTrip h' TO x y u → h'.IsListIter i1 l1 (k + 1) → h'.IsListIter i2 l2 (k + 1) → h'.IsListIter i3 l3 (k + 1) → IsTrip h' s.heap.objs.size x y u →
      (∀ c o, c ∉ [z, TO, i1, i2, i3] → s.heap.get? c = some o → h'.get? c = some o) → Q (.ref s.heap.objs.size) { s with heap := h' }) :
    wpAny (model prog w) A (Builtin.«zip.__next__» ⟨[.ref z], []⟩) (fun fin s' => ∃ v, fin = .done (.ret v) ∧ Q v s') E s := by
  show wpAny _ _ (field (.ref z) 2 >>= _) _ _ _
  refine wpAny_bind (wpAny_field hz rfl (x := .bool false) rfl ?_)
  show wpAny _ _ (field (.ref z) 3 >>= _) _ _ _
  refine wpAny_bind (wpAny_field hz rfl (x := .ref TI) rfl ?_)
  refine wpAny_bind (wpAny_seqItems hTI rfl ?_)
  show wpAny _ _ (Builtin.SmallTypes.ownedTupleIsFree (.ref z) >>= _) _ _ _
  refine wpAny_bind ?_
  unfold Builtin.SmallTypes.ownedTupleIsFree
  refine wpAny_bind (wpAny_field hz rfl (x := .none) rfl (wpAny_pure ?_))
  simp only [if_true]
  refine wpAny_bind (wpAny_rule ?_)
  refine wpAny_bind (wpAny_field hz rfl (x := .ref TO) rfl ?_)
  refine wpAny_bind (wpAny_setField_rec hz (by simp) fun g₁ hz₁ hs₁ => ?_)
  replace hz₁ : IsZip g₁ z TI TO .ellipsis := hz₁
  refine wpAny_bind ?_
  simp only [List.zipIdx_cons, List.zipIdx_nil, List.forIn_cons, List.forIn_nil]
  have m : ∀ {l b : Addr}, (∀ b ∈ [z, TO, i1, i2, i3], l ≠ b) → b ∈ [z, TO, i1, i2, i3] → l ≠ b := fun h hb => h _ hb
  have lz : z ∈ [z, TO, i1, i2, i3] := by simp
  have lT : TO ∈ [z, TO, i1, i2, i3] := by simp
  have le1 : i1 ∈ [z, TO, i1, i2, i3] := by simp
  have le2 : i2 ∈ [z, TO, i1, i2, i3] := by simp
  have le3 : i3 ∈ [z, TO, i1, i2, i3] := by simp
  -- first
  refine wpAny_bind (wpAny_bind (wpAny_onRaise ?_))
  show wpAny _ _ (Builtin.SmallTypes.nextOf (.ref i1) >>= _) _ _ _
  refine wpAny_bind (wpAny_nextOf_list_item (h1.extBut hs₁.extBut D.i1z) (hl1.extBut hs₁.extBut (m D.l1w lz)) hx fun g₂ h1₂ hs₂ => wpAny_pure ?_)
  have hTO₂ : IsTrip g₂ TO a b c := hs₂.extBut _ _ D.TOi1 (hs₁.extBut _ _ D.TOz hTO)
  refine wpAny_bind (wpAny_seqItems hTO₂ rfl ?_)
  refine wpAny_bind (updateSeq_trip hTO₂ fun g₃ hTO₃ hs₃ => ?_)
  replace hTO₃ : IsTrip g₃ TO x b c := hTO₃
  refine wpAny_bind (wpAny_letGo (wpAny_pure ?_))
  have s3 : ∀ e o, e ≠ z → e ≠ TO → e ≠ i1 → s.heap.get? e = some o → g₃.get? e = some o := fun e o e1 e2 e3 q => hs₃.extBut _ _ e2 (hs₂.extBut _ _ e3 (hs₁.extBut _ _ e1 q))
  have hz₃ : IsZip g₃ z TI TO .ellipsis := hs₃.extBut _ _ D.TOz.symm (hs₂.extBut _ _ D.i1z.symm hz₁)
  have h1₃ : g₃.IsListIter i1 l1 (k + 1) := h1₂.extBut hs₃.extBut D.TOi1.symm
  -- second
  refine wpAny_bind (wpAny_bind (wpAny_onRaise ?_))
  show wpAny _ _ (Builtin.SmallTypes.nextOf (.ref i2) >>= _) _ _ _
  refine wpAny_bind (wpAny_nextOf_list_item (h2.at fun o e => s3 _ o D.i2z D.TOi2.symm D.i12.symm e) (hl2.at fun o e => s3 _ o (m D.l2w lz) (m D.l2w lT) (m D.l2w le1) e) hy fun g₄ h2₄ hs₄ => wpAny_pure ?_)
  have hTO₄ : IsTrip g₄ TO x b c := hs₄.extBut _ _ D.TOi2 hTO₃
  refine wpAny_bind (wpAny_seqItems hTO₄ rfl ?_)
  refine wpAny_bind (updateSeq_trip hTO₄ fun g₅ hTO₅ hs₅ => ?_)
  replace hTO₅ : IsTrip g₅ TO x y c := hTO₅
  refine wpAny_bind (wpAny_letGo (wpAny_pure ?_))
  have s5 : ∀ e o, e ≠ z → e ≠ TO → e ≠ i1 → e ≠ i2 → s.heap.get? e = some o → g₅.get? e = some o := fun e o e1 e2 e3 e4 q => hs₅.extBut _ _ e2 (hs₄.extBut _ _ e4 (s3 e o e1 e2 e3 q))
  have hz₅ : IsZip g₅ z TI TO .ellipsis := hs₅.extBut _ _ D.TOz.symm (hs₄.extBut _ _ D.i2z.symm hz₃)
  have h1₅ : g₅.IsListIter i1 l1 (k + 1) := (h1₃.extBut hs₄.extBut D.i12).extBut hs₅.extBut D.TOi1.symm
  have h2₅ : g₅.IsListIter i2 l2 (k + 1) := h2₄.extBut hs₅.extBut D.TOi2.symm
  -- third
  refine wpAny_bind (wpAny_bind (wpAny_onRaise ?_))
  show wpAny _ _ (Builtin.SmallTypes.nextOf (.ref i3) >>= _) _ _ _
  refine wpAny_bind (wpAny_nextOf_list_item (h3.at fun o e => s5 _ o D.i3z D.TOi3.symm D.i13.symm D.i23.symm e) (hl3.at fun o e => s5 _ o (m D.l3w lz) (m D.l3w lT) (m D.l3w le1) (m D.l3w le2) e) hu fun g₆ h3₆ hs₆ => wpAny_pure ?_)
  have hTO₆ : IsTrip g₆ TO x y c := hs₆.extBut _ _ D.TOi3 hTO₅
  refine wpAny_bind (wpAny_seqItems hTO₆ rfl ?_)
  refine wpAny_bind (updateSeq_trip hTO₆ fun g₇ hTO₇ hs₇ => ?_)
  replace hTO₇ : IsTrip g₇ TO x y u := hTO₇
  refine wpAny_bind (wpAny_letGo (wpAny_pure (wpAny_pure ?_)))
  have hk₇ : ∀ e o, e ∉ [z, TO, i1, i2, i3] → s.heap.get? e = some o → g₇.get? e = some o := fun e o he q => by
    simp only [List.mem_cons, List.not_mem_nil, or_false, not_or] at he
    obtain ⟨e1, e2, e3, e4, e5⟩ := he
    exact hs₇.extBut _ _ e2 (hs₆.extBut _ _ e5 (s5 e o e1 e2 e3 e4 q))
  have hz₇ : IsZip g₇ z TI TO .ellipsis := hs₇.extBut _ _ D.TOz.symm (hs₆.extBut _ _ D.i3z.symm hz₅)
  have h1₇ : g₇.IsListIter i1 l1 (k + 1) := (h1₅.extBut hs₆.extBut D.i13).extBut hs₇.extBut D.TOi1.symm
  have h2₇ : g₇.IsListIter i2 l2 (k + 1) := (h2₅.extBut hs₆.extBut D.i23).extBut hs₇.extBut D.TOi2.symm
  have h3₇ : g₇.IsListIter i3 l3 (k + 1) := h3₆.extBut hs₇.extBut D.TOi3.symm
  refine wpAny_bind (wpAny_seqItems hTO₇ rfl ?_)
  refine wpAny_bind (wpAny_newTuple ?_)
  have hsz : g₇.objs.size = s.heap.objs.size := by rw [hs₇.1, hs₆.1, hs₅.1, hs₄.1, hs₃.1, hs₂.1, hs₁.1]
  have hzlt : z < g₇.objs.size := Heap.lt_size hz₇
  show wpAny _ _ (Builtin.SmallTypes.ownedTupleHandOut (.ref z) (.ref g₇.objs.size) >>= _) _ _ _
  refine wpAny_bind ?_
  unfold Builtin.SmallTypes.ownedTupleHandOut
  have hz₈ : IsZip (g₇.push { cls := .type "tuple", data := .seq #[x, y, u] }) z TI TO .ellipsis := Heap.get?_push_of_some _ hz₇
  refine wpAny_bind (wpAny_setField_rec hz₈ (by simp) fun g₉ hz₉ hs₉ => ?_)
  replace hz₉ : IsZip g₉ z TI TO (rawInt g₇.objs.size) := hz₉
  refine wpAny_setField_rec hz₉ (by simp) fun ga hza hsa => ?_
  replace hza : IsZip ga z TI TO (rawInt g₇.objs.size) := hza
  have up : ∀ e o, e ≠ z → g₇.get? e = some o → ga.get? e = some o := fun e o e1 q => hsa.extBut _ _ e1 (hs₉.extBut _ _ e1 (Heap.get?_push_of_some _ q))
  have hTa : IsTrip ga g₇.objs.size x y u := hsa.extBut _ _ (Nat.ne_of_gt hzlt) (hs₉.extBut _ _ (Nat.ne_of_gt hzlt) (Heap.get?_push_size _ rfl))
  rw [hsz] at hza hTa
  refine wpAny_pure ⟨_, rfl, ?_⟩
  show Q (.ref g₇.objs.size) _
  rw [hsz]
  exact hQ ga hza (up _ _ D.TOz hTO₇) (h1₇.at fun o e => up _ o D.i1z e) (h2₇.at fun o e => up _ o D.i2z e) (h3₇.at fun o e => up _ o D.i3z e) hTa fun e o he q => up e o (fun h => he (by simp [h])) (hk₇ e o he q)

theorem zip3_next_end {z TI TO i1 i2 i3 l1 l2 l3 : Addr} {k : Nat} {xs : Array Value} {Q : Fin → Shared → Prop} (hh : A.handled = none) (D : ZipApart3 z TI TO i1 i2 i3 l1 l2 l3)
    (hz : IsZip s.heap z TI TO .none) (hTI : IsTrip s.heap TI (.ref i1) (.ref i2) (.ref i3)) (h1 : s.heap.IsListIter i1 l1 k) (hl1 : s.heap.IsList l1 xs) (hx : xs[k]? = none)
    (hE : ∀ h' e, (∀ c o, c ∉ [z, TO, i1, i2, i3] → s.heap.get? c = some o → h'.get? c = some o) → (∃ o, h'.get? e = some o ∧ o.cls = .type "StopIteration") → E (.ref e) { s with heap := h' }) :
    wpAny (model prog w) A (Builtin.«zip.__next__» ⟨[.ref z], []⟩) Q E s := by
  show wpAny _ _ (field (.ref z) 2 >>= _) _ _ _
  refine wpAny_bind (wpAny_field hz rfl (x := .bool false) rfl ?_)
  show wpAny _ _ (field (.ref z) 3 >>= _) _ _ _
  refine wpAny_bind (wpAny_field hz rfl (x := .ref TI) rfl ?_)
  refine wpAny_bind (wpAny_seqItems hTI rfl ?_)
  show wpAny _ _ (Builtin.SmallTypes.ownedTupleIsFree (.ref z) >>= _) _ _ _
  refine wpAny_bind ?_
  unfold Builtin.SmallTypes.ownedTupleIsFree
  refine wpAny_bind (wpAny_field hz rfl (x := .none) rfl (wpAny_pure ?_))
  simp only [if_true]
  refine wpAny_bind (wpAny_rule ?_)
  refine wpAny_bind (wpAny_field hz rfl (x := .ref TO) rfl ?_)
  refine wpAny_bind (wpAny_setField_rec hz (by simp) fun g₁ hz₁ hs₁ => ?_)
  replace hz₁ : IsZip g₁ z TI TO .ellipsis := hz₁
  refine wpAny_bind ?_
  simp only [List.zipIdx_cons, List.zipIdx_nil, List.forIn_cons, List.forIn_nil]
  refine wpAny_bind (wpAny_bind (wpAny_onRaise ?_))
  show wpAny _ _ (Builtin.SmallTypes.nextOf (.ref i1) >>= _) _ _ _
  refine wpAny_bind (wpAny_nextOf_list_end hh (h1.extBut hs₁.extBut D.i1z) (hl1.extBut hs₁.extBut (D.l1w _ (by simp))) hx fun g₂ e hs₂ he => ?_)
  obtain ⟨oe, hoe, hce⟩ := he
  have hz₂ : IsZip g₂ z TI TO .ellipsis := hs₂ _ _ D.i1z.symm hz₁
  have hez : e ≠ z := fun x => by subst x; rw [hz₂] at hoe; cases hoe; simp at hce
  refine wpAny_setField_rec hz₂ (by simp) fun g₃ _ hs₃ => hE g₃ e (fun c o hc q => ?_) ⟨oe, hs₃.extBut _ _ hez hoe, hce⟩
  simp only [List.mem_cons, List.not_mem_nil, or_false, not_or] at hc
  exact hs₃.extBut _ _ hc.1 (hs₂ _ _ hc.2.2.1 (hs₁.extBut _ _ hc.1 q))

abbrev z3H1 (h : Heap) (l1 : Addr) : Heap := h.push { cls := .type "list_iterator", data := .fields #[.ref l1, .int 0 0] }
abbrev z3H2 (h : Heap) (l1 l2 : Addr) : Heap := (z3H1 h l1).push { cls := .type "list_iterator", data := .fields #[.ref l2, .int 0 0] }
abbrev z3H3 (h : Heap) (l1 l2 l3 : Addr) : Heap := (z3H2 h l1 l2).push { cls := .type "list_iterator", data := .fields #[.ref l3, .int 0 0] }
abbrev z3H4 (h : Heap) (l1 l2 l3 : Addr) : Heap := (z3H3 h l1 l2 l3).push { cls := .type "tuple", data := .seq #[.ref h.objs.size, .ref (z3H1 h l1).objs.size, .ref (z3H2 h l1 l2).objs.size] }
abbrev z3H5 (h : Heap) (l1 l2 l3 : Addr) : Heap := (z3H4 h l1 l2 l3).push { cls := .type "tuple", data := .seq #[.none, .none, .none] }
abbrev z3H6 (h : Heap) (l1 l2 l3 : Addr) : Heap := (z3H5 h l1 l2 l3).push { cls := .type "zip", data := .fields #[.none, .bool false, .bool false, .ref (z3H3 h l1 l2 l3).objs.size, .ref (z3H4 h l1 l2 l3).objs.size] }
end
set_option maxHeartbeats 4000000 in
theorem meets_zip_new3 (l1 l2 l3 : Addr) (xs ys us : Array Value) :
    Meets (Builtin.«zip.__new__» ⟨[.type "zip", .ref l1, .ref l2, .ref l3], []⟩) (fun _ R s => s.heap.IsList l1 xs ∧ s.heap.IsList l2 ys ∧ s.heap.IsList l3 us ∧
      R (.ok (.ret (.ref (z3H5 s.heap l1 l2 l3).objs.size))) { s with heap := z3H6 s.heap l1 l2 l3 }) :=
  .of_wp fun prog w A R s h => by
    obtain ⟨hp, g, d, tk, os⟩ := s; obtain ⟨hl1, hl2, hl3, h⟩ := h
    have hsub := sub_zip
    have hL1 : Heap.IsList (Shared.heap ⟨hp, g, d, tk, os⟩) l1 xs := hl1
    have hL2 : Heap.IsList (Shared.heap ⟨hp.push { cls := .type "list_iterator", data := .fields #[.ref l1, .int 0 0] }, g, d, tk, os⟩) l2 ys := Heap.IsList.push hl2 _
    have hL3 : Heap.IsList (Shared.heap ⟨(hp.push { cls := .type "list_iterator", data := .fields #[.ref l1, .int 0 0] }).push { cls := .type "list_iterator", data := .fields #[.ref l2, .int 0 0] }, g, d, tk, os⟩) l3 us := Heap.IsList.push (Heap.IsList.push hl3 _) _
    wp_walk using wpAny_pyIter_list hL1, wpAny_pyIter_list hL2, wpAny_pyIter_list hL3
    exact ⟨_, rfl, h⟩
section
variable {prog : Program} {w : World} {A : Around} {E : Value → Shared → Prop} {s : Shared}
theorem call_zip_3 {l1 l2 l3 : Addr} {xs ys us : Array Value} {Q : Value → Shared → Prop} (hl1 : s.heap.IsList l1 xs) (hl2 : s.heap.IsList l2 ys) (hl3 : s.heap.IsList l3 us)
    (h : ∀ h', IsZip h' (s.heap.objs.size + 5) (s.heap.objs.size + 3) (s.heap.objs.size + 4) .none → IsTrip h' (s.heap.objs.size + 3) (.ref s.heap.objs.size) (.ref (s.heap.objs.size + 1)) (.ref (s.heap.objs.size + 2)) →
      IsTrip h' (s.heap.objs.size + 4) .none .none .none → h'.IsListIter s.heap.objs.size l1 0 → h'.IsListIter (s.heap.objs.size + 1) l2 0 → h'.IsListIter (s.heap.objs.size + 2) l3 0 → h'.objs.size = s.heap.objs.size + 6 →
      (∀ c o, s.heap.get? c = some o → h'.get? c = some o) → Q (.ref (s.heap.objs.size + 5)) { s with heap := h' }) :
    wpAny (model prog w) A (call (.type "zip") [.ref l1, .ref l2, .ref l3]) Q E s := by
  refine callType_new PySem.F.called_zip (by decide) (typeCall_zip_3 _ _ _) (newCall_zip_3 _ _ _) (fun obj => args_object_init_4 obj _ _ _) PySem.F.entry_zip_new
    (meets_zip_new3 l1 l2 l3 xs ys us) ⟨hl1, hl2, hl3, ?_⟩
  have z1 : (z3H1 s.heap l1).objs.size = s.heap.objs.size + 1 := Heap.size_push ..
  have z2 : (z3H2 s.heap l1 l2).objs.size = s.heap.objs.size + 2 := by rw [Heap.size_push, z1]
  have z3 : (z3H3 s.heap l1 l2 l3).objs.size = s.heap.objs.size + 3 := by rw [Heap.size_push, z2]
  have z4 : (z3H4 s.heap l1 l2 l3).objs.size = s.heap.objs.size + 4 := by rw [Heap.size_push, z3]
  have z5 : (z3H5 s.heap l1 l2 l3).objs.size = s.heap.objs.size + 5 := by rw [Heap.size_push, z4]
  have z6 : (z3H6 s.heap l1 l2 l3).objs.size = s.heap.objs.size + 6 := by rw [Heap.size_push, z5]
  have g6 : (z3H6 s.heap l1 l2 l3).get? (z3H5 s.heap l1 l2 l3).objs.size = some _ := Heap.get?_push_size _ rfl
  have g5 : (z3H6 s.heap l1 l2 l3).get? (z3H4 s.heap l1 l2 l3).objs.size = some _ := Heap.get?_push_of_some _ (Heap.get?_push_size _ rfl)
  have g4 : (z3H6 s.heap l1 l2 l3).get? (z3H3 s.heap l1 l2 l3).objs.size = some _ := Heap.get?_push_of_some _ (Heap.get?_push_of_some _ (Heap.get?_push_size _ rfl))
  have g3 : (z3H6 s.heap l1 l2 l3).get? (z3H2 s.heap l1 l2).objs.size = some _ := Heap.get?_push_of_some _ (Heap.get?_push_of_some _ (Heap.get?_push_of_some _ (Heap.get?_push_size _ rfl)))
  have g2 : (z3H6 s.heap l1 l2 l3).get? (z3H1 s.heap l1).objs.size = some _ := Heap.get?_push_of_some _ (Heap.get?_push_of_some _ (Heap.get?_push_of_some _ (Heap.get?_push_of_some _ (Heap.get?_push_size _ rfl))))
  have g1 : (z3H6 s.heap l1 l2 l3).get? s.heap.objs.size = some _ := Heap.get?_push_of_some _ (Heap.get?_push_of_some _ (Heap.get?_push_of_some _ (Heap.get?_push_of_some _ (Heap.get?_push_of_some _ (Heap.get?_push_size _ rfl)))))
  show _ ∧ _
  rw [z3, z4, z5] at g6
  rw [z1, z2, z3] at g4
  rw [z4] at g5
  rw [z2] at g3
  rw [z1] at g2
  rw [z5]
  exact ⟨⟨_, g6, rfl⟩, h _ g6 g4 g5 ⟨_, g1, rfl, rfl⟩ ⟨_, g2, rfl, rfl⟩ ⟨_, g3, rfl, rfl⟩ z6 fun c o x =>
    Heap.get?_push_of_some _ (Heap.get?_push_of_some _ (Heap.get?_push_of_some _ (Heap.get?_push_of_some _ (Heap.get?_push_of_some _ (Heap.get?_push_of_some _ x)))))⟩
theorem walks_zip3 (hh : A.handled = none) (z TI TO i1 i2 i3 l1 l2 l3 : Addr) (D : ZipApart3 z TI TO i1 i2 i3 l1 l2 l3) (xs ys us : Array Value) (e2 : ys.size = xs.size) (e3 : us.size = xs.size) :
    WalksT prog w A z [z, TI, TO, i1, i2, i3, l1, l2, l3] [z, TO, i1, i2, i3] xs.size
      (fun i vals => ∃ x y u, xs[i]? = some x ∧ ys[i]? = some y ∧ us[i]? = some u ∧ vals = #[x, y, u])
      (fun i h => IsZip h z TI TO .none ∧ IsTrip h TI (.ref i1) (.ref i2) (.ref i3) ∧ (∃ a b c, IsTrip h TO a b c) ∧ h.IsListIter i1 l1 i ∧ h.IsListIter i2 l2 i ∧ h.IsListIter i3 l3 i ∧ h.IsList l1 xs ∧ h.IsList l2 ys ∧ h.IsList l3 us)
      (fun i T h => IsZip h z TI TO (rawInt T) ∧ IsTrip h TI (.ref i1) (.ref i2) (.ref i3) ∧ (∃ a b c, IsTrip h TO a b c) ∧ h.IsListIter i1 l1 (i + 1) ∧ h.IsListIter i2 l2 (i + 1) ∧ h.IsListIter i3 l3 (i + 1) ∧ h.IsList l1 xs ∧ h.IsList l2 ys ∧ h.IsList l3 us ∧
        T ∉ [z, TO, i1, i2, i3]) where
  sub := fun c hc => by simp at hc ⊢; rcases hc with rfl | rfl | rfl | rfl | rfl <;> simp
  frame := fun i h h' hst hk => by
    obtain ⟨hz, hTI, ⟨a, b, c, hTO⟩, h1, h2, h3, hl1, hl2, hl3⟩ := hst
    exact ⟨hk z (by simp) _ hz, hk TI (by simp) _ hTI, ⟨a, b, c, hk TO (by simp) _ hTO⟩, h1.at fun o e => hk i1 (by simp) o e, h2.at fun o e => hk i2 (by simp) o e, h3.at fun o e => hk i3 (by simp) o e,
      hl1.at fun o e => hk l1 (by simp) o e, hl2.at fun o e => hk l2 (by simp) o e, hl3.at fun o e => hk l3 (by simp) o e⟩
  item := fun i s Q E hi hst hQ => by
    obtain ⟨hz, hTI, ⟨a, b, c, hTO⟩, h1, h2, h3, hl1, hl2, hl3⟩ := hst
    have hiy : i < ys.size := by omega
    have hiu : i < us.size := by omega
    have hT : s.TypeIs (.ref z) "zip" := ⟨_, hz, rfl⟩
    unfold pyNext
    refine wpAny_bind (wpAny_attempt (wpAny_callSpecial?_slot (name := Str.ofString "__next__") hT PySem.F.slot_zip_next
      (wpAny_call_entry PySem.F.slot_zip_next hT PySem.F.entry_zip_next
        (zip3_next_item D hz hTI hTO h1 h2 h3 hl1 hl2 hl3 (Array.getElem?_eq_getElem hi) (Array.getElem?_eq_getElem hiy) (Array.getElem?_eq_getElem hiu) fun h' a1 a2 a3 a4 a5 a6 hk => wpAny_pure ?_) (PySem.F.args_zip_next_1 _))))
    have nw : s.heap.objs.size ∉ [z, TO, i1, i2, i3] := fun hm => by
      obtain ⟨o, ho⟩ : ∃ o, s.heap.get? s.heap.objs.size = some o := by
        simp only [List.mem_cons, List.not_mem_nil, or_false] at hm
        rcases hm with e | e | e | e | e
        · exact ⟨_, by rw [e]; exact hz⟩
        · exact ⟨_, by rw [e]; exact hTO⟩
        · obtain ⟨o, x, _⟩ := h1; exact ⟨o, by rw [e]; exact x⟩
        · obtain ⟨o, x, _⟩ := h2; exact ⟨o, by rw [e]; exact x⟩
        · obtain ⟨o, x, _⟩ := h3; exact ⟨o, by rw [e]; exact x⟩
      exact absurd (Heap.lt_size ho) (Nat.lt_irrefl _)
    have off : ∀ {l}, (∀ b ∈ [z, TO, i1, i2, i3], l ≠ b) → l ∉ [z, TO, i1, i2, i3] := fun h hm => h _ hm rfl
    exact hQ s.heap.objs.size #[xs[i], ys[i], us[i]] h' s.toks ⟨_, _, _, Array.getElem?_eq_getElem hi, Array.getElem?_eq_getElem hiy, Array.getElem?_eq_getElem hiu, rfl⟩ (Nat.le_refl _) ⟨_, a6, rfl, _, rfl⟩
      ⟨a1, hk _ _ (by simp [D.TIz, D.TITO, D.TIi1, D.TIi2, D.TIi3]) hTI, ⟨_, _, _, a2⟩, a3, a4, a5, hl1.at fun o e => hk _ o (off D.l1w) e, hl2.at fun o e => hk _ o (off D.l2w) e, hl3.at fun o e => hk _ o (off D.l3w) e, nw⟩ hk
  go := fun elts k pos i T s Q E hm hQ => by
    obtain ⟨hz, hTI, ⟨a, b, c, hTO⟩, h1, h2, h3, hl1, hl2, hl3, _⟩ := hm
    refine wpAny_letOwnedTupleGo_zip hz fun h' hz' hs' => hQ h' ⟨hz', hs'.extBut _ _ D.TIz hTI, ⟨a, b, c, hs'.extBut _ _ D.TOz hTO⟩, h1.extBut hs'.extBut D.i1z, h2.extBut hs'.extBut D.i2z, h3.extBut hs'.extBut D.i3z,
      hl1.extBut hs'.extBut (D.l1w _ (by simp)), hl2.extBut hs'.extBut (D.l2w _ (by simp)), hl3.extBut hs'.extBut (D.l3w _ (by simp))⟩ fun c o hc e => hs'.extBut _ _ (fun x => hc (by simp [x])) e
  apart := fun i T h hm hT => hm.2.2.2.2.2.2.2.2.2 hT
  done := fun s Q E hst hQ => by
    obtain ⟨hz, hTI, _, h1, _, _, hl1, _, _⟩ := hst
    have hT : s.TypeIs (.ref z) "zip" := ⟨_, hz, rfl⟩
    unfold pyNext
    refine wpAny_bind (wpAny_attempt (wpAny_callSpecial?_slot (name := Str.ofString "__next__") hT PySem.F.slot_zip_next
      (wpAny_call_entry PySem.F.slot_zip_next hT PySem.F.entry_zip_next (zip3_next_end hh D hz hTI h1 hl1 (Array.getElem?_eq_none (Nat.le_refl _)) fun h' e hk he => ?_) (PySem.F.args_zip_next_1 _))))
    obtain ⟨o, ho, hc⟩ := he
    refine wpAny_bind (wpAny_isInstance (T := "StopIteration") (b := true) ⟨o, ho, hc⟩ isSubtype_stop ?_)
    exact wpAny_pure (hQ _ s.toks hk)
  self := fun i s Q E hst hQ => wpAny_pyIter_zip hst.1 hQ
end

theorem off1'_of {D : Addr} : ∀ {l : List (Addr × Obj)}, (∀ p ∈ l, p.1 ≠ D) → LCg.Off1 D l
  | [], _ => trivial
  | _ :: _, h => ⟨h _ List.mem_cons_self, off1'_of fun p hp => h p (List.mem_cons_of_mem _ hp)⟩
def ownL (h₀ h : Heap) (fp : List Addr) : List (Addr × Obj) := fp.filterMap fun b => match h₀.get? b, h.get? b with
  | none, some o => some (b, o)
  | _, _ => none
theorem mem_own {h₀ h : Heap} {fp : List Addr} {p : Addr × Obj} (hp : p ∈ ownL h₀ h fp) : p.1 ∈ fp ∧ h₀.get? p.1 = none ∧ h.get? p.1 = some p.2 := by
  obtain ⟨b, hb, e⟩ := List.mem_filterMap.mp hp
  cases q : h₀.get? b with
  | some o => rw [q] at e; cases e
  | none =>
    cases r : h.get? b with
    | none => rw [q, r] at e; cases e
    | some o => rw [q, r] at e; cases e; exact ⟨hb, q, r⟩
theorem own_mem {h₀ h : Heap} {fp : List Addr} {b : Addr} {o : Obj} (hb : b ∈ fp) (q : h₀.get? b = none) (r : h.get? b = some o) : (b, o) ∈ ownL h₀ h fp :=
  List.mem_filterMap.mpr ⟨b, hb, by rw [q, r]⟩
abbrev tst (ifs : List Expr) (env : Env) : Sem Bool := forIn ifs true fun c r => if r = true then do let ok ← isTrue c env (eval c env); pure (ForInStep.yield ok) else pure (ForInStep.yield r)
section
variable (prog : Program) (w : World) (A : Around) (h₀ : Heap) (L : Addr) (m : Str → Option Value) (s : Shared) (env : Env)
def Asg (elts : List Expr) (kk : Nat) (tp : Pos) (scope : Scope) (cl : List (Str × Addr)) (Pt : Nat → Array Value → Prop) (V : Array Value → (Str → Option Value) → Prop) : Prop :=
  ∀ i C T vals (s : Shared) m₁ (Q : Unit → Shared → Prop) (E' : Value → Shared → Prop), Pt i vals → s.heap.IsTuple T vals → s.heap.Ns C m₁ →
    (∀ h' tk m₂, V vals m₂ → h'.Ns C m₂ → (∀ c o, c ≠ C → s.heap.get? c = some o → h'.get? c = some o) → Q () { s with heap := h', toks := tk }) →
    wpAny (model prog w) A (assign (.Tuple elts kk tp) (compEnvC scope cl C env) (.ref T)) Q E' s
def TupEnd (wr : List Addr) (own : List (Addr × Obj)) (C : Addr) (oC : Obj) (D : Addr) (ys : List Value) (Jn : Value → List (Addr × Obj) → Prop) (y : Value) (s' : Shared) : Prop :=
  ∃ h' tk' news', s' = { s with heap := h', toks := tk' } ∧ Fr h₀ L h' m ∧ News h₀ L h' ((C, oC) :: (D, LCg.lst ys) :: (news' ++ own)) ∧ (∀ p ∈ news', p.1 ∉ wr ∧ p.1 ≠ C ∧ p.1 ≠ D) ∧ Jn y news'
def TupTurn (elt : Expr) (ifs : List Expr) (scope : Scope) (cl : List (Str × Addr)) (wr : List Addr) (n : Nat) (Pt : Nat → Array Value → Prop) (V : Array Value → (Str → Option Value) → Prop) (J : Nat → List Value → List (Addr × Obj) → Prop) : Prop :=
  ∀ i vals ys news own C oC D m₂ h tk, Pt i vals → i < n → J i ys news → LCg.NsObj oC m₂ → V vals m₂ → Fr h₀ L h m → News h₀ L h ((C, oC) :: (D, LCg.lst ys) :: (news ++ own)) →
    (∀ p ∈ news, p.1 ∉ wr ∧ p.1 ≠ C ∧ p.1 ≠ D) → (∀ b ∈ wr, ∃ o, (b, o) ∈ own) →
    wpAny (model prog w) A (tst ifs (compEnvC scope cl C env)) (fun ok s' => if ok = true then
      wpAny (model prog w) A (eval elt (compEnvC scope cl C env)) (TupEnd h₀ L m { s with heap := h, toks := tk } wr own C oC D ys (fun y nw => J (i + 1) (ys ++ [y]) nw)) (fun _ _ => False) s'
      else TupEnd h₀ L m { s with heap := h, toks := tk } wr own C oC D ys (fun _ nw => J (i + 1) ys nw) Value.none s') (fun _ _ => False) { s with heap := h, toks := tk }
structure TupIn (elts : List Expr) (kk : Nat) (tp : Pos) (elt : Expr) (ifs : List Expr) (scope : Scope) (cl : List (Str × Addr)) (I : Addr) (fp wr : List Addr) (n : Nat) (Pt : Nat → Array Value → Prop) (St : Nat → Heap → Prop) (Mid : Nat → Addr → Heap → Prop)
    (V : Array Value → (Str → Option Value) → Prop) (J : Nat → List Value → List (Addr × Obj) → Prop) (news : List (Addr × Obj)) : Prop where
  hh : A.handled = none
  W : WalksT prog w A I fp wr n Pt St Mid
  hsz : n ≤ sizeLine
  hst : St 0 s.heap
  hfp : ∀ b ∈ fp, b < s.heap.objs.size
  hL : L ∉ fp
  hI : I ∈ fp
  hwr : ∀ b ∈ wr, h₀.get? b = none
  hwe : ∀ b ∈ wr, ∀ i h, St i h → ∃ o, h.get? b = some o
  F : Fr h₀ L s.heap m
  N : News h₀ L s.heap news
  off : ∀ p ∈ news, p.1 ∉ wr
  j0 : J 0 [] news
  jl : ∀ i ys news, J i ys news → ys.length ≤ i
  asg : Asg prog w A env elts kk tp scope cl Pt V
  turn : TupTurn prog w A h₀ L m s env elt ifs scope cl wr n Pt V J
end
section
variable {prog : Program} {w : World} {A : Around} {E : Value → Shared → Prop} {s : Shared} {h₀ : Heap} {L : Addr} {m : Str → Option Value} {env : Env}
theorem tup_loop {elt target iter : Expr} {ifs : List Expr} {scope : Scope} {pos : Pos} {it acc : Value} {env : Env} {R : Result → Shared → Prop} (I : Nat → Shared → Prop)
    (turn : ∀ n s, I n s → wpAny (model prog w) A (pyNext it) (fun r s₁ => match r with
      | none => R (.ok .next) s₁
      | some v => wpAny (model prog w) A (letOwnedTupleGo target it v) (fun _ s₀ => wpAny (model prog w) A (assign target env v) (fun _ s₂ =>
          wpAny (model prog w) A (tst ifs env) (fun ok s₃ =>
            if ok = true then wpAny (model prog w) A (eval elt env) (fun x s₄ =>
              wpAny (model prog w) A (call (.builtin "list.append") [acc, x]) (fun _ s₅ => ∃ m, m < n ∧ I m s₅) (notedBy (model prog w) A env fun e s' => R (.error e) s') s₄) (notedBy (model prog w) A env fun e s' => R (.error e) s') s₃
            else ∃ m, m < n ∧ I m s₃) (notedBy (model prog w) A env fun e s' => R (.error e) s') s₂) (notedBy (model prog w) A env fun e s' => R (.error e) s') s₀) (notedBy (model prog w) A env fun e s' => R (.error e) s') s₁) (notedBy (model prog w) A env fun e s' => R (.error e) s') s)
    (n : Nat) (h : I n s) : codeAny (model prog w) A (.compLoop (.ListComp elt [⟨target, iter, ifs, 0⟩] scope pos) 0 it acc env) R s := by
  refine codeAny_loop rfl I (fun n s hI => ?_) n h
  show wpAny _ A ((compTurn (.ListComp elt [⟨target, iter, ifs, 0⟩] scope pos) 0 it acc env).onRaise (fun x => do noteFrame x env; theTreesLotGoes x)) _ _ s
  refine wpAny_noted ?_
  rw [compTurn_list]
  refine wpAny_bind (wpAny_standAt (wpAny_bind (wpAny_mono (turn n s hI) (fun r s₁ h₁ => ?_) fun _ _ h' => h')))
  cases r with
  | none => exact wpAny_pure h₁
  | some v =>
    refine wpAny_bind (wpAny_mono h₁ (fun _ s₀ h₀ => wpAny_bind (wpAny_mono h₀ (fun _ s₂ h₂ => wpAny_bind (wpAny_mono h₂ (fun ok s₃ h₃ => ?_) fun _ _ h' => h')) fun _ _ h' => h')) fun _ _ h' => h')
    cases ok with
    | false => exact wpAny_pure ⟨rfl, h₃⟩
    | true => exact wpAny_bind (wpAny_bind (wpAny_mono h₃ (fun x s₄ h₄ => wpAny_bind (wpAny_mono h₄ (fun _ s₅ h₅ => wpAny_pure (wpAny_pure ⟨rfl, h₅⟩)) fun _ _ h' => h')) fun _ _ h' => h'))

theorem tup_block {elt iter : Expr} {elts : List Expr} {kk : Nat} {tp : Pos} {ifs : List Expr} {scope : Scope} {cl : List (Str × Addr)} {pos : Pos} {s₂ : Shared} {I : Addr} {fp wr : List Addr} {n : Nat} {Pt : Nat → Array Value → Prop} {St : Nat → Heap → Prop} {Mid : Nat → Addr → Heap → Prop}
    {V : Array Value → (Str → Option Value) → Prop} {J : Nat → List Value → List (Addr × Obj) → Prop} {news : List (Addr × Obj)} {RR : Value → Addr → Result → Shared → Prop}
    (hcell : ∀ y ∈ scope.names, y.2 ≠ .cell) (hkind : scope.kind = .function) (T : TupIn prog w A h₀ L m s₂ env elts kk tp elt ifs scope cl I fp wr n Pt St Mid V J news)
    (hRR : ∀ D C h tk m' ys news', Fr h₀ L h m → News h₀ L h ((D, LCg.lst ys) :: news') → LCg.Off1 D news' → h.Ns C m' → h₀.get? C = none → h₀.get? D = none → C ≠ L → D ≠ L → C ≠ D → (∀ p ∈ news', p.1 ≠ C) → J n ys news' → RR (.ref D) C (.ok .next) { s₂ with heap := h, toks := tk }) :
    wpAny (model prog w) A (newList []) (fun acc s₃ => wpAny (model prog w) A (newFunctionEnv scope env.globals cl [] env.qual none .none (some env)) (fun cenv s₄ =>
      codeAny (model prog w) A (.compStart (.ListComp elt [⟨.Tuple elts kk tp, iter, ifs, 0⟩] scope pos) 0 (.ref I) acc { cenv with scope := relabel scope env }) (RR acc cenv.locals) s₄) E s₃) E s₂ := by
  obtain ⟨hh, W, hsz, hst, hfp, hLf, hIf, hwr, hwe, F, N, off, j0, jl, asg, turn⟩ := T
  refine wpAny_newObj_type (wpAny_newFunctionEnv hcell (by intro y hy; simp at hy) (fun h₁ hns₁ hsb₁ => ?_) hkind)
  dsimp only at hns₁ hsb₁ ⊢
  generalize hH2 : s₂.heap.push { cls := .type "list", dict := none, data := .seq ([] : List Value).toArray } = H2 at hns₁ hsb₁ ⊢
  have hC : H2.objs.size = s₂.heap.objs.size + 1 := by rw [← hH2, Heap.size_push]
  have hDC : s₂.heap.objs.size ≠ H2.objs.size := by rw [hC]; exact Nat.ne_of_lt (Nat.lt_succ_self _)
  have below : ∀ b, b < s₂.heap.objs.size → b ≠ H2.objs.size ∧ b ≠ s₂.heap.objs.size := fun b hb => ⟨by rw [hC]; exact Nat.ne_of_lt (Nat.lt_succ_of_lt hb), Nat.ne_of_lt hb⟩
  have hDf : s₂.heap.objs.size ∉ fp := fun hm => Nat.lt_irrefl _ (hfp _ hm)
  have hCf : H2.objs.size ∉ fp := fun hm => by have := hfp _ hm; rw [hC] at this; exact Nat.lt_irrefl _ (Nat.lt_of_succ_lt this)
  have old : ∀ b o, s₂.heap.get? b = some o → h₁.get? b = some o := fun b o e => hsb₁.extBut b o (below b (Heap.lt_size e)).1 (Heap.get?_push_of_some _ (hH2 ▸ Heap.get?_push_of_some _ e))
  have hacc : h₁.get? s₂.heap.objs.size = some (LCg.lst []) := hsb₁.extBut _ _ hDC (Heap.get?_push_of_some _ (hH2 ▸ Heap.get?_push_size _ rfl))
  have hst₁ : St 0 h₁ := W.frame _ _ _ hst fun b _ o e => old b o e
  have fresh₀ : ∀ a, s₂.heap.objs.size ≤ a → h₀.get? a = none := fun a ha => by
    cases e : h₀.get? a with
    | none => rfl
    | some o' => exact absurd (Heap.lt_size (F.keep a o' e)) (Nat.not_lt.mpr ha)
  have hD₀ : h₀.get? s₂.heap.objs.size = none := fresh₀ _ (Nat.le_refl _)
  have hC₀ : h₀.get? H2.objs.size = none := fresh₀ _ (by rw [hC]; exact Nat.le_succ _)
  have hLlt : L < s₂.heap.objs.size := F.ns.lt
  have hDL : s₂.heap.objs.size ≠ L := Ne.symm (below L hLlt).2
  have hCL : H2.objs.size ≠ L := Ne.symm (below L hLlt).1
  have wrC : ∀ b ∈ wr, b ≠ H2.objs.size := fun b hb q => hCf (q ▸ W.sub b hb)
  have wrD : ∀ b ∈ wr, b ≠ s₂.heap.objs.size := fun b hb q => hDf (q ▸ W.sub b hb)
  have wrL : L ∉ wr := fun hb => hLf (W.sub _ hb)
  have loop : ∀ s₃ : Shared, s₃ = { s₂ with heap := h₁, toks := s₂.toks + ([] : List (Str × Value)).length } →
      codeAny (model prog w) A (.compLoop (.ListComp elt [⟨.Tuple elts kk tp, iter, ifs, 0⟩] scope pos) 0 (.ref I) (.ref s₂.heap.objs.size) (compEnvC scope cl H2.objs.size env))
        (RR (.ref s₂.heap.objs.size) H2.objs.size) s₃ := by
    rintro s₃ rfl
    refine tup_loop
      (fun k s' => ∃ h' tk i ys m' news', s' = { s₂ with heap := h', toks := tk } ∧ i ≤ n ∧ k = n + 1 - i ∧ St i h' ∧ Fr h₀ L h' m ∧ h'.Ns H2.objs.size m' ∧ News h₀ L h' ((s₂.heap.objs.size, LCg.lst ys) :: news') ∧
        (∀ p ∈ news', p.1 ∉ wr ∧ p.1 ≠ H2.objs.size ∧ p.1 ≠ s₂.heap.objs.size) ∧ J i ys news') ?_ (n + 1)
      ⟨h₁, _, 0, [], _, news, rfl, Nat.zero_le _, rfl, hst₁, F.keeps old, hns₁, fun p hp => ?_, fun p hp => ⟨off p hp, below _ (Heap.lt_size (N p hp).1)⟩, j0⟩
    · rintro k s' ⟨h', tk, i, ys, m', news', rfl, hi, rfl, hst', F', hn', N', off', jn⟩
      by_cases hlt : i < n
      · refine W.item i _ _ _ hlt hst' fun T vals h₂ tk₂ hPt hle hTup hMid hk₂ => ?_
        refine W.go elts kk tp i T _ _ _ hMid fun h₃ hst₃ hk₃ => ?_
        have up₃ : ∀ c o, c ∉ wr → h'.get? c = some o → h₃.get? c = some o := fun c o hc e => hk₃ c o hc (hk₂ c o hc e)
        refine asg i _ T vals _ m' _ _ hPt (hTup.at fun o e => hk₃ T o (W.apart i T _ hMid) e) (hn'.at' fun o e => up₃ _ o (fun hb => wrC _ hb rfl) e) fun h₄ tk₄ m₂ hV hn₄ hs₄ => ?_
        have up : ∀ c o, c ∉ wr → c ≠ H2.objs.size → h'.get? c = some o → h₄.get? c = some o := fun c o h1 h2 e => hs₄ c o h2 (up₃ c o h1 e)
        have hst₄ : St (i + 1) h₄ := W.frame _ _ _ hst₃ fun b hb o e => hs₄ b o (fun q => hCf (q ▸ hb)) e
        obtain ⟨oC, heC, hoC⟩ := LCg.ns_obj hn₄
        have F₄ : Fr h₀ L h₄ m := ⟨F'.ns.at' fun o e => up _ o wrL (Ne.symm hCL) e, fun c o e => up c o (fun hb => by rw [hwr c hb] at e; cases e) (fun q => by rw [q, hC₀] at e; cases e) (F'.keep c o e), F'.above⟩
        have N₄ : News h₀ L h₄ ((H2.objs.size, oC) :: (s₂.heap.objs.size, LCg.lst ys) :: (news' ++ ownL h₀ h₄ fp)) := fun q hq => by
          rcases List.mem_cons.mp hq with rfl | hq
          · exact ⟨heC, hCL, hC₀⟩
          · rcases List.mem_cons.mp hq with rfl | hq
            · have z := N' _ (.head _)
              exact ⟨up _ _ (fun hb => wrD _ hb rfl) hDC z.1, z.2⟩
            · rcases List.mem_append.mp hq with hq | hq
              · have z := N' _ (.tail _ hq)
                exact ⟨up _ _ (off' q hq).1 (off' q hq).2.1 z.1, z.2⟩
              · obtain ⟨a, b, c⟩ := mem_own hq
                exact ⟨c, fun q' => hLf (q' ▸ a), b⟩
        have hwo : ∀ b ∈ wr, ∃ o, (b, o) ∈ ownL h₀ h₄ fp := fun b hb => by
          obtain ⟨o, ho⟩ := hwe b hb _ _ hst₄
          exact ⟨o, own_mem (W.sub b hb) (hwr b hb) ho⟩
        have stay : ∀ h₅, Fr h₀ L h₅ m → News h₀ L h₅ (ownL h₀ h₄ fp) → St (i + 1) h₅ := fun h₅ F₅ N₅ => W.frame _ _ _ hst₄ fun b hb o e => by
          cases q : h₀.get? b with
          | some o' =>
            have := F₄.keep b o' q
            rw [e] at this; cases this
            exact F₅.keep b _ q
          | none => exact (N₅ _ (own_mem hb q e)).1
        refine wpAny_mono (turn i vals ys news' (ownL h₀ h₄ fp) H2.objs.size oC s₂.heap.objs.size m₂ h₄ tk₄ hPt hlt jn hoC hV F₄ N₄ off' hwo) (fun ok s₅ h₅ => ?_) fun _ _ x => x.elim
        cases ok with
        | true =>
          simp only [if_true] at h₅ ⊢
          refine wpAny_mono h₅ (fun y s₆ h₆ => ?_) fun _ _ x => x.elim
          obtain ⟨h₅, tk₅, news₅, rfl, F₅, N₅, off₅, J₅⟩ := h₆
          have hst₅ := stay h₅ F₅ fun p hp => N₅ p (.tail _ (.tail _ (List.mem_append_right _ hp)))
          have zC := (N₅ _ (.head _)).1
          have zD := (N₅ _ (.tail _ (.head _))).1
          refine append_at (hsz := by show ys.toArray.size ≤ sizeLine; rw [List.size_toArray]; exact Nat.le_trans (Nat.le_trans (jl _ _ _ jn) hi) hsz) zD fun h₆ hs₆ hD₆ => ?_
          refine ⟨n + 1 - (i + 1), by omega, h₆, tk₅, i + 1, ys ++ [y], _, news₅, rfl, hlt, rfl, W.frame _ _ _ hst₅ fun b hb o e => hs₆.extBut b o (fun q => hDf (q ▸ hb)) e, F₅.change hs₆ hDL hD₀,
            (hoC.ns zC).sameBut hs₆ (Ne.symm hDC), fun q hq => ?_, off₅, J₅⟩
          rcases List.mem_cons.mp hq with rfl | hq
          · exact ⟨hD₆.trans (congrArg some (LCg.lst_snoc ys y)), hDL, hD₀⟩
          · have z := N₅ q (.tail _ (.tail _ (List.mem_append_left _ hq)))
            exact ⟨hs₆.extBut _ _ (off₅ q hq).2.2 z.1, z.2⟩
        | false =>
          simp only [Bool.false_eq_true, if_false] at h₅ ⊢
          obtain ⟨h₅, tk₅, news₅, rfl, F₅, N₅, off₅, J₅⟩ := h₅
          have hst₅ := stay h₅ F₅ fun p hp => N₅ p (.tail _ (.tail _ (List.mem_append_right _ hp)))
          have zC := (N₅ _ (.head _)).1
          refine ⟨n + 1 - (i + 1), by omega, h₅, tk₅, i + 1, ys, _, news₅, rfl, hlt, rfl, hst₅, F₅, hoC.ns zC, fun q hq => ?_, off₅, J₅⟩
          rcases List.mem_cons.mp hq with rfl | hq
          · exact N₅ _ (.tail _ (.head _))
          · exact N₅ q (.tail _ (.tail _ (List.mem_append_left _ hq)))
      · have hin : i = n := Nat.le_antisymm hi (Nat.not_lt.mp hlt)
        subst hin
        refine W.done _ _ _ hst' fun h₂ tk₂ hk₂ => ?_
        have F₂ : Fr h₀ L h₂ m := ⟨F'.ns.at' fun o e => hk₂ _ o wrL e, fun c o e => hk₂ c o (fun hb => by rw [hwr c hb] at e; cases e) (F'.keep c o e), F'.above⟩
        refine hRR _ _ h₂ tk₂ _ ys news' F₂ (fun p hp => ?_) (off1'_of fun p hp => (off' p hp).2.2) (hn'.at' fun o e => hk₂ _ o (fun hb => wrC _ hb rfl) e) hC₀ hD₀ hCL hDL (Ne.symm hDC) (fun p hp => (off' p hp).2.1) jn
        refine ⟨hk₂ _ _ ?_ (N' p hp).1, (N' p hp).2⟩
        rcases List.mem_cons.mp hp with rfl | hp
        · exact fun hb => wrD _ hb rfl
        · exact (off' p hp).1
    · rcases List.mem_cons.mp hp with rfl | hp
      · exact ⟨hacc, hDL, hD₀⟩
      · exact ⟨old _ _ (N p hp).1, (N p hp).2⟩
  exact codeAny_compStart_list (loop _ rfl) (W.self 0 _ _ _ hst₁ (loop _ rfl))
end

def TupAt (prog : Program) (w : World) (A : Around) (h₀ : Heap) (L : Addr) (m : Str → Option Value) (env : Env) (elts : List Expr) (kk : Nat) (tp : Pos) (elt : Expr) (ifs : List Expr) (scope : Scope) (cl : List (Str × Addr)) (Fin : Shared → List Value → List (Addr × Obj) → Prop) (it : Value) (s₂ : Shared) : Prop :=
  ∃ I fp wr n Pt St Mid V J news, it = .ref I ∧ TupIn prog w A h₀ L m s₂ env elts kk tp elt ifs scope cl I fp wr n Pt St Mid V J news ∧ ∀ ys news', J n ys news' → Fin s₂ ys news'
section
variable {prog : Program} {w : World} {A : Around} {E : Value → Shared → Prop} {s : Shared} {h₀ : Heap} {L : Addr} {m : Str → Option Value} {env : Env}
theorem Assign_Tup {elt iter : Expr} {y : Str} {py tp : Pos} {kk : Nat} {elts ifs : List Expr} {scope : Scope} {cl : List (Str × Addr)} {pos spos : Pos} {Q : Flow → Shared → Prop} (_F₀ : Fr h₀ L s.heap m) (hLe : env.locals = L)
    (hsw : swapsWith (.ListComp elt [⟨.Tuple elts kk tp, iter, ifs, 0⟩] scope pos) (some (.Name y py)) spos.line env = pure true)
    (hclos : closureFor scope env = pure cl) (hcell : ∀ z ∈ scope.names, z.2 ≠ .cell) (hkind : scope.kind = .function)
    (hnames : ∀ z ∈ scope.names, z.2 = .local → scope.names.lookup z.1 = some .local)
    (hy : env.kindOf y = some .local) (hp : (env.scope.kind == .class || (env.scope.kind == .module && env.locals != env.globals)) = false)
    (h : wpAny (model prog w) A (eval iter env) (fun xv s₁ => wpAny (model prog w) A (pyIter xv) (TupAt prog w A h₀ L m env elts kk tp elt ifs scope cl (fun s₂ => LCg.FinA h₀ L m s₂ y Q)) E s₁) E s)
    (hs : ∀ x, foldedSetIterable iter env x = pure x := by intro _; rfl) :
    wpAny (model prog w) A (exec (.Assign [.Name y py] (.ListComp elt [⟨.Tuple elts kk tp, iter, ifs, 0⟩] scope pos) spos) env) Q E s := by
  subst hLe
  rw [exec_Assign_Name_used _ _ _ _ hsw]
  refine wpAny_bind (wpAny_standAt (wpAny_bind ?_))
  show wpAny _ A (do let _ ← comprehension (.ListComp elt [⟨.Tuple elts kk tp, iter, ifs, 0⟩] scope pos) scope env _ (newList []) false (eval iter env) (some (assign (.Name y py) env))) _ _ s
  refine wpAny_bind (wpAny_mono (wpAny_comprehension_free (use := some (assign (.Name y py) env)) (Q := fun _ s' => Q .next s') rfl hs hclos hkind hnames
    (wpAny_mono h (fun xv s₁ h₁ => wpAny_mono h₁ (fun it s₂ h₂ => ?_) fun _ _ e => e) fun _ _ e => e)) (fun _ s' hq => wpAny_pure (wpAny_pure hq)) fun _ _ e => e)
  obtain ⟨I, fp, wr, n, Pt, St, Mid, V, J, news, rfl, T, fin⟩ := h₂
  refine tup_block hcell hkind T fun D C h' tk m' ys news' F' N' o1 hn hC₀ hD₀ hCL hDL hCD offC jn => ?_
  show wpAny _ A (assign (.Name y py) env (.ref D)) _ _ _
  refine wpAny_assign_Name (wpAny_storeName_local hy F'.ns (fun h₂ hn₂ hs₂ => ?_) hp)
  have hL₀ : h₀.get? env.locals = none := Heap.get?_none_of_le F'.above
  have F₂ : Fr h₀ env.locals h₂ (fun z => if z = y then some (.ref D) else m z) := ⟨hn₂, fun b o e => hs₂.extBut b o (fun q => by rw [q, hL₀] at e; cases e) (F'.keep b o e), F'.above⟩
  refine ⟨m', hn.sameBut hs₂ hCL, fun h'' hs'' => fin _ _ jn D h'' _ (F₂.change hs'' hCL hC₀) (fun p hp => ?_) o1⟩
  have z : h₂.get? p.1 = some p.2 := hs₂.extBut _ _ (N' p hp).2.1 (N' p hp).1
  refine ⟨hs''.extBut _ _ ?_ z, (N' p hp).2⟩
  rcases List.mem_cons.mp hp with rfl | hp
  · exact Ne.symm hCD
  · exact offC p hp

def V2 (a b : Str) (vals : Array Value) (m₂ : Str → Option Value) : Prop := ∀ x y, vals = #[x, y] → m₂ a = some x ∧ m₂ b = some y
def V3 (a b c : Str) (vals : Array Value) (m₂ : Str → Option Value) : Prop := ∀ x y u, vals = #[x, y, u] → m₂ a = some x ∧ m₂ b = some y ∧ m₂ c = some u
theorem asg2 {a b : Str} {pa pb tp : Pos} {kk : Nat} {scope : Scope} {cl : List (Str × Addr)} {Pt : Nat → Array Value → Prop} (hh : A.handled = none) (hk : scope.kind = .function) (ha : scope.names.lookup a = some .local) (hb : scope.names.lookup b = some .local) (hab : a ≠ b)
    (hP : ∀ i vals, Pt i vals → ∃ x y, vals = #[x, y]) : Asg prog w A env [.Name a pa, .Name b pb] kk tp scope cl Pt (V2 a b) := by
  intro i C T vals s m₁ Q E' hp hT hn h
  obtain ⟨x, y, rfl⟩ := hP _ _ hp
  refine kcp_assign (env := compEnvC scope cl C env) hh hT (lookup_relabel_local ha) (lookup_relabel_local hb) (by simp [compEnvC, relabel, hk]) hn fun h' tk hn' hs => ?_
  refine h h' tk _ (fun x' y' e => ?_) hn' hs
  cases e
  exact ⟨by simp [hab], by simp⟩
theorem asg3 {a b c : Str} {pa pb pc tp : Pos} {kk : Nat} {scope : Scope} {cl : List (Str × Addr)} {Pt : Nat → Array Value → Prop} (hh : A.handled = none) (hk : scope.kind = .function) (ha : scope.names.lookup a = some .local) (hb : scope.names.lookup b = some .local) (hc : scope.names.lookup c = some .local)
    (hab : a ≠ b) (hac : a ≠ c) (hbc : b ≠ c) (hP : ∀ i vals, Pt i vals → ∃ x y u, vals = #[x, y, u]) : Asg prog w A env [.Name a pa, .Name b pb, .Name c pc] kk tp scope cl Pt (V3 a b c) := by
  intro i C T vals s m₁ Q E' hp hT hn h
  obtain ⟨x, y, u, rfl⟩ := hP _ _ hp
  have hpp : (((compEnvC scope cl C env).scope.kind == .class) || ((compEnvC scope cl C env).scope.kind == .module && (compEnvC scope cl C env).locals != (compEnvC scope cl C env).globals)) = false := by simp [compEnvC, relabel, hk]
  refine wpAny_assign_Tuple hh hT rfl rfl fun h₁ he₁ => ?_
  have hL : C ≠ s.heap.objs.size := Nat.ne_of_lt hn.lt
  have hn₁ : h₁.Ns C m₁ := hn.at' fun o e => he₁ _ o hL e
  have up₁ : ∀ c o, s.heap.get? c = some o → h₁.get? c = some o := fun c o e => he₁ c o (Nat.ne_of_lt (Heap.lt_size e)) e
  show wpAny _ _ (assignInOrder [assign (.Name a pa) _, assign (.Name b pb) _, assign (.Name c pc) _] [x, y, u]) _ _ _
  refine assignInOrder_cons (wpAny_assign_Name (wpAny_storeName_local (lookup_relabel_local ha) hn₁ (fun h₂ hn₂ hs₂ => ?_) hpp))
  refine assignInOrder_cons (wpAny_assign_Name (wpAny_storeName_local (lookup_relabel_local hb) hn₂ (fun h₃ hn₃ hs₃ => ?_) hpp))
  refine assignInOrder_cons (wpAny_assign_Name (wpAny_storeName_local (lookup_relabel_local hc) hn₃ (fun h₄ hn₄ hs₄ => ?_) hpp))
  refine assignInOrder_nil ?_
  refine h h₄ _ _ (fun x' y' u' e => ?_) hn₄ fun d o hd e => hs₄.extBut d o hd (hs₃.extBut d o hd (hs₂.extBut d o hd (up₁ d o e)))
  cases e
  exact ⟨by simp [hab, hac], by simp [hbc], by simp⟩
theorem new_none {h : Heap} {k : Nat} (hk : s.heap.objs.size ≤ k) (F : Fr h₀ L s.heap m) : let _ := h; h₀.get? k = none := by
  cases e : h₀.get? k with
  | none => rfl
  | some o => exact absurd (Heap.lt_size (F.keep _ _ e)) (Nat.not_lt.mpr hk)
theorem apart3 (S l1 l2 l3 : Nat) (h1 : l1 < S) (h2 : l2 < S) (h3 : l3 < S) : ZipApart3 (S + 5) (S + 3) (S + 4) S (S + 1) (S + 2) l1 l2 l3 := by
  have key : ∀ l : Nat, l < S → ∀ b ∈ ([S + 5, S + 4, S, S + 1, S + 2] : List Nat), l ≠ b := by
    intro l hl b hb
    simp only [List.mem_cons, List.not_mem_nil, or_false] at hb
    rcases hb with h | h | h | h | h <;> omega
  refine ⟨?_, ?_, ?_, ?_, ?_, ?_, ?_, ?_, ?_, ?_, ?_, ?_, ?_, ?_, ?_, key l1 h1, key l2 h2, key l3 h3⟩ <;> (refine neN ?_; omega)
section
variable {elt : Expr} {elts ifs : List Expr} {kk : Nat} {tp : Pos} {scope : Scope} {cl : List (Str × Addr)} {Fin : Shared → List Value → List (Addr × Obj) → Prop} {news : List (Addr × Obj)}
theorem enum_Tup {l : Addr} {its : Array Value} {n : Nat} (V : Array Value → (Str → Option Value) → Prop) (J : Nat → List Value → List (Addr × Obj) → Prop) (hh : A.handled = none) (F : Fr h₀ L s.heap m) (N : News h₀ L s.heap news) (hm : (l, W.listOf its n) ∈ news) (hz : its.size ≤ sizeLine)
    (asg : Asg prog w A env elts kk tp scope cl (fun i vals => ∃ t x, its[i]? = some x ∧ vals = #[.int i t, x]) V) (j0 : J 0 [] news) (jl : ∀ i ys news, J i ys news → ys.length ≤ i)
    (turn : ∀ wr, TupTurn prog w A h₀ L m s env elt ifs scope cl wr its.size (fun i vals => ∃ t x, its[i]? = some x ∧ vals = #[.int i t, x]) V J) (fin : ∀ g ys news', J its.size ys news' → Fin { s with heap := g } ys news') :
    wpAny (model prog w) A (call (.type "enumerate") [.ref l]) (fun xv s₁ => wpAny (model prog w) A (pyIter xv) (TupAt prog w A h₀ L m env elts kk tp elt ifs scope cl Fin) E s₁) E s := by
  have hax := N _ hm
  have hl : s.heap.IsList l its := ⟨_, hax.1, rfl, n, rfl⟩
  have hlt : l < s.heap.objs.size := Heap.lt_size hax.1
  have hLs : L < s.heap.objs.size := F.ns.lt
  refine call_enumerate_list hl fun h' hE hI hsz hk => ?_
  refine wpAny_pyIter_enum hE ?_
  have F' : Fr h₀ L h' m := F.keeps hk
  refine ⟨_, _, _, _, _, _, _, V, J, news, rfl, ⟨hh, WalksT.enumerate hh (s.heap.objs.size + 1) s.heap.objs.size l (Nat.succ_ne_self _) (Nat.ne_of_lt (Nat.lt_succ_of_lt hlt)) (Nat.ne_of_lt hlt) its, hz, ⟨⟨_, hE⟩, hI, hl.at fun o e => hk _ o e⟩, ?_, ?_, by simp, ?_, ?_, F', N.grown hk, ?_, j0, jl, asg, turn _⟩, fin _⟩
  · intro b hb
    show b < h'.objs.size
    simp only [List.mem_cons, List.not_mem_nil, or_false] at hb
    rcases hb with h | h | h <;> subst h <;> rw [hsz]
    · exact Nat.lt_succ_self _
    · exact Nat.lt_succ_of_lt (Nat.lt_succ_self _)
    · exact Nat.lt_succ_of_lt (Nat.lt_succ_of_lt hlt)
  · intro hb
    simp only [List.mem_cons, List.not_mem_nil, or_false] at hb
    rcases hb with h | h | h
    · exact absurd (h ▸ hLs) (Nat.not_lt.mpr (Nat.le_succ _))
    · exact absurd (h ▸ hLs) (Nat.lt_irrefl _)
    · exact hax.2.1 h.symm
  · intro b hb
    simp only [List.mem_cons, List.not_mem_nil, or_false] at hb
    rcases hb with h | h <;> subst h
    · exact new_none (h := h') (Nat.le_succ _) F
    · exact new_none (h := h') (Nat.le_refl _) F
  · rintro b hb i g ⟨⟨old, q⟩, ⟨o, q2, _⟩, _⟩
    simp only [List.mem_cons, List.not_mem_nil, or_false] at hb
    rcases hb with h | h <;> subst h
    · exact ⟨_, q⟩
    · exact ⟨o, q2⟩
  · intro p hp hb
    have := Heap.lt_size (N p hp).1
    simp only [List.mem_cons, List.not_mem_nil, or_false] at hb
    rcases hb with h | h <;> rw [h] at this
    · exact absurd this (Nat.not_lt.mpr (Nat.le_succ _))
    · exact absurd this (Nat.lt_irrefl _)
theorem zip2_Tup {l1 l2 : Addr} {xs ys : Array Value} {n1 n2 : Nat} (V : Array Value → (Str → Option Value) → Prop) (J : Nat → List Value → List (Addr × Obj) → Prop) (hh : A.handled = none) (F : Fr h₀ L s.heap m) (N : News h₀ L s.heap news) (hm1 : (l1, W.listOf xs n1) ∈ news) (hm2 : (l2, W.listOf ys n2) ∈ news) (hz : min xs.size ys.size ≤ sizeLine)
    (asg : Asg prog w A env elts kk tp scope cl (fun i vals => ∃ x y, xs[i]? = some x ∧ ys[i]? = some y ∧ vals = #[x, y]) V) (j0 : J 0 [] news) (jl : ∀ i ys news, J i ys news → ys.length ≤ i)
    (turn : ∀ wr, TupTurn prog w A h₀ L m s env elt ifs scope cl wr (min xs.size ys.size) (fun i vals => ∃ x y, xs[i]? = some x ∧ ys[i]? = some y ∧ vals = #[x, y]) V J) (fin : ∀ g zs news', J (min xs.size ys.size) zs news' → Fin { s with heap := g } zs news') :
    wpAny (model prog w) A (call (.type "zip") [.ref l1, .ref l2]) (fun xv s₁ => wpAny (model prog w) A (pyIter xv) (TupAt prog w A h₀ L m env elts kk tp elt ifs scope cl Fin) E s₁) E s := by
  have hax1 := N _ hm1
  have hax2 := N _ hm2
  have hl1 : s.heap.IsList l1 xs := ⟨_, hax1.1, rfl, n1, rfl⟩
  have hl2 : s.heap.IsList l2 ys := ⟨_, hax2.1, rfl, n2, rfl⟩
  have hlt1 : l1 < s.heap.objs.size := Heap.lt_size hax1.1
  have hlt2 : l2 < s.heap.objs.size := Heap.lt_size hax2.1
  have hLs : L < s.heap.objs.size := F.ns.lt
  have D : ZipApart (s.heap.objs.size + 4) (s.heap.objs.size + 2) (s.heap.objs.size + 3) s.heap.objs.size (s.heap.objs.size + 1) l1 l2 := ktu_apart _ _ _ hlt1 hlt2
  refine call_zip_2 hl1 hl2 fun h' hz' hTI hTO hi1 hi2 hsz hk => ?_
  refine wpAny_pyIter_zip hz' ?_
  have lt9 : ∀ {b : Addr} {o : Obj}, s.heap.get? b = some o → @LT.lt Nat _ b s.heap.objs.size := fun e => Heap.lt_size e
  generalize s.heap.objs.size = S at *
  refine ⟨_, _, _, _, _, _, _, V, J, news, rfl, ⟨hh, WalksT.zip2 hh _ _ _ _ _ _ _ D xs ys, hz, ⟨hz', hTI, ⟨_, _, hTO⟩, hi1, hi2, hl1.at fun o e => hk _ o e, hl2.at fun o e => hk _ o e⟩, ?_, ?_, by simp, ?_, ?_, F.keeps hk, N.grown hk, ?_, j0, jl, asg, turn _⟩, fin _⟩
  · intro b hb
    show @LT.lt Nat _ b h'.objs.size
    simp only [List.mem_cons, List.not_mem_nil, or_false] at hb
    have h1 : @LT.lt Nat _ l1 S := hlt1
    have h2 : @LT.lt Nat _ l2 S := hlt2
    rcases hb with h | h | h | h | h | h | h <;> subst h <;> rw [hsz] <;> omega
  · intro hb
    simp only [List.mem_cons, List.not_mem_nil, or_false] at hb
    have h0 : @LT.lt Nat _ L S := hLs
    rcases hb with h | h | h | h | h | h | h
    · have : @Eq Nat L (S + 4) := h; omega
    · have : @Eq Nat L (S + 2) := h; omega
    · have : @Eq Nat L (S + 3) := h; omega
    · have : @Eq Nat L (S) := h; omega
    · have : @Eq Nat L (S + 1) := h; omega
    · exact hax1.2.1 h.symm
    · exact hax2.2.1 h.symm
  · intro b hb
    have fr : ∀ k, @LE.le Nat _ S k → h₀.get? k = none := fun k hk' => by
      cases e : h₀.get? k with
      | none => rfl
      | some o => exact absurd (lt9 (F.keep _ _ e)) (Nat.not_lt.mpr hk')
    simp only [List.mem_cons, List.not_mem_nil, or_false] at hb
    rcases hb with h | h | h | h <;> subst h <;> exact fr _ (by omega)
  · rintro b hb i g ⟨q1, q2, ⟨_, _, q3⟩, ⟨o4, q4, _⟩, ⟨o5, q5, _⟩, _⟩
    simp only [List.mem_cons, List.not_mem_nil, or_false] at hb
    rcases hb with h | h | h | h <;> subst h
    · exact ⟨_, q1⟩
    · exact ⟨_, q3⟩
    · exact ⟨_, q4⟩
    · exact ⟨_, q5⟩
  · intro p hp hb
    have h1 : @LT.lt Nat _ p.1 S := lt9 (N p hp).1
    simp only [List.mem_cons, List.not_mem_nil, or_false] at hb
    rcases hb with h | h | h | h <;> rw [h] at h1 <;> omega
theorem zip3_Tup {l1 l2 l3 : Addr} {xs ys us : Array Value} {n1 n2 n3 : Nat} (V : Array Value → (Str → Option Value) → Prop) (J : Nat → List Value → List (Addr × Obj) → Prop) (hh : A.handled = none) (F : Fr h₀ L s.heap m) (N : News h₀ L s.heap news) (hm1 : (l1, W.listOf xs n1) ∈ news) (hm2 : (l2, W.listOf ys n2) ∈ news) (hm3 : (l3, W.listOf us n3) ∈ news) (hz : xs.size ≤ sizeLine) (e2 : ys.size = xs.size) (e3 : us.size = xs.size)
    (asg : Asg prog w A env elts kk tp scope cl (fun i vals => ∃ x y u, xs[i]? = some x ∧ ys[i]? = some y ∧ us[i]? = some u ∧ vals = #[x, y, u]) V) (j0 : J 0 [] news) (jl : ∀ i ys news, J i ys news → ys.length ≤ i)
    (turn : ∀ wr, TupTurn prog w A h₀ L m s env elt ifs scope cl wr xs.size (fun i vals => ∃ x y u, xs[i]? = some x ∧ ys[i]? = some y ∧ us[i]? = some u ∧ vals = #[x, y, u]) V J) (fin : ∀ g zs news', J xs.size zs news' → Fin { s with heap := g } zs news') :
    wpAny (model prog w) A (call (.type "zip") [.ref l1, .ref l2, .ref l3]) (fun xv s₁ => wpAny (model prog w) A (pyIter xv) (TupAt prog w A h₀ L m env elts kk tp elt ifs scope cl Fin) E s₁) E s := by
  have hax1 := N _ hm1
  have hax2 := N _ hm2
  have hax3 := N _ hm3
  have hl1 : s.heap.IsList l1 xs := ⟨_, hax1.1, rfl, n1, rfl⟩
  have hl2 : s.heap.IsList l2 ys := ⟨_, hax2.1, rfl, n2, rfl⟩
  have hl3 : s.heap.IsList l3 us := ⟨_, hax3.1, rfl, n3, rfl⟩
  have hlt1 : @LT.lt Nat _ l1 s.heap.objs.size := Heap.lt_size hax1.1
  have hlt2 : @LT.lt Nat _ l2 s.heap.objs.size := Heap.lt_size hax2.1
  have hlt3 : @LT.lt Nat _ l3 s.heap.objs.size := Heap.lt_size hax3.1
  have hLs : @LT.lt Nat _ L s.heap.objs.size := F.ns.lt
  refine call_zip_3 hl1 hl2 hl3 fun h' hz' hTI hTO hi1 hi2 hi3 hsz hk => ?_
  refine wpAny_pyIter_zip hz' ?_
  have D := apart3 s.heap.objs.size l1 l2 l3 hlt1 hlt2 hlt3
  have lt9 : ∀ {b : Addr} {o : Obj}, s.heap.get? b = some o → @LT.lt Nat _ b s.heap.objs.size := fun e => Heap.lt_size e
  generalize s.heap.objs.size = S at *
  refine ⟨_, _, _, _, _, _, _, V, J, news, rfl, ⟨hh, walks_zip3 hh _ _ _ _ _ _ _ _ _ D xs ys us e2 e3, hz, ⟨hz', hTI, ⟨_, _, _, hTO⟩, hi1, hi2, hi3, hl1.at fun o e => hk _ o e, hl2.at fun o e => hk _ o e, hl3.at fun o e => hk _ o e⟩, ?_, ?_, by simp, ?_, ?_, F.keeps hk, N.grown hk, ?_, j0, jl, asg, turn _⟩, fin _⟩
  · intro b hb
    show @LT.lt Nat _ b h'.objs.size
    simp only [List.mem_cons, List.not_mem_nil, or_false] at hb
    rcases hb with h | h | h | h | h | h | h | h | h <;> subst h <;> rw [hsz] <;> omega
  · intro hb
    simp only [List.mem_cons, List.not_mem_nil, or_false] at hb
    rcases hb with h | h | h | h | h | h | h | h | h
    · have : @Eq Nat L (S + 5) := h; omega
    · have : @Eq Nat L (S + 3) := h; omega
    · have : @Eq Nat L (S + 4) := h; omega
    · have : @Eq Nat L (S) := h; omega
    · have : @Eq Nat L (S + 1) := h; omega
    · have : @Eq Nat L (S + 2) := h; omega
    · exact hax1.2.1 h.symm
    · exact hax2.2.1 h.symm
    · exact hax3.2.1 h.symm
  · intro b hb
    have fr : ∀ k, @LE.le Nat _ S k → h₀.get? k = none := fun k hk' => by
      cases e : h₀.get? k with
      | none => rfl
      | some o => exact absurd (lt9 (F.keep _ _ e)) (Nat.not_lt.mpr hk')
    simp only [List.mem_cons, List.not_mem_nil, or_false] at hb
    rcases hb with h | h | h | h | h <;> subst h <;> exact fr _ (by omega)
  · rintro b hb i g ⟨q1, q2, ⟨_, _, _, q3⟩, ⟨o4, q4, _⟩, ⟨o5, q5, _⟩, ⟨o6, q6, _⟩, _⟩
    simp only [List.mem_cons, List.not_mem_nil, or_false] at hb
    rcases hb with h | h | h | h | h <;> subst h
    · exact ⟨_, q1⟩
    · exact ⟨_, q3⟩
    · exact ⟨_, q4⟩
    · exact ⟨_, q5⟩
    · exact ⟨_, q6⟩
  · intro p hp hb
    have h1 : @LT.lt Nat _ p.1 S := lt9 (N p hp).1
    simp only [List.mem_cons, List.not_mem_nil, or_false] at hb
    rcases hb with h | h | h | h | h <;> rw [h] at h1 <;> omega
end
end

def partsC (n : Int) : Col := (Int.fmod (Int.fmod n 64) 4, Int.fmod (Int.fdiv (Int.fmod n 64) 4) 4, Int.fdiv (Int.fmod n 64) 16)
theorem partsC_bd (n : Int) : (0 ≤ (partsC n).1 ∧ (partsC n).1 ≤ 3) ∧ (0 ≤ (partsC n).2.1 ∧ (partsC n).2.1 ≤ 3) ∧ (0 ≤ (partsC n).2.2 ∧ (partsC n).2.2 ≤ 3) := by
  simp only [partsC, Int.fmod_eq_emod_of_nonneg _ (show (0:Int) ≤ 64 by decide), Int.fmod_eq_emod_of_nonneg _ (show (0:Int) ≤ 4 by decide), Int.fdiv_eq_ediv_of_nonneg _ (show (0:Int) ≤ 16 by decide), Int.fdiv_eq_ediv_of_nonneg _ (show (0:Int) ≤ 4 by decide)]
  omega
def mixesT (c0 c1 c2 : Col) : List Col := stepCol (stepCol [bareC c0] c1) c2
theorem mixesT_len (c0 c1 c2 : Col) : (mixesT c0 c1 c2).length ≤ 49 := by
  have := foldCol_len [c1, c2] [bareC c0] (by simp)
  simpa [mixesT] using this
section
variable {w : World} {A : Around} {s : Shared} {Q : Value → Shared → Prop} {E : Value → Shared → Prop} {h₀ : Heap} {L : Addr} {m : Str → Option Value} {news : List (Addr × Obj)}
theorem parts_K (R : Lvl A 900) (F : Fr h₀ L s.heap m) (N : News h₀ L s.heap news) (G : Gr w h₀) {n : Int} {t : Tok}
    (k : ∀ D vs e h' tk, Fr h₀ L h' m → News h₀ L h' ((D, W.listOf vs e) :: news) → LCg.Off1 D news → IntsAre vs.toList (colL (partsC n)) → Q (.ref D) { s with heap := h', toks := tk }) :
    wpAny (model PR w) A (call (.ref 84) [.int n t]) Q E s := by
  refine parts_spec R (G.keeps F.keep) fun D vs e h' tk kp hD hD' hi => ?_
  have hn : ∀ p ∈ [(D, W.listOf vs e)], h'.get? p.1 = some p.2 ∧ s.heap.get? p.1 = none := fun p hp => by rcases List.mem_singleton.mp hp with rfl; exact ⟨hD', hD⟩
  exact k D vs e h' tk (F.grownK kp) (ext_K F N kp hn) (off1_of fun q hq => sep_of N hn _ (.head _) q hq) hi
theorem mixes_K (R : Lvl A 800) (F : Fr h₀ L s.heap m) (N : News h₀ L s.heap news) (G : Gr w h₀) {a r0 r1 r2 : Addr} {n : Nat} {c0 c1 c2 : Col} (hm : (a, W.listOf #[.ref r0, .ref r1, .ref r2] n) ∈ news) (h0 : ColIn news r0 c0) (h1 : ColIn news r1 c1) (h2 : ColIn news r2 c2)
    (k : ∀ D us e h' tk, Fr h₀ L h' m → News h₀ L h' ((D, W.listOf us e) :: news) → LCg.Off1 D news → ColsAt h' us (mixesT c0 c1 c2) → Q (.ref D) { s with heap := h', toks := tk }) :
    wpAny (model PR w) A (call (.ref 94) [.ref a]) Q E s := by
  refine mixes_spec R (G.keeps F.keep) (N _ hm).1 (h0.at N) (h1.at N) (h2.at N) fun D us e h' tk kp hD hD' hi => ?_
  have hn : ∀ p ∈ [(D, W.listOf us e)], h'.get? p.1 = some p.2 ∧ s.heap.get? p.1 = none := fun p hp => by rcases List.mem_singleton.mp hp with rfl; exact ⟨hD', hD⟩
  exact k D us e h' tk (F.grownK kp) (ext_K F N kp hn) (off1_of fun q hq => sep_of N hn _ (.head _) q hq) hi
theorem best_K (R : Lvl A 900) (F : Fr h₀ L s.heap m) (N : News h₀ L s.heap news) (G : Gr w h₀) {a t : Addr} {us : Array Value} {n : Nat} {cs : List Col} {tc : Col} (hm : (a, W.listOf us n) ∈ news) (hcs : ColsAt s.heap us cs) (ht : ColIn news t tc) (hz : cs.length ≤ 49) (hne : 0 < cs.length)
    (k : ∀ D vs e h' tk B, Fr h₀ L h' m → News h₀ L h' ((D, W.listOf vs e) :: news) → LCg.Off1 D news → IntsAre vs.toList (colL B) → (∀ j, j < 3 → IsMax (pj j B) ((cs.map (liftC tc)).map (pj j))) → Q (.ref D) { s with heap := h', toks := tk }) :
    wpAny (model PR w) A (call (.ref 99) [.ref a, .ref t]) Q E s := by
  refine best_spec R (G.keeps F.keep) (N _ hm).1 hcs (ht.at N) (by rw [hcs.1]; omega) hne fun D vs e h' tk B kp hD hD' hi hB => ?_
  have hn : ∀ p ∈ [(D, W.listOf vs e)], h'.get? p.1 = some p.2 ∧ s.heap.get? p.1 = none := fun p hp => by rcases List.mem_singleton.mp hp with rfl; exact ⟨hD', hD⟩
  exact k D vs e h' tk B (F.grownK kp) (ext_K F N kp hn) (off1_of fun q hq => sep_of N hn _ (.head _) q hq) hi hB
theorem ColIn.at2 {news : List (Addr × Obj)} {h : Heap} {a : Addr} {c : Col} (x : ColIn news a c) (N : News h₀ L h news) (n : a ≠ 101) : ColAt (Zh h) a c := let ⟨vs, e, g, i⟩ := x.at N; ⟨vs, e, zh_get n g, i⟩
theorem told_K {tb : Obj} {o : Option Addr} {g : Obj → List (Addr × Obj)} {tl : List (Addr × Obj)} {a t r0 r1 r2 : Addr} {n : Nat} {c0 c1 c2 tc : Col} (R : Lvl A 800) (hz : h₀.get? 101 = none) (G : Gr w h₀) (cd : CodeHd h₀ 105 101) (F : Fr h₀ L s.heap m) (N : News h₀ L s.heap news)
    (T : TabK h₀ tl tb o) (htl : ∀ p ∈ tl, p ∈ news) (U : UpdF (101 : Addr) tb news g) (hm : (a, W.listOf #[.ref r0, .ref r1, .ref r2] n) ∈ news) (h0 : ColIn news r0 c0) (h1 : ColIn news r1 c1) (h2 : ColIn news r2 c2) (ht : ColIn news t tc)
    (na : a ≠ 101) (n0 : r0 ≠ 101) (n1 : r1 ≠ 101) (n2 : r2 ≠ 101) (nt : t ≠ 101)
    (hbd : ∀ c ∈ [c0, c1, c2], ∀ j, -3 ≤ (colL c).getD j 0 - (colL tc).getD j 0 ∧ (colL c).getD j 0 - (colL tc).getD j 0 ≤ 3) (htc : 0 ≤ tc.1 ∧ 0 ≤ tc.2.1 ∧ 0 ≤ tc.2.2)
    (k : ∀ x la lb lc us be na nb nc ex tb' o' h' tk, Fr h₀ L h' m → News h₀ L h' ((x, ({ cls := .type "tuple", data := .seq #[.ref la, .ref lb, .ref lc] } : Obj)) :: (la, W.listOf us na) :: (lb, W.listOf ((List.range 3).map fun j => Value.bool (decide (bestV tc c0 c1 c2 j = pj j tc))).toArray nb) :: (lc, W.listOf be nc) :: (g tb' ++ ex)) →
      TabK h₀ ex tb' o' → LCg.Off1 x news → LCg.Off1 la news → LCg.Off1 lb news → LCg.Off1 lc news → LCg.Off1 101 ex → ((@Ne Nat x 101) ∧ (@Ne Nat la 101) ∧ (@Ne Nat lb 101) ∧ (@Ne Nat lc 101)) →
      StrsAre us.toList (leftT tc [c0, c1, c2]) → IntsAre be.toList [bestV tc c0 c1 c2 0, bestV tc c0 c1 c2 1, bestV tc c0 c1 c2 2] → Q (.ref x) { s with heap := h', toks := tk }) :
    wpAny (model PR w) A (call (.ref 118) [.ref a, .ref t]) Q E s := by
  obtain ⟨pre, post, e, hg, p1, p2⟩ := U.split
  have htb : ((101 : Addr), tb) ∈ news := by rw [e]; simp
  refine told_spec R (gt_of hz G cd F N htb (T.mono htl)) (zh_get na (N _ hm).1) (h0.at2 N n0) (h1.at2 N n1) (h2.at2 N n2) (ht.at2 N nt) hbd htc fun x la lb lc us be na nb nc o' h' tk kp GT' hnw hS hB => ?_
  have up : ∀ b ob, h₀.get? b = some ob → h'.get? b = some ob := fun b ob eb => kp b ob (fun q => by rw [q, hz] at eb; cases eb) (F.keep b ob eb)
  have n101 := N _ htb
  have F' : Fr h₀ L h' m := ⟨F.ns.at' fun ob eb => kp L ob (Ne.symm n101.2.1) eb, up, F.above⟩
  have old : ∀ {b ob}, (b, ob) ∈ news → ∃ ob, s.heap.get? b = some ob := fun hb => ⟨_, (N _ hb).1⟩
  have h101 : ∃ ob, s.heap.get? 101 = some ob := old htb
  have fresh : ∀ {b ob}, h'.get? b = some ob ∧ s.heap.get? b = none → (h'.get? b = some ob ∧ b ≠ L ∧ h₀.get? b = none) ∧ LCg.Off1 b news ∧ (@Ne Nat b 101) := fun {b ob} hb => by
    refine ⟨⟨hb.1, fun q => ?_, ?_⟩, off1_of fun p hp q => ?_, fun q => ?_⟩
    · obtain ⟨o9, x1, x2, x3, x4⟩ := F.ns
      rw [q, x3] at hb; exact nomatch hb.2
    · cases q : h₀.get? b with
      | none => rfl
      | some ob' => have := F.keep _ _ q; rw [hb.2] at this; cases this
    · have := (N p hp).1; rw [q, hb.2] at this; cases this
    · obtain ⟨o9, ho9⟩ := h101
      have q' : b = (101 : Addr) := q
      rw [q', ho9] at hb; exact nomatch hb.2
  have fx := fresh (hnw _ (.head _))
  have fa := fresh (hnw _ (.tail _ (.head _)))
  have fb := fresh (hnw _ (.tail _ (.tail _ (.head _))))
  have fc := fresh (hnw _ (.tail _ (.tail _ (.tail _ (.head _)))))
  obtain ⟨tb', ht', ex, hex, hT'⟩ : ∃ tb', h'.get? 101 = some tb' ∧ ∃ ex, (News h₀ L h' ex ∧ LCg.Off1 101 ex) ∧ TabK h₀ ex tb' o' := by
    cases GT'.tab with
    | empty q => exact ⟨_, q, [], ⟨(fun p hp => nomatch hp), trivial⟩, rfl⟩
    | @full c q hc =>
      obtain ⟨c', oc, vs, t', ec, hoc, hd, hv⟩ := hc
      cases ec
      obtain ⟨nc9, hoc'⟩ := zh_of hoc
      cases q0 : h₀.get? c with
      | some ob =>
        have := up _ _ q0
        rw [hoc'] at this; cases this
        exact ⟨_, q, [], ⟨(fun p hp => nomatch hp), trivial⟩, rfl, .inl ⟨c, _, vs, t', rfl, q0, hd, hv⟩⟩
      | none =>
        refine ⟨_, q, [(c, oc)], ⟨fun p hp => ?_, ⟨nc9, trivial⟩⟩, rfl, .inr ⟨oc, vs, t', .head _, hd, hv⟩⟩
        rcases List.mem_singleton.mp hp with rfl
        refine ⟨hoc', fun qL => ?_, q0⟩
        obtain ⟨o9, x1, x2, x3, x4, _⟩ := F'.ns
        have qL' : c = L := qL
        rw [qL', x3] at hoc'; cases hoc'
        rw [hd] at x4; cases x4
  refine k x la lb lc us be na nb nc ex tb' o' h' tk F' (fun p hp => ?_) hT' fx.2.1 fa.2.1 fb.2.1 fc.2.1 hex.2 ⟨fx.2.2, fa.2.2, fb.2.2, fc.2.2⟩ hS hB
  rcases List.mem_cons.mp hp with rfl | hp
  · exact fx.1
  rcases List.mem_cons.mp hp with rfl | hp
  · exact fa.1
  rcases List.mem_cons.mp hp with rfl | hp
  · exact fb.1
  rcases List.mem_cons.mp hp with rfl | hp
  · exact fc.1
  rcases List.mem_append.mp hp with hp | hp
  · rw [hg] at hp
    rcases List.mem_append.mp hp with hp | hp
    · have hq : p ∈ news := by rw [e]; exact List.mem_append_left _ hp
      exact ⟨kp _ _ (p1 p hp) (N p hq).1, (N p hq).2⟩
    · rcases List.mem_cons.mp hp with rfl | hp
      · exact ⟨ht', n101.2⟩
      · have hq : p ∈ news := by rw [e]; exact List.mem_append_right _ (.tail _ hp)
        exact ⟨kp _ _ (p2 p hp) (N p hq).1, (N p hq).2⟩
  · exact hex.1 p hp
end
section
variable {prog : Program} {w : World} {A : Around} {E : Value → Shared → Prop} {h₀ : Heap} {L : Addr} {m : Str → Option Value} {news : List (Addr × Obj)} {Q : Value → Shared → Prop}
theorem slice_any {value slice : Expr} {l : Addr} {vs : List Value} {ns : List Int} {vl vu vk : Value} {lo hi st : Option Int} {ops : List Value} {h : Heap} {gn : _} {dr : _} {tk : Nat} {os : _}
    (F : Fr h₀ L h m) (N : News h₀ L h news) (hl : h₀.IsList l vs.toArray) (hi' : IntsAre vs ns) (hz : ¬ (63 : Int) < (ns.length : Int)) (pl : IsPart vl lo) (pu : IsPart vu hi) (pk : IsPart vk st) (h0 : st ≠ some 0)
    (k : ∀ h' a us n ms, Fr h₀ L h' m → News h₀ L h' ((a, W.listOf us n) :: news) → IntsAre us.toList ms → LCg.Off1 a news → Q (.ref a) ⟨h', gn, dr, tk, os⟩)
    (hs : subscripted slice false (.ref l) (.ref h.objs.size) = operate ops (getItem (.ref l) (.ref h.objs.size)) := by with_unfolding_all rfl)
    (ht : ∀ r, letTemporaryGo value (.ref l) r = pure () := by intro _; with_unfolding_all rfl) :
    wpAny (model prog w) A (subscriptTail value slice (.ref l) (.ref h.objs.size)) Q E ⟨h.push { cls := .type "slice", data := .fields #[vl, vu, vk] }, gn, dr, tk, os⟩ := by
  have hz' : vs.toArray.size ≤ sizeLine := by have := hi'.length; rw [sizeLine_eq, List.size_toArray]; omega
  refine slice_list3 (s := ⟨h, gn, dr, tk, os⟩) (m := m) (L := L) (h₀ := h₀) F N (by obtain ⟨o, e, r⟩ := hl; exact ⟨o, F.keep _ _ e, r⟩) pl pu pk h0 (fun h' F' N' => ?_) hs ht hz'
  refine k h' _ _ 0 (pickNums ns lo hi st) F' N' (hi'.pick lo hi st) (off1_of fun p hp => ?_)
  have hb : p.1 < h.objs.size := Heap.lt_size (N p hp).1
  exact Nat.ne_of_lt (Nat.lt_succ_of_lt hb)
theorem sum_M {s : Shared} {l : Addr} {us : Array Value} {n : Nat} {ms : List Int} (hh : A.handled = none) (F : Fr h₀ L s.heap m) (N : News h₀ L s.heap news) (hm : (l, W.listOf us n) ∈ news) (hi : IntsAre us.toList ms)
    (k : ∀ h' tk t' S, Fr h₀ L h' m → News h₀ L h' news → Q (.int S t') { s with heap := h', toks := tk }) :
    wpAny (model prog w) A (call (.builtin "sum") [.ref l]) Q E s := by
  obtain ⟨xs, hx⟩ := hi.allInts.items
  have hl : s.heap.IsList l (intItems xs) := by
    rw [← hx]
    exact ⟨_, (N _ hm).1, rfl, n, by simp [W.listOf]⟩
  exact sum_intListG hh hl fun h' tk t' hk => k h' tk t' _ (F.keeps hk) (N.grown hk)
end

def InB (c : Col) : Prop := (0 ≤ c.1 ∧ c.1 ≤ 3) ∧ (0 ≤ c.2.1 ∧ c.2.1 ≤ 3) ∧ (0 ≤ c.2.2 ∧ c.2.2 ≤ 3)
theorem mem_insC {l : List Col} {c d : Col} : d ∈ insC l c ↔ d ∈ l ∨ d = c := by
  unfold insC
  split
  · rename_i h; exact ⟨.inl, fun q => q.elim id fun e => e ▸ h⟩
  · simp
theorem mem_fold {α β : Type} {f : List Col → α → List Col} {P : α → Col → Prop} (hf : ∀ l a d, d ∈ f l a ↔ d ∈ l ∨ P a d) : ∀ (as : List α) (l : List Col) (d : Col), d ∈ as.foldl f l ↔ d ∈ l ∨ ∃ a ∈ as, P a d
  | [], l, d => by simp
  | a :: r, l, d => by
    rw [List.foldl_cons, mem_fold (β := β) hf r, hf]
    simp only [List.mem_cons]
    constructor
    · rintro ((h | h) | ⟨b, hb, h⟩)
      · exact .inl h
      · exact .inr ⟨a, .inl rfl, h⟩
      · exact .inr ⟨b, .inr hb, h⟩
    · rintro (h | ⟨b, rfl | hb, h⟩)
      · exact .inl (.inl h)
      · exact .inl (.inr h)
      · exact .inr ⟨b, hb, h⟩
theorem mem_stepMix {c m d : Col} {l : List Col} : d ∈ stepMix c l m 7 ↔ d ∈ l ∨ ∃ s ∈ shiftsL 7, d = mixC m c s := by
  unfold stepMix
  exact mem_fold (β := Unit) (P := fun s d => d = mixC m c s) (fun l a d => mem_insC) _ _ _
theorem mem_stepCol {c d : Col} {ms : List Col} : d ∈ stepCol ms c ↔ ∃ m ∈ ms, ∃ s ∈ shiftsL 7, d = mixC m c s := by
  unfold stepCol
  rw [mem_fold (β := Unit) (P := fun m d => ∃ s ∈ shiftsL 7, d = mixC m c s) (fun l a d => mem_stepMix)]
  simp
theorem sh_lo : (-3 : Int) ∈ shiftsL 7 := by decide
theorem sh_hi : (3 : Int) ∈ shiftsL 7 := by decide
def addC (c : Col) (s : Int) : Col := (c.1 + s, c.2.1 + s, c.2.2 + s)
def maxC (c d : Col) : Col := (max c.1 d.1, max c.2.1 d.2.1, max c.2.2 d.2.2)
def min3 (c : Col) : Int := min c.1 (min c.2.1 c.2.2)
theorem col_ext {c d : Col} (h0 : c.1 = d.1) (h1 : c.2.1 = d.2.1) (h2 : c.2.2 = d.2.2) : c = d := Prod.ext h0 (Prod.ext h1 h2)
theorem min2_add (x y s : Int) : min (x + s) (y + s) = min x y + s := by
  rcases Int.le_total x y with h | h
  · rw [Int.min_eq_left h, Int.min_eq_left (Int.add_le_add_right h s)]
  · rw [Int.min_eq_right h, Int.min_eq_right (Int.add_le_add_right h s)]
theorem max2_add (x y s : Int) : max (x + s) (y + s) = max x y + s := by
  rcases Int.le_total x y with h | h
  · rw [Int.max_eq_right h, Int.max_eq_right (Int.add_le_add_right h s)]
  · rw [Int.max_eq_left h, Int.max_eq_left (Int.add_le_add_right h s)]
theorem min2_neg (x y : Int) : min (-x) (-y) = -(max x y) := by
  rcases Int.le_total x y with h | h
  · rw [Int.max_eq_right h, Int.min_eq_right (Int.neg_le_neg h)]
  · rw [Int.max_eq_left h, Int.min_eq_left (Int.neg_le_neg h)]
theorem min3_add (c : Col) (s : Int) : min3 (addC c s) = min3 c + s := by
  show min (c.1 + s) (min (c.2.1 + s) (c.2.2 + s)) = _
  rw [min2_add, min2_add]; rfl
theorem add_add (c : Col) (s t : Int) : addC (addC c s) t = addC c (s + t) := col_ext (Int.add_assoc _ _ _) (Int.add_assoc _ _ _) (Int.add_assoc _ _ _)
theorem add_zero (c : Col) : addC c 0 = c := col_ext (Int.add_zero _) (Int.add_zero _) (Int.add_zero _)
theorem add_max (c d : Col) (s : Int) : addC (maxC c d) s = maxC (addC c s) (addC d s) := col_ext (max2_add _ _ _).symm (max2_add _ _ _).symm (max2_add _ _ _).symm
theorem max_assoc (c d e : Col) : maxC (maxC c d) e = maxC c (maxC d e) := col_ext (Int.max_assoc _ _ _) (Int.max_assoc _ _ _) (Int.max_assoc _ _ _)
theorem bare_def (c : Col) : bareC c = addC c (-(min3 c)) := rfl
theorem bare_eq (c : Col) : ∃ s, bareC c = addC c s := ⟨_, bare_def c⟩
theorem bare_add (c : Col) (s : Int) : bareC (addC c s) = bareC c := by
  rw [bare_def, bare_def, min3_add, add_add, show s + -(min3 c + s) = -(min3 c) by omega]
theorem mix_eq (m c : Col) (s : Int) : ∃ t, mixC m c s = addC (maxC m (addC c s)) t := ⟨_, rfl⟩
theorem pj_add (c : Col) (s : Int) (j : Nat) : pj j (addC c s) = pj j c + s := by
  match j with
  | 0 => rfl
  | 1 => rfl
  | j + 2 => rfl
theorem pj_max (c d : Col) (j : Nat) : pj j (maxC c d) = max (pj j c) (pj j d) := by
  match j with
  | 0 => rfl
  | 1 => rfl
  | j + 2 => rfl
def Spr (c : Col) : Prop := ∀ i j, pj i c - pj j c ≤ 3
theorem in_pj {c : Col} (h : InB c) (j : Nat) : 0 ≤ pj j c ∧ pj j c ≤ 3 := by
  match j with
  | 0 => exact h.1
  | 1 => exact h.2.1
  | j + 2 => exact h.2.2
theorem in_spr {c : Col} (h : InB c) : Spr c := fun i j => by
  have h1 := (in_pj h i).2
  have h2 := (in_pj h j).1
  clear h
  omega
theorem add_spr {c : Col} (s : Int) (h : Spr c) : Spr (addC c s) := fun i j => by
  have h1 := h i j
  rw [pj_add, pj_add]
  clear h
  omega
theorem max_spr {c d : Col} (hc : Spr c) (hd : Spr d) : Spr (maxC c d) := fun i j => by
  have h1 := hc i j
  have h2 := hd i j
  rw [pj_max, pj_max]
  have k1 := Int.le_max_left (pj j c) (pj j d)
  have k2 := Int.le_max_right (pj j c) (pj j d)
  clear hc hd
  generalize max (pj j c) (pj j d) = M at k1 k2 ⊢
  have : max (pj i c) (pj i d) ≤ 3 + M := Int.max_le.mpr ⟨by omega, by omega⟩
  omega
theorem min3_le (c : Col) (j : Nat) : min3 c ≤ pj j c := by
  match j with
  | 0 => exact Int.min_le_left _ _
  | 1 => exact Int.le_trans (Int.min_le_right _ _) (Int.min_le_left _ _)
  | j + 2 => exact Int.le_trans (Int.min_le_right _ _) (Int.min_le_right _ _)
theorem min3_at (c : Col) : ∃ j, min3 c = pj j c := by
  rcases Int.le_total c.1 (min c.2.1 c.2.2) with h | h
  · exact ⟨0, Int.min_eq_left h⟩
  · rcases Int.le_total c.2.1 c.2.2 with k | k
    · exact ⟨1, (Int.min_eq_right h).trans (Int.min_eq_left k)⟩
    · exact ⟨2, (Int.min_eq_right h).trans (Int.min_eq_right k)⟩
theorem bare_spr {c : Col} (h : Spr c) : InB (bareC c) := by
  obtain ⟨k, e⟩ := min3_at c
  have key : ∀ j, 0 ≤ pj j (bareC c) ∧ pj j (bareC c) ≤ 3 := fun j => by
    have h1 := h j k
    have h2 := min3_le c j
    rw [bare_def, pj_add]
    rw [← e] at h1
    clear e h
    omega
  exact ⟨key 0, key 1, key 2⟩
theorem bare_in {c : Col} (h : InB c) : InB (bareC c) := bare_spr (in_spr h)
theorem max_left {c d : Col} (h : ∀ j, pj j d ≤ pj j c) : maxC c d = c := col_ext (Int.max_eq_left (h 0)) (Int.max_eq_left (h 1)) (Int.max_eq_left (h 2))
theorem max_right {c d : Col} (h : ∀ j, pj j c ≤ pj j d) : maxC c d = d := col_ext (Int.max_eq_right (h 0)) (Int.max_eq_right (h 1)) (Int.max_eq_right (h 2))
theorem mix_keep {m c : Col} (hm : InB m) (hm0 : min m.1 (min m.2.1 m.2.2) = 0) (hc : InB c) : mixC m c (-3) = m := by
  show bareC (maxC m (addC c (-3))) = m
  rw [max_left fun j => ?_, bare_def, show min3 m = 0 from hm0]
  · exact add_zero m
  · have h1 := (in_pj hm j).1
    have h2 := (in_pj hc j).2
    rw [pj_add]
    clear hm hc hm0
    omega
theorem mix_take {m c : Col} (hm : InB m) (hc : InB c) : mixC m c 3 = bareC c := by
  show bareC (maxC m (addC c 3)) = bareC c
  rw [max_right fun j => ?_, bare_add]
  have h1 := (in_pj hm j).2
  have h2 := (in_pj hc j).1
  rw [pj_add]
  clear hm hc
  omega
theorem bare_zero (c : Col) : min (bareC c).1 (min (bareC c).2.1 (bareC c).2.2) = 0 := by
  show min3 (bareC c) = 0
  rw [bare_def, min3_add]
  exact Int.add_right_neg _
theorem bares_in {c0 c1 c2 : Col} (h0 : InB c0) (h1 : InB c1) (h2 : InB c2) : bareC c0 ∈ mixesT c0 c1 c2 ∧ bareC c1 ∈ mixesT c0 c1 c2 ∧ bareC c2 ∈ mixesT c0 c1 c2 := by
  have a0 : bareC c0 ∈ stepCol [bareC c0] c1 := mem_stepCol.mpr ⟨_, .head _, -3, sh_lo, (mix_keep (bare_in h0) (bare_zero _) h1).symm⟩
  have a1 : bareC c1 ∈ stepCol [bareC c0] c1 := mem_stepCol.mpr ⟨_, .head _, 3, sh_hi, (mix_take (bare_in h0) h1).symm⟩
  exact ⟨mem_stepCol.mpr ⟨_, a0, -3, sh_lo, (mix_keep (bare_in h0) (bare_zero _) h2).symm⟩, mem_stepCol.mpr ⟨_, a1, -3, sh_lo, (mix_keep (bare_in h1) (bare_zero _) h2).symm⟩, mem_stepCol.mpr ⟨_, a0, 3, sh_hi, (mix_take (bare_in h0) h2).symm⟩⟩
theorem mixes_pos {c0 c1 c2 : Col} (h0 : InB c0) (h1 : InB c1) (h2 : InB c2) : 0 < (mixesT c0 c1 c2).length := List.length_pos_of_mem (bares_in h0 h1 h2).1
theorem mixes_form {c0 c1 c2 d : Col} (h : d ∈ mixesT c0 c1 c2) : ∃ s0 s1 s2, d = maxC (addC c0 s0) (maxC (addC c1 s1) (addC c2 s2)) := by
  obtain ⟨m, hm, s, _, rfl⟩ := mem_stepCol.mp h
  obtain ⟨m', hm', s', _, rfl⟩ := mem_stepCol.mp hm
  rw [List.mem_singleton] at hm'
  subst hm'
  obtain ⟨t0, e0⟩ := bare_eq c0
  rw [e0]
  obtain ⟨t1, e1⟩ := mix_eq (addC c0 t0) c1 s'
  rw [e1]
  obtain ⟨t2, e2⟩ := mix_eq (addC (maxC (addC c0 t0) (addC c1 s')) t1) c2 s
  rw [e2, add_max, add_max, add_max, add_add, add_add, add_add, add_add, add_add, max_assoc]
  exact ⟨_, _, _, rfl⟩
theorem room_neg (tc c : Col) : roomC tc c = -(topC tc c) := by
  unfold roomC topC
  rw [← min2_neg, ← min2_neg, Int.neg_sub, Int.neg_sub, Int.neg_sub]
theorem room_add (tc c : Col) (s : Int) : roomC tc (addC c s) = roomC tc c + -s := by
  have e : ∀ x y : Int, x - (y + s) = (x - y) + -s := by intros; omega
  unfold roomC addC
  simp only [e, min2_add]
theorem lift_def (tc c : Col) : liftC tc c = addC c (roomC tc c) := rfl
theorem lift_bare (tc c : Col) : liftC tc (bareC c) = addC c (-(topC tc c)) := by
  rw [lift_def, bare_def, room_add, add_add, ← room_neg, show -(min3 c) + (roomC tc c + -(-(min3 c))) = roomC tc c by omega]
theorem top_le {tc c : Col} {x : Int} (h : ∀ j, j < 3 → pj j c - pj j tc ≤ x) : topC tc c ≤ x := by
  have h0 : c.1 - tc.1 ≤ x := h 0 (by decide)
  have h1 : c.2.1 - tc.2.1 ≤ x := h 1 (by decide)
  have h2 : c.2.2 - tc.2.2 ≤ x := h 2 (by decide)
  unfold topC; omega
theorem room_le (tc d : Col) (j : Nat) : roomC tc d ≤ pj j tc - pj j d := by
  unfold roomC
  match j with
  | 0 => simp only [pj]; omega
  | 1 => simp only [pj]; omega
  | j + 2 => simp only [pj]; omega
theorem pj_lift (tc d : Col) (j : Nat) : pj j (liftC tc d) = pj j d + roomC tc d := by
  match j with
  | 0 => rfl
  | 1 => rfl
  | j + 2 => rfl
theorem lift_le {tc c0 c1 c2 : Col} {s0 s1 s2 : Int} {j : Nat} : pj j (liftC tc (maxC (addC c0 s0) (maxC (addC c1 s1) (addC c2 s2)))) ≤ bestV tc c0 c1 c2 j := by
  generalize hd : maxC (addC c0 s0) (maxC (addC c1 s1) (addC c2 s2)) = d
  have e : ∀ k, pj k d = max (pj k c0 + s0) (max (pj k c1 + s1) (pj k c2 + s2)) := fun k => by rw [← hd, pj_max, pj_max, pj_add, pj_add, pj_add]
  have key : ∀ c s, (∀ k, pj k c + s ≤ pj k d) → pj j c + s + roomC tc d ≤ pj j c - topC tc c := by
    intro c s h
    have := top_le (tc := tc) (c := c) (x := -s - roomC tc d) fun k _ => by have := h k; have := room_le tc d k; omega
    omega
  have k0 := key c0 s0 fun k => by have := e k; omega
  have k1 := key c1 s1 fun k => by have := e k; omega
  have k2 := key c2 s2 fun k => by have := e k; omega
  rw [pj_lift]
  have ej := e j
  unfold bestV
  omega
theorem best_eq {tc c0 c1 c2 B : Col} (h0 : InB c0) (h1 : InB c1) (h2 : InB c2) (h : ∀ j, j < 3 → IsMax (pj j B) (((mixesT c0 c1 c2).map (liftC tc)).map (pj j))) : B = (bestV tc c0 c1 c2 0, bestV tc c0 c1 c2 1, bestV tc c0 c1 c2 2) := by
  have key : ∀ j, j < 3 → pj j B = bestV tc c0 c1 c2 j := by
    intro j hj
    obtain ⟨ha, hb⟩ := h j hj
    have le : pj j B ≤ bestV tc c0 c1 c2 j := by
      rw [List.map_map] at ha
      obtain ⟨d, hd, e⟩ := List.mem_map.mp ha
      obtain ⟨s0, s1, s2, rfl⟩ := mixes_form hd
      rw [← e]
      exact lift_le
    have ge : ∀ c, bareC c ∈ mixesT c0 c1 c2 → pj j c - topC tc c ≤ pj j B := by
      intro c hc
      have := hb (pj j (liftC tc (bareC c))) (List.mem_map_of_mem (List.mem_map_of_mem hc))
      rw [lift_bare, pj_add] at this
      omega
    obtain ⟨b0, b1, b2⟩ := bares_in h0 h1 h2
    have g0 := ge _ b0
    have g1 := ge _ b1
    have g2 := ge _ b2
    unfold bestV at le ⊢
    omega
  exact col_ext (key 0 (by decide)) (key 1 (by decide)) (key 2 (by decide))
def bestC (tc c0 c1 c2 : Col) : Col := (bestV tc c0 c1 c2 0, bestV tc c0 c1 c2 1, bestV tc c0 c1 c2 2)
theorem bestV_le (tc c0 c1 c2 : Col) (j : Nat) : bestV tc c0 c1 c2 j ≤ pj j tc := by
  have h0 := pj_top tc c0 j
  have h1 := pj_top tc c1 j
  have h2 := pj_top tc c2 j
  unfold bestV; omega
theorem best_form (tc c0 c1 c2 : Col) : bestC tc c0 c1 c2 = maxC (addC c0 (-(topC tc c0))) (maxC (addC c1 (-(topC tc c1))) (addC c2 (-(topC tc c2)))) := rfl
theorem near_in {tc c0 c1 c2 : Col} (h0 : InB c0) (h1 : InB c1) (h2 : InB c2) : InB (bareC (bestC tc c0 c1 c2)) := by
  rw [best_form]
  exact bare_spr (max_spr (add_spr _ (in_spr h0)) (max_spr (add_spr _ (in_spr h1)) (add_spr _ (in_spr h2))))
theorem top_add (c d : Col) (s : Int) : topC (addC d s) c = topC d c - s := by
  have e : ∀ x y : Int, x - (y + s) = (x - y) + -s := by intros; omega
  unfold topC addC
  simp only [e, max2_add]
  rfl
theorem near_best {tc c0 c1 c2 : Col} {j : Nat} : bestV (bareC (bestC tc c0 c1 c2)) c0 c1 c2 j = pj j (bareC (bestC tc c0 c1 c2)) := by
  obtain ⟨s, e⟩ := bare_eq (bestC tc c0 c1 c2)
  rw [e, pj_add]
  generalize hb : bestC tc c0 c1 c2 = b
  have eb : ∀ k, k < 3 → pj k b = max (pj k c0 - topC tc c0) (max (pj k c1 - topC tc c1) (pj k c2 - topC tc c2)) := fun k hk => by
    rw [← hb]
    match k, hk with
    | 0, _ => rfl
    | 1, _ => rfl
    | 2, _ => rfl
  have eb' : ∀ k, pj k b = max (pj k c0 - topC tc c0) (max (pj k c1 - topC tc c1) (pj k c2 - topC tc c2)) := fun k => by
    match k with
    | 0 => exact eb 0 (by decide)
    | 1 => exact eb 1 (by decide)
    | k + 2 => exact eb 2 (by decide)
  have t0 := top_le (tc := b) (c := c0) (x := topC tc c0) fun k _ => by have := eb' k; omega
  have t1 := top_le (tc := b) (c := c1) (x := topC tc c1) fun k _ => by have := eb' k; omega
  have t2 := top_le (tc := b) (c := c2) (x := topC tc c2) fun k _ => by have := eb' k; omega
  have p0 := pj_top b c0 j
  have p1 := pj_top b c1 j
  have p2 := pj_top b c2 j
  have ej := eb' j
  unfold bestV
  rw [top_add, top_add, top_add]
  omega
abbrev nmR : Str := Str.ofString "red"
abbrev nmG : Str := Str.ofString "green"
abbrev nmB : Str := Str.ofString "blue"
def lackK (b t : Col) : Nat → List Str
  | 0 => []
  | 1 => if b.1 < t.1 then [nmR] else []
  | 2 => (if b.1 < t.1 then [nmR] else []) ++ (if b.2.1 < t.2.1 then [nmG] else [])
  | _ => ((if b.1 < t.1 then [nmR] else []) ++ (if b.2.1 < t.2.1 then [nmG] else [])) ++ (if b.2.2 < t.2.2 then [nmB] else [])
theorem lackK_succ {b t : Col} {i : Nat} {v : Str} (h : [nmR, nmG, nmB][i]? = some v) : lackK b t (i + 1) = lackK b t i ++ (if pj i b < pj i t then [v] else []) := by
  match i, h with
  | 0, h => cases h; rfl
  | 1, h => cases h; rfl
  | 2, h => cases h; rfl
  | i + 3, h => simp at h
theorem rgb_ne : (nmR == nmG) = false ∧ (nmR == nmB) = false ∧ (nmG == nmR) = false ∧ (nmG == nmB) = false ∧ (nmB == nmR) = false ∧ (nmB == nmG) = false := by decide +kernel
theorem has_r (tc c : Col) : (underT tc c).contains nmR = decide (c.1 - tc.1 < topC tc c) := by
  obtain ⟨a, b, d, e, f, g⟩ := rgb_ne
  unfold underT undK
  by_cases h0 : c.1 - tc.1 < topC tc c <;> by_cases h1 : c.2.1 - tc.2.1 < topC tc c <;> by_cases h2 : c.2.2 - tc.2.2 < topC tc c <;> simp only [h0, h1, h2, if_true, if_false, List.nil_append, List.cons_append, List.append_nil, List.contains_cons, List.contains_nil, beq_self_eq_true, a, b, d, e, f, g, Bool.or_false, Bool.false_or, Bool.true_or, Bool.or_true, decide_true, decide_false]
theorem has_g (tc c : Col) : (underT tc c).contains nmG = decide (c.2.1 - tc.2.1 < topC tc c) := by
  obtain ⟨a, b, d, e, f, g⟩ := rgb_ne
  unfold underT undK
  by_cases h0 : c.1 - tc.1 < topC tc c <;> by_cases h1 : c.2.1 - tc.2.1 < topC tc c <;> by_cases h2 : c.2.2 - tc.2.2 < topC tc c <;> simp only [h0, h1, h2, if_true, if_false, List.nil_append, List.cons_append, List.append_nil, List.contains_cons, List.contains_nil, beq_self_eq_true, a, b, d, e, f, g, Bool.or_false, Bool.false_or, Bool.true_or, Bool.or_true, decide_true, decide_false]
theorem has_b (tc c : Col) : (underT tc c).contains nmB = decide (c.2.2 - tc.2.2 < topC tc c) := by
  obtain ⟨a, b, d, e, f, g⟩ := rgb_ne
  unfold underT undK
  by_cases h0 : c.1 - tc.1 < topC tc c <;> by_cases h1 : c.2.1 - tc.2.1 < topC tc c <;> by_cases h2 : c.2.2 - tc.2.2 < topC tc c <;> simp only [h0, h1, h2, if_true, if_false, List.nil_append, List.cons_append, List.append_nil, List.contains_cons, List.contains_nil, beq_self_eq_true, a, b, d, e, f, g, Bool.or_false, Bool.false_or, Bool.true_or, Bool.or_true, decide_true, decide_false]
theorem filter3 (p : Str → Bool) (a b c : Str) : [a, b, c].filter p = ((if p a = true then [a] else []) ++ (if p b = true then [b] else [])) ++ (if p c = true then [c] else []) := by
  simp only [List.filter_cons, List.filter_nil]
  cases p a <;> cases p b <;> cases p c <;> rfl
theorem lack_eq (tc c0 c1 c2 : Col) : lackK (bestC tc c0 c1 c2) tc 3 = leftT tc [c0, c1, c2] := by
  have e : leftT tc [c0, c1, c2] = [nmR, nmG, nmB].filter fun x => (underT tc c2).contains x && ((underT tc c1).contains x && (underT tc c0).contains x) := by
    unfold leftT
    simp only [List.foldl_cons, List.foldl_nil, List.filter_filter]
  rw [e, filter3]
  simp only [has_r, has_g, has_b, Bool.and_eq_true, decide_eq_true_eq]
  unfold lackK bestC bestV
  simp only [pj]
  have k : ∀ a b c x y z t : Int, (max (x - a) (max (y - b) (z - c)) < t) ↔ (z - t < c ∧ y - t < b ∧ x - t < a) := by intros; omega
  simp only [k]
theorem near_left (c0 c1 c2 n : Col) (h : ∀ j, bestV n c0 c1 c2 j = pj j n) : leftT n [c0, c1, c2] = [] := by
  rw [← lack_eq]
  have h0 : (bestC n c0 c1 c2).1 = n.1 := h 0
  have h1 : (bestC n c0 c1 c2).2.1 = n.2.1 := h 1
  have h2 : (bestC n c0 c1 c2).2.2 = n.2.2 := h 2
  unfold lackK
  rw [h0, h1, h2]
  simp
theorem near_full (c0 c1 c2 n : Col) (h : ∀ j, bestV n c0 c1 c2 j = pj j n) : ((List.range 3).map fun j => Value.bool (decide (bestV n c0 c1 c2 j = pj j n))).toArray = #[.bool true, .bool true, .bool true] := by
  simp only [h, decide_true]
  rfl
theorem near_ints (c0 c1 c2 n : Col) (h : ∀ j, bestV n c0 c1 c2 j = pj j n) : [bestV n c0 c1 c2 0, bestV n c0 c1 c2 1, bestV n c0 c1 c2 2] = colL n := by
  rw [h, h, h]
  rfl
theorem full_eq (tc c0 c1 c2 : Col) : ((List.range 3).map fun j => Value.bool (decide (bestV tc c0 c1 c2 j = pj j tc))).toArray = ((List.range 3).map fun j => Value.bool (decide (pj j (bestC tc c0 c1 c2) = pj j tc))).toArray := rfl
theorem hbd_of {c0 c1 c2 t : Col} (h0 : InB c0) (h1 : InB c1) (h2 : InB c2) (ht : InB t) : ∀ c ∈ [c0, c1, c2], ∀ j, -3 ≤ (colL c).getD j 0 - (colL t).getD j 0 ∧ (colL c).getD j 0 - (colL t).getD j 0 ≤ 3 := by
  have key : ∀ c, InB c → ∀ j, -3 ≤ (colL c).getD j 0 - (colL t).getD j 0 ∧ (colL c).getD j 0 - (colL t).getD j 0 ≤ 3 := by
    intro c hc j
    unfold InB at *
    match j with
    | 0 => simp [colL]; omega
    | 1 => simp [colL]; omega
    | 2 => simp [colL]; omega
    | j + 3 => simp [colL]
  intro c hc
  simp only [List.mem_cons, List.not_mem_nil, or_false] at hc
  rcases hc with rfl | rfl | rfl
  · exact key _ h0
  · exact key _ h1
  · exact key _ h2
section
variable {w : World} {A : Around} {s : Shared} {Q : Value → Shared → Prop} {E : Value → Shared → Prop} {h₀ : Heap} {L : Addr} {m : Str → Option Value} {news : List (Addr × Obj)}
theorem list_eqAt1 {l b : Addr} {us vs : Array Value} {n n' : Nat} (N : News h₀ L s.heap news) (hl : (l, W.listOf us n) ∈ news) (hb : (b, W.listOf vs n') ∈ news) (hne : l ≠ b) (hz : us.size = vs.size) (hu : A.units < cLine) (h : ∀ j (h1 : j < us.size) (h2 : j < vs.size), SeqAt.EqAt A.in1 s us[j] vs[j] true) :
    SeqAt.EqAt A s (.ref l) (.ref b) true := by
  have := SeqAt.RcAt.lists (A := A) (s := s) (e := fun _ => true) ⟨_, (N _ hl).1, rfl, n, rfl⟩ ⟨_, (N _ hb).1, rfl, n', rfl⟩ hz hu h
  rw [show ((List.range us.size).all fun _ => true) = true by simp] at this
  exact .of_refs hne this
theorem strs_eqAt {us vs : Array Value} {xs : List Str} (hu : StrsAre us.toList xs) (hv : StrsAre vs.toList xs) : us.size = vs.size ∧ ∀ j (h1 : j < us.size) (h2 : j < vs.size), SeqAt.EqAt A s us[j] vs[j] true := by
  have e1 := strs_len hu
  have e2 := strs_len hv
  simp only [Array.length_toList] at e1 e2
  refine ⟨e1.trans e2.symm, fun j h1 h2 => ?_⟩
  obtain ⟨t, f1⟩ := hu.at (show xs[j]? = some xs[j] by simp [← e1, h1])
  obtain ⟨u, f2⟩ := hv.at (show xs[j]? = some xs[j] by simp [← e1, h1])
  have g1 : us[j] = .str xs[j] t := by simpa [h1] using f1
  have g2 : vs[j] = .str xs[j] u := by simpa [h2] using f2
  rw [g1, g2]
  have := SeqAt.EqAt.str_str (A := A) (s := s) xs[j] t xs[j] u
  rwa [beq_self_eq_true] at this
theorem ints_eqAt {us vs : Array Value} {xs : List Int} (hu : IntsAre us.toList xs) (hv : IntsAre vs.toList xs) : us.size = vs.size ∧ ∀ j (h1 : j < us.size) (h2 : j < vs.size), SeqAt.EqAt A s us[j] vs[j] true := by
  have e1 := hu.length
  have e2 := hv.length
  simp only [Array.length_toList] at e1 e2
  refine ⟨e1.trans e2.symm, fun j h1 h2 => ?_⟩
  obtain ⟨t, f1⟩ := hu.get j xs[j] (by simp [← e1, h1])
  obtain ⟨u, f2⟩ := hv.get j xs[j] (by simp [← e1, h1])
  have g1 : us[j] = .int xs[j] t := by simpa [h1] using f1
  have g2 : vs[j] = .int xs[j] u := by simpa [h2] using f2
  rw [g1, g2]
  have := SeqAt.EqAt.int_int (A := A) (s := s) xs[j] t xs[j] u
  rwa [beq_self_eq_true] at this
abbrev tup3 (a b c : Addr) : Obj := { cls := .type "tuple", data := .seq #[.ref a, .ref b, .ref c] }
theorem told_eqs {la lb lc ya yb yc : Addr} {us us' bs bs' be be' : Array Value} {na nb nc na' nb' nc' : Nat} {xs xs' : List Str} {is is' : List Int} (N : News h₀ L s.heap news)
    (h1 : (la, W.listOf us na) ∈ news) (h2 : (lb, W.listOf bs nb) ∈ news) (h3 : (lc, W.listOf be nc) ∈ news) (g1 : (ya, W.listOf us' na') ∈ news) (g2 : (yb, W.listOf bs' nb') ∈ news) (g3 : (yc, W.listOf be' nc') ∈ news)
    (s1 : StrsAre us.toList xs) (s2 : StrsAre us'.toList xs') (i1 : IntsAre be.toList is) (i2 : IntsAre be'.toList is') (ex : xs = xs') (eb : bs = bs') (ei : is = is') (n1 : la ≠ ya) (n2 : lb ≠ yb) (n3 : lc ≠ yc) (hu : A.units < cLine) :
    ∀ j (k1 : j < (#[Value.ref la, .ref lb, .ref lc] : Array Value).size) (k2 : j < (#[Value.ref ya, .ref yb, .ref yc] : Array Value).size), SeqAt.EqAt A s (#[Value.ref la, .ref lb, .ref lc] : Array Value)[j] (#[Value.ref ya, .ref yb, .ref yc] : Array Value)[j] true := by
  subst ex eb ei
  have a1 := strs_eqAt (A := A.in1) (s := s) s1 s2
  have a3 := ints_eqAt (A := A.in1) (s := s) i1 i2
  intro j k1 k2
  match j, k1 with
  | 0, _ => exact list_eqAt1 N h1 g1 n1 a1.1 hu a1.2
  | 1, _ => exact list_eqAt1 N h2 g2 n2 rfl hu fun j _ _ => SeqAt.EqAt.same _
  | 2, _ => exact list_eqAt1 N h3 g3 n3 a3.1 hu a3.2
theorem ne_K {x y la lb lc ya yb yc : Addr} {us us' bs bs' be be' : Array Value} {na nb nc na' nb' nc' : Nat} {xs xs' : List Str} {is is' : List Int} (N : News h₀ L s.heap news) (hx : (x, tup3 la lb lc) ∈ news) (hy : (y, tup3 ya yb yc) ∈ news)
    (h1 : (la, W.listOf us na) ∈ news) (h2 : (lb, W.listOf bs nb) ∈ news) (h3 : (lc, W.listOf be nc) ∈ news) (g1 : (ya, W.listOf us' na') ∈ news) (g2 : (yb, W.listOf bs' nb') ∈ news) (g3 : (yc, W.listOf be' nc') ∈ news)
    (s1 : StrsAre us.toList xs) (s2 : StrsAre us'.toList xs') (i1 : IntsAre be.toList is) (i2 : IntsAre be'.toList is') (ex : xs = xs') (eb : bs = bs') (ei : is = is') (n1 : la ≠ ya) (n2 : lb ≠ yb) (n3 : lc ≠ yc) (hu : A.in1.units < cLine) (hu' : A.units < cLine) (h : Q (.bool false) s) :
    wpAny (model PR w) A (compareOp .NotEq (.ref x) (.ref y)) Q E s := by
  have := SeqAt.RcNeAt.tuples (A := A) (s := s) (e := fun _ => true) ⟨_, (N _ hx).1, rfl, 0, rfl⟩ ⟨_, (N _ hy).1, rfl, 0, rfl⟩ hu' (told_eqs N h1 h2 h3 g1 g2 g3 s1 s2 i1 i2 ex eb ei n1 n2 n3 hu)
  exact this PR w E Q h
theorem eq_K {x y la lb lc ya yb yc : Addr} {us us' bs bs' be be' : Array Value} {na nb nc na' nb' nc' : Nat} {xs xs' : List Str} {is is' : List Int} (N : News h₀ L s.heap news) (hx : (x, tup3 la lb lc) ∈ news) (hy : (y, tup3 ya yb yc) ∈ news)
    (h1 : (la, W.listOf us na) ∈ news) (h2 : (lb, W.listOf bs nb) ∈ news) (h3 : (lc, W.listOf be nc) ∈ news) (g1 : (ya, W.listOf us' na') ∈ news) (g2 : (yb, W.listOf bs' nb') ∈ news) (g3 : (yc, W.listOf be' nc') ∈ news)
    (s1 : StrsAre us.toList xs) (s2 : StrsAre us'.toList xs') (i1 : IntsAre be.toList is) (i2 : IntsAre be'.toList is') (ex : xs = xs') (eb : bs = bs') (ei : is = is') (n1 : la ≠ ya) (n2 : lb ≠ yb) (n3 : lc ≠ yc) (hu : A.in1.units < cLine) (hu' : A.units < cLine) (h : Q (.bool true) s) :
    wpAny (model PR w) A (compareOp .Eq (.ref x) (.ref y)) Q E s := by
  have := SeqAt.RcAt.tuples (A := A) (s := s) (e := fun _ => true) ⟨_, (N _ hx).1, rfl, 0, rfl⟩ ⟨_, (N _ hy).1, rfl, 0, rfl⟩ hu' (told_eqs N h1 h2 h3 g1 g2 g3 s1 s2 i1 i2 ex eb ei n1 n2 n3 hu)
  exact this PR w E Q h
theorem cols3 {ps : List (Addr × Obj)} {ys : List Value} {c0 c1 c2 : Col} (h : ColsIn ps ys.toArray [c0, c1, c2]) : ∃ r0 r1 r2, ys = [.ref r0, .ref r1, .ref r2] ∧ ColIn ps r0 c0 ∧ ColIn ps r1 c1 ∧ ColIn ps r2 c2 := by
  have hz := h.1
  match ys, hz with
  | [a, b, c], _ =>
    obtain ⟨r0, d0, e0, f0, g0⟩ := h.2 0 a rfl
    obtain ⟨r1, d1, e1, f1, g1⟩ := h.2 1 b rfl
    obtain ⟨r2, d2, e2, f2, g2⟩ := h.2 2 c rfl
    cases f0; cases f1; cases f2
    subst e0 e1 e2
    exact ⟨r0, r1, r2, rfl, g0, g1, g2⟩
theorem len3 {α : Type} {l : List α} (h : l.length = 3) : ∃ a b c, l = [a, b, c] := by
  match l, h with
  | [a, b, c], _ => exact ⟨a, b, c, rfl⟩
theorem pal_end {h' : Heap} {s₁ : Shared} {wr : List Addr} {own front ps : List (Addr × Obj)} {C D D' : Addr} {oC : Obj} {ys : List Value} {vs : Array Value} {e tk i : Nat} {p1 p2 : Addr × Obj} {tb : Obj} {cs : List Col} {c : Col}
    (F9 : Fr h₀ L h' m) (N9 : News h₀ L h' ((D', W.listOf vs e) :: (front ++ ((C, oC) :: (D, LCg.lst ys) :: p1 :: p2 :: (101, tb) :: (ps ++ own))))) (o : LCg.Off1 D' (front ++ ((C, oC) :: (D, LCg.lst ys) :: p1 :: p2 :: (101, tb) :: (ps ++ own))))
    (off : ∀ p ∈ p1 :: p2 :: (101, tb) :: ps, p.1 ∉ wr ∧ p.1 ≠ C ∧ p.1 ≠ D) (hw : ∀ b ∈ wr, ∃ o, (b, o) ∈ own) (hi : IntsAre vs.toList (colL c)) (hP : ColsIn ps ys.toArray cs) (hl3 : cs.length = i) (hB : ∀ c ∈ cs, InB c) (hc : InB c) (hO : LCg.Off1 101 ps) :
    TupEnd h₀ L m s₁ wr own C oC D ys (fun y nw => ∃ ps cs, nw = p1 :: p2 :: (101, tb) :: ps ∧ ColsIn ps (ys ++ [y]).toArray cs ∧ cs.length = i + 1 ∧ (∀ c ∈ cs, InB c) ∧ LCg.Off1 101 ps) (.ref D') { s₁ with heap := h', toks := tk } := by
  have o' := off1_mem o
  refine ⟨h', tk, p1 :: p2 :: (101, tb) :: (ps ++ [(D', W.listOf vs e)]), rfl, F9, news_sub2 N9 fun p hp => ?_, fun p hp => ?_, ps ++ [(D', W.listOf vs e)], cs ++ [c], rfl, ?_, by simp [hl3], ?_, ?_⟩
  · simp only [List.mem_cons, List.mem_append, List.not_mem_nil, or_false, List.cons_append, List.nil_append, List.append_assoc] at hp ⊢
    rcases hp with h | h | h | h | h | h | h | h <;> simp [h]
  · have hD : ∀ q ∈ own, q.1 ≠ D' := fun q hq => o' q (List.mem_append_right _ (.tail _ (.tail _ (.tail _ (.tail _ (.tail _ (List.mem_append_right _ hq)))))))
    have hp' : p ∈ p1 :: p2 :: (101, tb) :: ps ∨ p = (D', W.listOf vs e) := by
      simp only [List.mem_cons, List.mem_append, List.not_mem_nil, or_false] at hp ⊢
      rcases hp with h | h | h | h | h <;> simp [h]
    rcases hp' with hp | rfl
    · exact off p hp
    · exact ⟨fun hb => let ⟨ob, hm⟩ := hw _ hb; hD _ hm rfl, Ne.symm (o' (C, oC) (List.mem_append_right _ (.head _))), Ne.symm (o' (D, LCg.lst ys) (List.mem_append_right _ (.tail _ (.head _))))⟩
  · have := hP.push (news' := ps ++ [(D', W.listOf vs e)]) (fun p hp => List.mem_append_left _ hp) (a := D') (c := c) ⟨vs, e, List.mem_append_right _ (.head _), hi⟩
    simpa using this
  · intro d hd
    rcases List.mem_append.mp hd with hd | hd
    · exact hB d hd
    · rw [List.mem_singleton.mp hd]; exact hc
  · refine off1_of fun p hp => ?_
    rcases List.mem_append.mp hp with hp | hp
    · exact off1_mem hO p hp
    · rw [List.mem_singleton.mp hp]
      exact Ne.symm (o' (101, tb) (List.mem_append_right _ (.tail _ (.tail _ (.tail _ (.tail _ (.head _)))))))
end
theorem colAt_in {h₀ h : Heap} {L a : Addr} {news : List (Addr × Obj)} {vs : Array Value} {e : Nat} {c : Col} (N : News h₀ L h news) (hm : (a, W.listOf vs e) ∈ news) (hi : IntsAre vs.toList (colL c)) : ColAt h a c := ⟨vs, e, (N _ hm).1, hi⟩
theorem str3_of {t u v : Tok} {i : Nat} {x : Value} (h : (#[Value.str nmR t, .str nmG u, .str nmB v] : Array Value)[i]? = some x) : ∃ y z, x = .str y z ∧ [nmR, nmG, nmB][i]? = some y := by
  match i, h with
  | 0, h => cases h; exact ⟨_, _, rfl, rfl⟩
  | 1, h => cases h; exact ⟨_, _, rfl, rfl⟩
  | 2, h => cases h; exact ⟨_, _, rfl, rfl⟩
  | i + 3, h => simp at h
theorem col_item {vs : Array Value} {c : Col} {i : Nat} {x : Value} (hi : IntsAre vs.toList (colL c)) (h : vs[i]? = some x) : ∃ z, x = .int (pj i c) z := by
  have h' : vs.toList[i]? = some x := by simpa using h
  have hlt : i < 3 := by
    have := (List.getElem?_eq_some_iff.mp h').1
    rw [hi.length] at this; exact this
  have hc : (colL c)[i]? = some (pj i c) := by
    match i, hlt with
    | 0, _ => rfl
    | 1, _ => rfl
    | 2, _ => rfl
  obtain ⟨t, e⟩ := hi.get i _ hc
  rw [h'] at e
  cases e
  exact ⟨t, rfl⟩
theorem lack_yes {b t : Col} {i : Nat} {v : Str} {z : Tok} {ys : List Value} (hv : [nmR, nmG, nmB][i]? = some v) (hy : StrsAre ys (lackK b t i)) (c : pj i b < pj i t) : StrsAre (ys ++ [.str v z]) (lackK b t (i + 1)) := by
  rw [lackK_succ hv, if_pos c]
  exact strsAre_append hy (.cons _ _ .nil)
theorem lack_no {b t : Col} {i : Nat} {v : Str} {ys : List Value} (hv : [nmR, nmG, nmB][i]? = some v) (hy : StrsAre ys (lackK b t i)) (c : ¬ pj i b < pj i t) : StrsAre ys (lackK b t (i + 1)) := by
  rw [lackK_succ hv, if_neg c, List.append_nil]
  exact hy
theorem lackK_len (b t : Col) (i : Nat) : (lackK b t i).length ≤ i := by
  match i with
  | 0 => exact Nat.le_refl _
  | 1 => simp only [lackK]; split <;> simp
  | 2 => simp only [lackK]; split <;> split <;> simp
  | i + 3 => simp only [lackK]; split <;> split <;> split <;> simp <;> omega
theorem TabK.obj {h₀ : Heap} {l : List (Addr × Obj)} {tb : Obj} {o : Option Addr} (h : TabK h₀ l tb o) : ∃ ps, tb = tabObj ps := by
  cases o with
  | none => exact ⟨_, h⟩
  | some c => exact ⟨_, h.1⟩

theorem fillL : PySem.Challenge.rw_rl0034_01 = PySem.Challenge.rw_rl0034_01 ∧ hd.heap_1 = hd.heap_1 := by
  k_fill
  exact ⟨rfl, rfl⟩
theorem words_LLaw_0 : True := by
  k_with_none
  (k_with "mine lvl" => (exact lvl_of rfl rfl rfl rfl))
  (k_with "mine tl" => (first | with_reducible assumption | (refine List.mem_cons_of_mem _ ?_; k_extra "mine tl") | (refine app_tl ?_; k_extra "mine tl") | (refine app_tr ?_; k_extra "mine tl")))
  (k_with "mine mem" => (first | exact List.Mem.head _ | with_reducible assumption | (refine List.mem_cons_of_mem _ ?_; k_extra "mine mem") | (refine app_tl ?_; k_extra "mine mem") | (refine app_tr ?_; k_extra "mine mem")))
  (k_with "call ref" => ((k_here; (with_reducible show wpAny _ _ (call (Value.ref 84) _) _ _ _); k_dflt (refine' parts_K ?RwLaw105 ?FwLaw105 ?NwLaw105 ?GwLaw105 ?_; (case RwLaw105 => k_extra "mine lvl"); (case FwLaw105 => k_asm); (case NwLaw105 => k_asm); (case GwLaw105 => with_reducible assumption)); intro _ _ _ _ _ _ _ _ _; (try dsimp only); (try k_sweep))))
  (k_with "mine col" => (first | exact ColIn.mono (by with_reducible assumption) (by intro p hp; k_extra "mine tl") | exact ⟨_, _, by k_extra "mine mem", by with_reducible assumption⟩))
  (k_with "call ref" => ((k_here; (with_reducible show wpAny _ _ (call (Value.ref 94) _) _ _ _); k_dflt (refine' mixes_K ?RwLaw107 ?FwLaw107 ?NwLaw107 ?GwLaw107 ?awLaw107 ?h0wLaw107 ?h1wLaw107 ?h2wLaw107 ?_; (case RwLaw107 => k_extra "mine lvl"); (case FwLaw107 => k_asm); (case NwLaw107 => k_asm); (case GwLaw107 => with_reducible assumption); (case awLaw107 => k_extra "mine mem"); (case h0wLaw107 => k_extra "mine col"); (case h1wLaw107 => k_extra "mine col"); (case h2wLaw107 => k_extra "mine col")); intro _ _ _ _ _ _ _ _ _; (try dsimp only); (try k_sweep))))
  (k_with "call ref" => ((k_here; (with_reducible show wpAny _ _ (call (Value.ref 99) _) _ _ _); k_dflt (refine' best_K ?RwLaw108 ?FwLaw108 ?NwLaw108 ?GwLaw108 ?awLaw108 ?cwLaw108 ?twLaw108 ?zwLaw108 ?nwLaw108 ?_; (case RwLaw108 => k_extra "mine lvl"); (case FwLaw108 => k_asm); (case NwLaw108 => k_asm); (case GwLaw108 => with_reducible assumption); (case awLaw108 => k_extra "mine mem"); (case cwLaw108 => with_reducible assumption); (case twLaw108 => k_extra "mine col"); (case zwLaw108 => exact mixesT_len _ _ _); (case nwLaw108 => with_reducible assumption)); intro _ _ _ _ _ _ _ _ _ _ _; (try dsimp only); (try k_sweep))))
  (k_with "mine k_ne" => (first | exact off1_ne (by with_reducible assumption) (by k_extra "mine mem") | exact Ne.symm (off1_ne (by with_reducible assumption) (by k_extra "mine mem")) | (refine neN ?_; (try dsimp only); omega)))
  (k_with "mine k_all" => (first | (intro p hp; exact off1_mem (by with_reducible assumption) p (by k_extra "mine tl")) | exact List.forall_mem_nil _ | (refine' List.forall_mem_cons.mpr ⟨?awLaw110, ?bwLaw110⟩; (case awLaw110 => k_ne); (case bwLaw110 => k_all))))
  (k_with "mine n101" => (first | with_reducible assumption | k_ne))
  (k_with "call ref" => ((k_here; (with_reducible show wpAny _ _ (call (Value.ref 89) _) _ _ _); k_dflt (refine' bare_K ?RwLaw112 ?FwLaw112 ?NwLaw112 ?GwLaw112 ?awLaw112 ?_; (case RwLaw112 => k_extra "mine lvl"); (case FwLaw112 => k_asm); (case NwLaw112 => k_asm); (case GwLaw112 => with_reducible assumption); (case awLaw112 => exact colAt_in (by k_asm) (by k_extra "mine mem") (by with_reducible assumption))); intro _ _ _ _ _ _ _ _ _; (try dsimp only); (try k_sweep))))
  (k_with "call ref" => ((k_here; (with_reducible show wpAny _ _ (call (Value.ref 118) _) _ _ _); k_dflt (refine' told_K ?RwLaw113 ?hzwLaw113 ?GwLaw113 ?cdwLaw113 ?FwLaw113 ?NwLaw113 ?TwLaw113 ?htlwLaw113 ?UwLaw113 ?hmwLaw113 ?h0wLaw113 ?h1wLaw113 ?h2wLaw113 ?htwLaw113 ?nawLaw113 ?n0wLaw113 ?n1wLaw113 ?n2wLaw113 ?ntwLaw113 ?hbdwLaw113 ?htcwLaw113 ?_; (case RwLaw113 => k_extra "mine lvl"); (case hzwLaw113 => with_reducible assumption); (case GwLaw113 => with_reducible assumption); (case cdwLaw113 => with_reducible assumption); (case FwLaw113 => k_asm); (case NwLaw113 => k_asm); (case UwLaw113 => k_updF); (case TwLaw113 => with_reducible assumption); (case htlwLaw113 => first | exact List.forall_mem_nil _ | (intro p hp; k_extra "mine tl")); (case hmwLaw113 => k_extra "mine mem"); (case h0wLaw113 => k_extra "mine col"); (case h1wLaw113 => k_extra "mine col"); (case h2wLaw113 => k_extra "mine col"); (case htwLaw113 => k_extra "mine col"); (case nawLaw113 => k_extra "mine n101"); (case n0wLaw113 => k_extra "mine n101"); (case n1wLaw113 => k_extra "mine n101"); (case n2wLaw113 => k_extra "mine n101"); (case ntwLaw113 => k_extra "mine n101"); (case hbdwLaw113 => with_reducible assumption); (case htcwLaw113 => with_reducible assumption)); intro _ _ _ _ _ _ _ _ _ _ _ _ _ _ _; walk_at "tail N"; intro _ _ _ _ _ _ _ _ _; (try dsimp only); (try k_sweep))))
  (k_with "compareOp NotEq ref ref" => ((k_here; k_dflt (refine' ne_K ?NwLaw114 ?hxwLaw114 ?hywLaw114 ?h1wLaw114 ?h2wLaw114 ?h3wLaw114 ?g1wLaw114 ?g2wLaw114 ?g3wLaw114 ?s1wLaw114 ?s2wLaw114 ?i1wLaw114 ?i2wLaw114 ?exwLaw114 ?ebwLaw114 ?eiwLaw114 ?n1wLaw114 ?n2wLaw114 ?n3wLaw114 ?huwLaw114 ?hvwLaw114 ?_; (case NwLaw114 => k_asm); (case hxwLaw114 => k_extra "mine mem"); (case hywLaw114 => k_extra "mine mem"); (case h1wLaw114 => k_extra "mine mem"); (case h2wLaw114 => k_extra "mine mem"); (case h3wLaw114 => k_extra "mine mem"); (case g1wLaw114 => k_extra "mine mem"); (case g2wLaw114 => k_extra "mine mem"); (case g3wLaw114 => k_extra "mine mem"); (case s1wLaw114 => with_reducible assumption); (case s2wLaw114 => with_reducible assumption); (case i1wLaw114 => with_reducible assumption); (case i2wLaw114 => with_reducible assumption); (case exwLaw114 => first | with_reducible assumption | exact rfl); (case ebwLaw114 => first | with_reducible assumption | exact rfl); (case eiwLaw114 => first | with_reducible assumption | exact rfl); (case n1wLaw114 => k_ne); (case n2wLaw114 => k_ne); (case n3wLaw114 => k_ne); (case huwLaw114 => exact Nat.le_of_ble_eq_true rfl); (case hvwLaw114 => exact Nat.le_of_ble_eq_true rfl)); (try dsimp only))))
  (k_with "compareOp Eq ref ref" => ((k_here; k_dflt (refine' eq_K ?NwLaw115 ?hxwLaw115 ?hywLaw115 ?h1wLaw115 ?h2wLaw115 ?h3wLaw115 ?g1wLaw115 ?g2wLaw115 ?g3wLaw115 ?s1wLaw115 ?s2wLaw115 ?i1wLaw115 ?i2wLaw115 ?exwLaw115 ?ebwLaw115 ?eiwLaw115 ?n1wLaw115 ?n2wLaw115 ?n3wLaw115 ?huwLaw115 ?hvwLaw115 ?_; (case NwLaw115 => k_asm); (case hxwLaw115 => k_extra "mine mem"); (case hywLaw115 => k_extra "mine mem"); (case h1wLaw115 => k_extra "mine mem"); (case h2wLaw115 => k_extra "mine mem"); (case h3wLaw115 => k_extra "mine mem"); (case g1wLaw115 => k_extra "mine mem"); (case g2wLaw115 => k_extra "mine mem"); (case g3wLaw115 => k_extra "mine mem"); (case s1wLaw115 => with_reducible assumption); (case s2wLaw115 => first | with_reducible assumption | exact .nil); (case i1wLaw115 => with_reducible assumption); (case i2wLaw115 => with_reducible assumption); (case exwLaw115 => first | with_reducible assumption | exact rfl); (case ebwLaw115 => first | with_reducible assumption | exact rfl); (case eiwLaw115 => first | with_reducible assumption | exact rfl); (case n1wLaw115 => k_ne); (case n2wLaw115 => k_ne); (case n3wLaw115 => k_ne); (case huwLaw115 => exact Nat.le_of_ble_eq_true rfl); (case hvwLaw115 => exact Nat.le_of_ble_eq_true rfl)); (try dsimp only))))
  (k_with "exec Assign cons ListComp" => ((k_here; k_dflt (refine' Assign_Tup ?FwLaw116 ?LwLaw116 ?swwLaw116 ?closwLaw116 ?cellwLaw116 ?kindwLaw116 ?nameswLaw116 ?ywLaw116 ?pwLaw116 ?_; (case FwLaw116 => k_asm); (case LwLaw116 => exact rfl); (case swwLaw116 => with_unfolding_all rfl); (case closwLaw116 => with_unfolding_all rfl); (case cellwLaw116 => decide); (case kindwLaw116 => exact rfl); (case nameswLaw116 => decide); (case ywLaw116 => exact rfl); (case pwLaw116 => exact rfl)))))
  (k_with "call type:enumerate" => ((k_dflt (refine hold_in ?_))))
  (k_with "subscriptTail Name Slice ref ref" => ((dsimp only; k_dflt (refine' slice_any ?FwLaw118 ?NwLaw118 ?lwLaw118 ?iwLaw118 ?zwLaw118 ?plwLaw118 ?puwLaw118 ?pkwLaw118 ?s0wLaw118 ?_ ?hswLaw118 ?htwLaw118; (case FwLaw118 => k_asm); (case NwLaw118 => k_asm); (case lwLaw118 => with_reducible assumption); (case iwLaw118 => with_reducible assumption); (case zwLaw118 => assumption); (case plwLaw118 => exact IsPart.int _ _); (case puwLaw118 => exact IsPart.int _ _); (case pkwLaw118 => exact IsPart.int _ _); (case s0wLaw118 => decide); (case hswLaw118 => with_unfolding_all rfl); (case htwLaw118 => (intro _; with_unfolding_all rfl))); intro _ _ _ _ _ _ _ _ _; (try k_sweep))))
  (k_with "call builtin:sum" => ((k_here; (with_reducible show wpAny _ _ (call (Value.builtin "sum") [Value.ref _]) _ _ _); k_dflt (refine' sum_M ?hwLaw119 ?FwLaw119 ?NwLaw119 ?mwLaw119 ?iwLaw119 ?_; (case hwLaw119 => exact rfl); (case FwLaw119 => k_asm); (case NwLaw119 => k_asm); (case mwLaw119 => k_extra "mine mem"); (case iwLaw119 => with_reducible assumption)); intro _ _ _ _ _ _; (try dsimp only); (try k_sweep))))
  (k_with "call type:zip" => ((k_dflt (refine hold_in ?_))))
  trivial
theorem int3_of {a b c : Int} {t u v : Tok} {i : Nat} {x : Value} (h : (#[Value.int a t, .int b u, .int c v] : Array Value)[i]? = some x) : ∃ y z, x = .int y z := by
  match i, h with
  | 0, h => cases h; exact ⟨_, _, rfl⟩
  | 1, h => cases h; exact ⟨_, _, rfl⟩
  | 2, h => cases h; exact ⟨_, _, rfl⟩
  | i + 3, h => simp at h
theorem words_LLaw_1 : True := by
  (k_with "mine sub" => (first | exact List.forall_mem_nil _ | (intro p hp; k_extra "mine tl") | (refine List.forall_mem_cons.mpr ⟨by k_extra "mine mem", ?_⟩; k_extra "mine sub")))
  (k_with "call ref" => (((with_reducible show wpAny _ _ (call (Value.ref 118) _) _ _ _); walk_at "tail d49"; k_dflt (refine hold_in ?_))))
  trivial
set_option maxHeartbeats 1200000 in
theorem lawT : PySem.Challenge.rw_rl0034_01.Holds := by
  refine hd ?_
  k_go0
  (all_goals try k_fold)
  rename Fr _ _ _ _ => F
  rename News _ _ _ _ => N
  rename Top _ _ _ _ _ _ => T
  rename Frag.In _ _ => X
  rename CodeHd _ _ _ => C
  rename Heap.IsList _ _ _ => hl
  rename IntsAre _ _ => hi
  rename (_ = Data.cell _) => dS
  rename World => w
  rename Obj => oc
  rename List Value => vs
  rename List Int => ns
  obtain ⟨la, dS, hl⟩ : ∃ a, oc.data = .cell (some (.ref a)) ∧ (ghostOf _ _).IsList a vs.toArray := ⟨_, dS, hl⟩
  generalize hh0 : ghostOf _ _ = h₀ at *
  have G : Gr w h₀ := ⟨X, _, _, _, _, _, T⟩
  replace C : CodeHd h₀ 105 101 := C
  have hz : h₀.get? 101 = none := (N _ (.tail _ (.head _))).2.2
  clear hh0
  k_steps
  unfold Hold
  rename Fr _ _ _ _ => F1
  rename News _ _ _ _ => N1
  rename_i l1 hh1 lt1
  refine enum_Tup (V2 (Str.ofString "place") (Str.ofString "start")) (fun i ys nw => ∃ ps cs, nw = (l1, _) :: (_, oc) :: (101, tabObj #[]) :: ps ∧ ColsIn ps ys.toArray cs ∧ cs.length = i ∧ (∀ c ∈ cs, InB c) ∧ LCg.Off1 101 ps)
    rfl F1 N1 (.head _) (Nat.le_of_ble_eq_true rfl) (asg2 rfl rfl rfl rfl (by decide) fun i vals h => ?_) ⟨[], [], rfl, ColsIn.nil, rfl, (fun c hc => nomatch hc), trivial⟩ (fun i ys nw h => ?_) ?_ ?_
  · obtain ⟨t, x, _, rfl⟩ := h
    exact ⟨_, _, rfl⟩
  · obtain ⟨ps, cs, _, h1, h2, _⟩ := h
    have := h1.1
    simp at this; omega
  · rintro wr i vals ys nw own C1 oC D m₂ h tk ⟨t, x, hx, rfl⟩ hi3 ⟨ps, cs, rfl, hP, hl3, hB, hO⟩ hoC hV F3 N3 off hw
    obtain ⟨v1, v2⟩ := hV _ _ rfl
    obtain ⟨xv, xt, rfl⟩ := int3_of hx
    simp only [List.cons_append, List.nil_append] at N3
    refine wpAny_tests_nil ?_
    rw [if_pos rfl]
    clear F1 N1
    dsimp only
    k_steps
    rename Fr _ _ _ _ => F9
    rename News _ _ _ _ => N9
    rename IntsAre _ (colL _) => hi9
    rename LCg.Off1 _ _ => o9
    exact pal_end (front := [_]) F9 N9 o9 off hw hi9 hP hl3 hB (partsC_bd _) hO
  · rintro g ys nw ⟨ps, cs, rfl, hP, hl3, hB, hO⟩
    obtain ⟨c0, c1, c2, rfl⟩ := len3 hl3
    obtain ⟨r0, r1, r2, rfl, q0, q1, q2⟩ := cols3 hP
    have b0 := hB c0 (by simp)
    have b1 := hB c1 (by simp)
    have b2 := hB c2 (by simp)
    have hne := mixes_pos b0 b1 b2
    have z0 : r0 ≠ 101 := let ⟨_, _, hm, _⟩ := q0; off1_mem hO _ hm
    have z1 : r1 ≠ 101 := let ⟨_, _, hm, _⟩ := q1; off1_mem hO _ hm
    have z2 : r2 ≠ 101 := let ⟨_, _, hm, _⟩ := q2; off1_mem hO _ hm
    have T0 : TabK h₀ [] (tabObj #[]) none := rfl
    clear F1 N1 hP hB
    k_steps
    unfold Hold
    rename Fr _ _ _ _ => F2
    rename News _ _ _ _ => N2
    rename_i aP hP1 tkP oP hS1 aS usS nS msS iS oS hS2 tkS tS SS aT vT eT hT1 tkT oT iT hT2 tkT2 aM usM eM hM1 tkM oM iM aB vB eB hB1 tkB BB oB iB bB hL1 lL hL2 ltL
    have bT : InB (partsC (14 + SS)) := partsC_bd _
    generalize partsC (14 + SS) = tc at iT bB bT
    have eBB := best_eq b0 b1 b2 bB
    subst eBB
    replace iB : IntsAre vB.toList (colL (bestC tc c0 c1 c2)) := iB
    have hbd := hbd_of b0 b1 b2 bT
    have htc : 0 ≤ tc.1 ∧ 0 ≤ tc.2.1 ∧ 0 ≤ tc.2.2 := ⟨bT.1.1, bT.2.1.1, bT.2.2.1⟩
    have vT3 : vT.size = 3 := by have := iT.length; simpa using this
    have vB3 : vB.size = 3 := by have := iB.length; simpa using this
    refine zip3_Tup (V3 (Str.ofString "name") (Str.ofString "part") (Str.ofString "goal")) (fun i ys nw => nw = _ ∧ StrsAre ys (lackK (bestC tc c0 c1 c2) tc i)) rfl F2 N2 (by k_extra "mine mem") (by k_extra "mine mem") (by k_extra "mine mem") (Nat.le_of_ble_eq_true rfl) vB3 vT3
      (asg3 rfl rfl rfl rfl rfl (by decide) (by decide) (by decide) fun i vals h => ?_) ⟨rfl, .nil⟩ (fun i ys nw h => ?_) ?_ ?_
    · obtain ⟨x, y, u, _, _, _, rfl⟩ := h
      exact ⟨_, _, _, rfl⟩
    · rw [strs_len h.2]; exact lackK_len _ _ _
    · rintro wr i vals ys3 nw own C1 oC D m₂ h tk9 ⟨x, y, u, hx, hy, hu, rfl⟩ hi3 ⟨rfl, hys⟩ hoC hV F3 N3 off hw
      obtain ⟨v1, v2, v3⟩ := hV _ _ _ rfl
      obtain ⟨nm, z9, rfl, hnm⟩ := str3_of hx
      obtain ⟨z8, rfl⟩ := col_item iB hy
      obtain ⟨z7, rfl⟩ := col_item iT hu
      have N8 := N3
      simp only [List.cons_append, List.nil_append] at N3
      refine wpAny_tests_one ?_
      clear F2 N2
      dsimp only
      k_steps
      · rename (pj _ _ < pj _ _) => cc
        rename Fr _ _ _ _ => F9
        exact ⟨_, _, _, rfl, F9, N8, off, rfl, lack_yes hnm hys cc⟩
      · rename (¬ _) => cc
        rename Fr _ _ _ _ => F9
        exact ⟨_, _, _, rfl, F9, N8, off, rfl, lack_no hnm hys cc⟩
    · rintro g9 ys3 nw ⟨rfl, hys⟩
      have hS9 : StrsAre ys3.toArray.toList (leftT tc [c0, c1, c2]) := by rw [← lack_eq]; simpa using hys
      clear F2 N2
      k_steps
      unfold Hold
      rename Fr _ _ _ _ => F2
      rename News _ _ _ _ => N2
      rename_i aK hK1 tkK oK
      refine zip2_Tup (V2 (Str.ofString "part") (Str.ofString "goal")) (fun i ys nw => nw = _ ∧ ys = (List.range i).map fun j => Value.bool (decide (pj j (bestC tc c0 c1 c2) = pj j tc))) rfl F2 N2 (by k_extra "mine mem") (by k_extra "mine mem") (by rw [vB3, vT3]; exact Nat.le_of_ble_eq_true rfl)
        (asg2 rfl rfl rfl rfl (by decide) fun i vals h => ?_) ⟨rfl, rfl⟩ (fun i ys nw h => ?_) ?_ ?_
      · obtain ⟨x, y, _, _, rfl⟩ := h
        exact ⟨_, _, rfl⟩
      · rw [h.2]; simp
      · rintro wr i vals ys4 nw own C1 oC D m₂ h tk9 ⟨x, y, hx, hy, rfl⟩ hi3 ⟨rfl, hys4⟩ hoC hV F3 N3 off hw
        obtain ⟨v1, v2⟩ := hV _ _ rfl
        obtain ⟨z8, rfl⟩ := col_item iB hx
        obtain ⟨z7, rfl⟩ := col_item iT hy
        have N8 := N3
        simp only [List.cons_append, List.nil_append] at N3
        refine wpAny_tests_nil ?_
        rw [if_pos rfl]
        clear F2 N2
        dsimp only
        k_steps
        rename Fr _ _ _ _ => F9
        refine ⟨_, _, _, rfl, F9, N8, off, rfl, ?_⟩
        rw [range_snoc, ← hys4]
        first | done | rfl
      · rintro g8 ys4 nw ⟨rfl, hys4⟩
        rw [vB3, vT3] at hys4
        replace hys4 : ys4 = (List.range 3).map fun j => Value.bool (decide (pj j (bestC tc c0 c1 c2) = pj j tc)) := hys4
        subst hys4
        have bN : InB (bareC (bestC tc c0 c1 c2)) := near_in b0 b1 b2
        have hbdN := hbd_of b0 b1 b2 bN
        have htcN : 0 ≤ (bareC (bestC tc c0 c1 c2)).1 ∧ 0 ≤ (bareC (bestC tc c0 c1 c2)).2.1 ∧ 0 ≤ (bareC (bestC tc c0 c1 c2)).2.2 := ⟨bN.1.1, bN.2.1.1, bN.2.2.1⟩
        have eL := near_left c0 c1 c2 (bareC (bestC tc c0 c1 c2)) fun _ => near_best
        have eF := near_full c0 c1 c2 (bareC (bestC tc c0 c1 c2)) fun _ => near_best
        have eI := near_ints c0 c1 c2 (bareC (bestC tc c0 c1 c2)) fun _ => near_best
        clear F2 N2
        k_steps
        unfold Hold
        rename Fr _ _ _ _ => F2
        rename News _ _ _ _ => N2
        rename_i aF hF1 tkF oF x1 la1 lb1 lc1 us1 be1 na1 nb1 nc1 ex tb1 oo1 hT3 tkT3 TT ox1 oa1 ob1 oc1 oe1 d49 ss1 ii1 aY hY1 lY aN vN eN hN1 tkN oN iN hN2
        have N3 : News h₀ _ hN2 ((101, tb1) :: (aN, W.listOf vN eN) :: (aP, W.listOf #[.ref r0, .ref r1, .ref r2] 3) :: (ps ++ ex)) := news_sub2 N2 (by k_extra "mine sub")
        have m1 : aN ≠ 101 := Ne.symm (off1_ne oN (by k_extra "mine mem"))
        have m2 : aP ≠ 101 := Ne.symm oP.2.2.1
        have U3 : ∀ p ∈ (aN, W.listOf vN eN) :: (aP, W.listOf #[.ref r0, .ref r1, .ref r2] 3) :: (ps ++ ex), p.1 ≠ 101 := List.forall_mem_cons.mpr ⟨m1, List.forall_mem_cons.mpr ⟨m2, fun p hp => (List.mem_append.mp hp).elim (off1_mem hO p) (off1_mem oe1 p)⟩⟩
        have hps : ∀ p ∈ ps, p ∈ (101, tb1) :: (aN, W.listOf vN eN) :: (aP, W.listOf #[.ref r0, .ref r1, .ref r2] 3) :: (ps ++ ex) := fun p hp => .tail _ (.tail _ (.tail _ (List.mem_append_left _ hp)))
        refine told_K (lvl_of rfl rfl rfl rfl) hz G C F2 N3 TT (fun p hp => .tail _ (.tail _ (.tail _ (List.mem_append_right _ hp)))) (UpdF.head U3) (.tail _ (.tail _ (.head _))) (q0.mono hps) (q1.mono hps) (q2.mono hps) ⟨vN, eN, .tail _ (.head _), iN⟩ m2 z0 z1 z2 m1 hbdN htcN ?_
        clear N2 N3 ox1 oa1 ob1 oc1 oe1 d49 ss1 ii1 lY oN oF oP oM oB oT oS oK TT U3 hO hps m1 m2 F2 ltL lt1
        intro x2 la2 lb2 lc2 us2 be2 na2 nb2 nc2 ex2 tb2 o2 h2 tk2 F9 N9 T9 ox2 oa2 ob2 oc2 oe2 d42 s2 i2
        simp only [List.cons_append, List.nil_append] at N9
        obtain ⟨pv, rfl⟩ := T9.obj
        clear T9 d42 oe2
        dsimp only
        k_steps

end Mine
set_option maxRecDepth 100000 in
set_option maxHeartbeats 8000000 in
theorem PySem.Challenge.cw_rl0034_01_holds : PySem.Challenge.rw_rl0034_01.Holds := by
  exact Mine.lawT
