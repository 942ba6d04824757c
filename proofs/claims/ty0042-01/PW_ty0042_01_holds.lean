import PyProof.Rows.All
import Wide.All
import OpenK.AllK
import Wide.FinOn
import KE.KTryDeep
import KE.KNestM
import Lean
import PySem.Challenge.RW_ty0042_01
set_option Elab.async false
set_option genInjectivity false
set_option genSizeOf false
set_option compiler.extract_closed false
set_option maxRecDepth 100000
set_option maxHeartbeats 8000000
namespace Mi
section
open PySem PySem.W PySem.Spec PySem.Calls PyProof.Rows
/-- what the rules' side goals are tried with -/
theorem au1 (_ : (0 : Nat) = 0 := by rfl) : True := trivial
theorem au2 (_ : (0 : Nat) = 0 := by intro _; rfl) : True := trivial
theorem au3 (_ : (0 : Nat) = 0 := by with_unfolding_all rfl) : True := trivial
theorem au4 (_ : (0 : Nat) = 0 := by k_asm) : True := trivial
theorem au5 (_ : (0 : Nat) = 0 := by k_mem) : True := trivial
theorem au6 (_ : (0 : Nat) = 0 := by k_inst) : True := trivial
theorem au7 (_ : (0 : Nat) = 0 := by k_is) : True := trivial
theorem au8 (_ : (0 : Nat) = 0 := by k_in) : True := trivial
theorem au9 (_ : (0 : Nat) = 0 := by k_updF) : True := trivial
theorem au10 (_ : (0 : Nat) = 0 := by assumption) : True := trivial
theorem au11 (_ : (0 : Nat) = 0 := by decide) : True := trivial
theorem au12 (_ : (0 : Nat) = 0 := by is_list) : True := trivial
theorem au13 (_ : (0 : Nat) = 0 := by ks_is) : True := trivial
theorem au14 (_ : (0 : Nat) = 0 := by exact rfl) : True := trivial
theorem au15 (_ : (0 : Nat) = 0 := by k_get) : True := trivial
theorem au16 (_ : (0 : Nat) = 0 := by k_put) : True := trivial
theorem au17 (_ : (0 : Nat) = 0 := by k_upd) : True := trivial
theorem au18 (_ : (0 : Nat) = 0 := by exact Nat.le_of_ble_eq_true rfl) : True := trivial
theorem au19 (_ : (0 : Nat) = 0 := by omega) : True := trivial
theorem au20 (_ : (0 : Nat) = 0 := by (simp; omega)) : True := trivial
theorem au21 (_ : (0 : Nat) = 0 := by with_reducible assumption) : True := trivial
theorem au23 (_ : (0 : Nat) = 0 := by intro _; with_unfolding_all rfl) : True := trivial
theorem au24 (_ : (0 : Nat) = 0 := by ((try dsimp only); omega)) : True := trivial
theorem au22 (_ : (0 : Nat) = 0 := by constructor) : True := trivial
/-- the continuation as a letter: the walk's terms stay small -/
theorem wp_gen {α : Type} {M : Model} {A : Around} {c : Sem α} {Q : α → Shared → Prop} {E : Value → Shared → Prop} {s : Shared}
    (h : ∀ Q' : α → Shared → Prop, (∀ v s', Q v s' → Q' v s') → wpAny M A c Q' E s) : wpAny M A c Q E s := h Q fun _ _ x => x
theorem wp_gen_if {M : Model} {A : Around} {c : Sem Bool} {c1 c2 : Sem Flow} {P Q : Flow → Shared → Prop} {E E1 E2 : Value → Shared → Prop} {s : Shared}
    (h : ∀ P' : Flow → Shared → Prop, (∀ v s', P v s' → P' v s') → wpAny M A c (fun b s₂ => if b = true then wpAny M A c1 P' E1 s₂ else wpAny M A c2 Q E2 s₂) E s) :
    wpAny M A c (fun b s₂ => if b = true then wpAny M A c1 P E1 s₂ else wpAny M A c2 Q E2 s₂) E s := h P fun _ _ x => x
/-- the surroundings as a letter that still opens -/
theorem wp_letA {α : Type} {M : Model} {A : Around} {c : Sem α} {Q : α → Shared → Prop} {E : Value → Shared → Prop} {s : Shared}
    (k : let A' := A; wpAny M A' c Q E s) : wpAny M A c Q E s := k
/-- the continuation as a letter that still opens -/
theorem wp_letQ {α : Type} {M : Model} {A : Around} {c : Sem α} {Q : α → Shared → Prop} {E : Value → Shared → Prop} {s : Shared}
    (k : let Q' := Q; wpAny M A c Q' E s) : wpAny M A c Q E s := k
theorem execs_let {M : Model} {A : Around} {env : Env} {st : Stmt} {rest : List Stmt} {Q : Flow → Shared → Prop} {E : Value → Shared → Prop} {s : Shared}
    (k : let P := (fun f s' => match f with | .next => wpAny M A (execs rest env) Q E s' | f => Q f s' : Flow → Shared → Prop); wpAny M A (exec st env) P E s) :
    wpAny M A (execs (st :: rest) env) Q E s := wpAny_execs_cons k
theorem for_a {M : Model} {A : Around} {E : Value → Shared → Prop} {s : Shared} {env : Env} {target iter : PySem.Expr} {body orelse : List Stmt} {pos : Pos} {Q : Flow → Shared → Prop}
    (h : wpAny M A (eval iter env) (fun x s₁ => wpAny M A (pyIter x) (fun it s₂ => codeAny M A (Code.forLoop target it body orelse env) (fun r s' => match r with | .ok f => Q f s' | .error e => cameBackBy M A env E e s') s₂) E s₁) E s)
    (hs : autoParam (∀ x : Value, foldedSetIterable iter env x = pure x) au23._auto_1) : wpAny M A (exec (Stmt.For target iter body orelse pos) env) Q E s := wpAny_For h hs
/-- the goal as a letter while hypotheses are taken apart -/
theorem gen_goal {G : Prop} (h : ∀ G' : Prop, (G → G') → G') : G := h G fun x => x
/-- a map of names as a letter that still opens -/
theorem fr_let {G : Prop} {h₀ h : Heap} {L : Addr} {m : Str → Option Value} (F : Fr h₀ L h m) (k : let m' := m; Fr h₀ L h m' → G) : G := k F
noncomputable def SameAt (f g : Str → Option Value) : List Str → Prop
  | [] => True
  | k :: r => f k = g k ∧ SameAt f g r
noncomputable def NoneOf (y : Str) : List Str → Prop
  | [] => True
  | k :: r => y ≠ k ∧ NoneOf y r
/-- two maps of names are one: they agree at the written names, and elsewhere -/
theorem same_fun {f g : Str → Option Value} (ks : List Str) (h1 : SameAt f g ks) (h2 : ∀ y, NoneOf y ks → f y = g y) : f = g := by
  funext y
  have : NoneOf y ks ∨ f y = g y := by
    clear h2
    induction ks with
    | nil => exact .inl trivial
    | cons k r ih =>
      by_cases h : y = k
      · subst h; exact .inr h1.1
      · rcases ih h1.2 with q | q
        · exact .inl ⟨h, q⟩
        · exact .inr q
  rcases this with q | q
  · exact h2 y q
  · exact q
theorem mem_of_eq {α : Type} {q x : α} {L : List α} (h : q = x) (m : x ∈ L) : q ∈ L := h ▸ m
theorem mem_of_sub {α : Type} {q : α} {a b : List α} (m : q ∈ a) (h : ∀ q ∈ a, q ∈ b) : q ∈ b := h q m
theorem mem_sub_nil {α : Type} {L : List α} : ∀ q ∈ ([] : List α), q ∈ L := fun _ h => nomatch h
theorem mem_sub_cons {α : Type} {p : α} {r L : List α} (h : p ∈ L) (hr : ∀ q ∈ r, q ∈ L) : ∀ q ∈ p :: r, q ∈ L := fun q hq => by
  rcases List.mem_cons.mp hq with e | e
  · exact e ▸ h
  · exact hr q e
theorem mem_sub_app {α : Type} {a b L : List α} (ha : ∀ q ∈ a, q ∈ L) (hb : ∀ q ∈ b, q ∈ L) : ∀ q ∈ a ++ b, q ∈ L := fun q hq => by
  rcases List.mem_append.mp hq with e | e
  · exact ha q e
  · exact hb q e
theorem mem_sub_refl {α : Type} {L : List α} : ∀ q ∈ L, q ∈ L := fun _ h => h
theorem mem_sub_tail {α : Type} {a b : List α} {x : α} (h : ∀ q ∈ a, q ∈ b) : ∀ q ∈ a, q ∈ x :: b := fun q hq => .tail _ (h q hq)
theorem mem_sub_left {α : Type} {a c : List α} : ∀ q ∈ a, q ∈ a ++ c := fun _ hq => List.mem_append_left _ hq
theorem mem_sub_right {α : Type} {a b c : List α} (h : ∀ q ∈ a, q ∈ c) : ∀ q ∈ a, q ∈ b ++ c := fun q hq => List.mem_append_right _ (h q hq)
end

section
open PySem PySem.W PyProof.Rows
theorem hd_said : PySem.Challenge.rw_ty0042_01.wellSaid = true := by decide +kernel
theorem hd_two {R : Prop} (_ : True) (hc : R) : R := hc
local macro_rules | `(tactic| o_law) => `(tactic| refine holds_law hd_said fun said => ?_)
local macro_rules | `(tactic| o_head $_) => `(tactic| refine hd_two ?hw ?hc)
local macro_rules | `(tactic| w_witness2) => `(tactic| exact trivial)
theorem hd_pad : True := trivial
open_top hd for PySem.Challenge.rw_ty0042_01
noncomputable def hd_pick (l : List Stmt) (ks : List Nat) : List Stmt := ks.filterMap fun i => l[i]?
noncomputable def hd.view_39 : Program := { PySem.Challenge.rw_ty0042_01.row.toRowW.prog with main := { PySem.Challenge.rw_ty0042_01.row.toRowW.prog.main with body := hd_pick PySem.Challenge.rw_ty0042_01.row.toRowW.prog.main.body [0, 2, 3, 4, 6, 8, 9, 10, 11, 13, 14, 15, 16, 17] } }
noncomputable def hd_hook : Hook := kmHook hd.heap_1 [2, 3, 15, 17, 18, 20, 21, 22, 24, 25, 27, 28, 29, 31, 32, 34, 35, 36, 38, 39, 41, 42, 50, 52, 53, 55, 56, 57, 59, 60, 62, 63, 64, 66, 67, 69, 70, 71, 73, 74, 76, 77, 78, 80, 81, 83, 84, 85, 87, 88, 90, 91, 92, 94, 95, 97, 98, 99, 101, 102, 104, 105, 106, 108, 109, 111, 112, 113, 114, 115, 116, 117, 120, 123, 128, 129, 130, 132, 133, 135, 136, 137, 139, 140, 142, 143, 144, 145, 147, 148, 150, 151, 152, 153, 155, 156, 158, 159, 160, 162, 163, 165, 166, 167, 169, 170, 172, 173, 174, 175, 177, 178, 180, 181, 182, 184, 185, 187, 188, 189, 190, 192, 193, 195, 196, 197, 198, 199, 200, 201, 204, 206, 207, 209, 210, 211, 213, 214, 216, 217, 218, 221, 222, 223, 226, 227, 228, 231, 232] (fun _ => by kernel_rfl) [161, 168]
theorem hd_left : LeftO PySem.Challenge.rw_ty0042_01.row.prog hd.view_39 [Str.ofString "_Accumulator"] (fun s => xlAt hd.view_39 [] s && recOk (RowW.records (OpenRow.toRowW PySem.Challenge.rw_ty0042_01.row)) s) (Hook.obs hd_hook) (Hook.val hd_hook) 2794 := fun w => by kernel_rfl
end

section
open PySem PySem.W PySem.Spec PySem.Calls PyProof.Rows
theorem kfill : PySem.Challenge.rw_ty0042_01 = PySem.Challenge.rw_ty0042_01 ∧ hd.heap_1 = hd.heap_1 := by
  k_fill
  exact ⟨rfl, rfl⟩

/-- what a call site must offer -/
structure Site (w : World) (D U : Nat) (hid : List Addr) (A : Around) (s : Shared) : Prop where
  handled : A.handled = none
  depth : A.depth ≤ D
  units : A.units ≤ U
  ex : ∃ (cn : Str) (cs : Scope) (a : Addr) (ccd : Value) (cl : List (Str × Addr)) (outer : List Env) (A₀ : Around) (base h₀ : Heap) (L : Addr) (m mg mb : Str → Option Value) (mean : ExcName → Option Value),
    A.frames = some (envX cn cs L a ccd cl :: outer) ∧ cs.kind = .function ∧ Below A₀ base outer h₀ ∧ Fr h₀ L s.heap m ∧ (hd.heap_1 w.params).In h₀ ∧
    Top hd.view_39 (looseW hd.view_39 [Str.ofString "_Accumulator"]) mean mg mb h₀ ∧ L ∉ hid ∧ ∀ b ∈ hid, h₀.get? b = none

theorem below_le {Γ : PySem.Ctx} {A A' : Around} (h : Γ.Below A) (h1 : A.handled = A'.handled) (h2 : A.depth ≤ A'.depth) (h3 : A.frames = A'.frames) (h4 : A.guards = A'.guards) (h5 : A.units ≤ A'.units) : Γ.Below A' :=
  ⟨h.1.trans h1, Nat.le_trans h.2.1 h2, fun l e => h.2.2.1 l (h3.trans e), fun l e => h.2.2.2.1 l (h4.trans e), Nat.le_trans h.2.2.2.2 h5⟩

theorem codeAny_le {M : Model} {A A' : Around} {c : Code} {R : Result → Shared → Prop} {s : Shared} (h : codeAny M A' c R s) (h1 : A.handled = A'.handled) (h2 : A.depth ≤ A'.depth) (h3 : A.frames = A'.frames) (h4 : A.guards = A'.guards) (h5 : A.units ≤ A'.units) : codeAny M A c R s :=
  fun Γ p hc hb => h Γ p hc (below_le hb h1 h2 h3 h4 h5)

/-- everything old stays -/
noncomputable def Keeps (h h' : Heap) : Prop := ∀ b o, h.get? b = some o → h'.get? b = some o
noncomputable def KeepsBut (hid : List Addr) (h h' : Heap) : Prop := ∀ b o, b ∉ hid → h.get? b = some o → h'.get? b = some o

section
variable {w : World} {A₀ : Around} {s : Shared} {base h₀ : Heap} {outer : List Env} {m mg mb : Str → Option Value} {mean : ExcName → Option Value}
  {R : Result → Shared → Prop} {name qual : Str} {params : Arguments} {body : List Stmt} {scope : Scope} {cl : List (Str × Addr)} {dV kV doc pm cdv ct oc : Value} {an od : Option Addr} {osl : Array (Option Value)} {f : Addr} {args : Args} {binds : List (Str × Value)}

/-- a def of the text is entered: all that stands is frozen, but hid -/
theorem enterP {D U : Nat} (hid : List Addr) {A : Around} (S : Site w D U hid A s)
    (ho : (hd.heap_1 w.params).lookup f = some ⟨oc, od, .func (fnX name qual params body scope cl dV kV doc pm an cdv ct), osl⟩) (hcd : codeIn (hd.heap_1 w.params) cdv qual = true)
    (hroom : D < recursionLimit)
    (hbind : BindsTo s (fnX name qual params body scope cl dV kV doc pm an cdv ct) args binds) (hloc : ∀ y ∈ binds, scope.names.lookup y.1 = some .local)
    (h : ∀ L cn cs a ccd cl' outer base g L' h₁ mg mb mean, cs.kind = .function →
      Fr g L' h₁ (fun y => binds.reverse.lookup y) → News g L' h₁ [] → Below (ktrTop D U A.guards cn cs L a ccd cl' outer) base (envX cn cs L a ccd cl' :: outer) g → (hd.heap_1 w.params).In g →
      Top hd.view_39 (looseW hd.view_39 [Str.ofString "_Accumulator"]) mean mg mb g →
      (∀ b o, s.heap.get? b = some o → b ∉ hid → g.get? b = some o) → (∀ b ∈ hid, g.get? b = none) → Keeps s.heap h₁ → L' = s.heap.objs.size →
      wpAny (model PySem.Challenge.rw_ty0042_01.row.prog w) ((ktrTop D U A.guards cn cs L a ccd cl' outer).deeper (envX qual scope L' f cdv cl)) (execs body (envX qual scope L' f cdv cl))
        (fun fl s' => R (.ok (.ret (match fl with | .ret v => v | _ => .none))) s')
        (fun e s' => wpAny (model PySem.Challenge.rw_ty0042_01.row.prog w) ((ktrTop D U A.guards cn cs L a ccd cl' outer).deeper (envX qual scope L' f cdv cl)) (leaving (envX qual scope L' f cdv cl) e) (fun _ s'' => R (.error e) s'') (fun e' s'' => R (.error e') s'') s')
        { s with heap := h₁, toks := s.toks + binds.length })
    (hcell : ∀ x ∈ scope.names, x.2 ≠ .cell) (hco : autoParam (scope.isCoroutine = false) au1._auto_1) (hgen : autoParam (scope.isGenerator = false) au1._auto_1) (hk : autoParam (scope.kind = .function) au1._auto_1) :
    codeAny (model PySem.Challenge.rw_ty0042_01.row.prog w) A (.call (.ref f) args) R s := by
  obtain ⟨hh, hdp, hun, cn, cs, a, ccd, cl', outer, A₀, base, h₀, L, m, mg, mb, mean, hA, hke, B, F, X, T, hL, hhid⟩ := S
  refine codeAny_le (A' := ktrTop D U A.guards cn cs L a ccd cl' outer) ?_ hh hdp hA rfl hun
  have hst : h₀.StaysIn (hideAll s.heap hid) := fun b o e => hideAll_get _ (F.keep b o e) fun q => by rw [hhid b q] at e; cases e
  obtain ⟨oL, es, ep, hLo, hLd, hLk, hLf⟩ := id F.ns
  have hLg := hideAll_get hid hLo hL
  have B₁ := pushX (env := envX cn cs L a ccd cl') B F rfl hke
  have BG : Below (ktrTop D U A.guards cn cs L a ccd cl' outer) base (envX cn cs L a ccd cl' :: outer) (hideAll s.heap hid) := by
    refine ⟨rfl, fun b o e => hst b o (B.stays b o e), funFrames_hideAll B₁.frames fun env' he b hb hf' => ?_⟩
    cases he with
    | head => exact hL ((Option.some.inj hf' : L = b) ▸ hb)
    | tail _ he =>
      obtain ⟨L₁, o₁, hf₁, ho₁⟩ := funFrames_in B.frames env' he
      rw [hf₁] at hf'
      have : L₁ = b := Option.some.inj hf'
      subst this
      rw [hhid L₁ hb] at ho₁; cases ho₁
  have XG : (hd.heap_1 w.params).In (hideAll s.heap hid) := X.keeps hst
  have hof : s.heap.get? f = some ⟨oc, od, .func (fnX name qual params body scope cl dV kV doc pm an cdv ct), osl⟩ := (X.keeps F.keep) _ _ ho
  refine codeAny_call_def (fd := fnX name qual params body scope cl dV kV doc pm an cdv ct) (body := body) (binds := binds) hroom hof rfl (T.nolimit.keeps F.keep) (codeRec_of (X.keeps F.keep) hcd) rfl hbind hcell hloc (fun h₁ hns hk₁ => ?_) hco hgen hk
  exact h L cn cs a ccd cl' outer base (hideAll s.heap hid) s.heap.objs.size h₁ mg mb mean hke ⟨hns, fun b o e => hk₁ b o (of_hideAll _ e), Nat.le_of_eq (hideAll_size _ _)⟩ (fun p hp => nomatch hp) BG XG (T.keeps hst)
    (fun b o e nb => hideAll_get hid e nb) (fun b hb => hideAll_none hid hb) hk₁ rfl
end
end

section
open PySem PySem.W PySem.Spec PySem.Calls PyProof.Rows
noncomputable def Hold (P : Prop) : Prop := P
theorem hold {P : Prop} (h : Hold P) : P := h
theorem Hold.out {P : Prop} (h : Hold P) : P := h

theorem Keeps.rfl' {h : Heap} : Keeps h h := fun _ _ e => e
theorem Keeps.trans {a b c : Heap} (x : Keeps a b) (y : Keeps b c) : Keeps a c := fun i o e => y i o (x i o e)
theorem Keeps.toBut {a b : Heap} (x : Keeps a b) (l : List Addr) : KeepsBut l a b := fun i o _ e => x i o e
theorem KeepsBut.trans {l : List Addr} {a b c : Heap} (x : KeepsBut l a b) (y : KeepsBut l b c) : KeepsBut l a c := fun i o n e => y i o n (x i o n e)

theorem fr_keep {h₀ h h' : Heap} {L : Addr} {m : Str → Option Value} (F : Fr h₀ L h m) (k : Keeps h h') : Fr h₀ L h' m := Fr.keeps F k
theorem news_keep {h₀ h h' : Heap} {L : Addr} {news : List (Addr × Obj)} (N : News h₀ L h news) (k : Keeps h h') : News h₀ L h' news := News.keeps N k
theorem isList_keep {h h' : Heap} {l : Addr} {vs : Array Value} (x : h.IsList l vs) (k : Keeps h h') : h'.IsList l vs := x.at fun o e => k _ o e

section
variable {w : World} {A₀ : Around} {s : Shared} {base h₀ : Heap} {outer : List Env} {m mg mb : Str → Option Value} {mean : ExcName → Option Value}
  {R : Result → Shared → Prop} {name qual : Str} {params : Arguments} {body : List Stmt} {scope : Scope} {cl : List (Str × Addr)} {dV kV doc pm cdv ct oc : Value} {an od : Option Addr} {osl : Array (Option Value)} {f : Addr} {args : Args} {binds : List (Str × Value)}

/-- a def that never raises -/
theorem enterN {D U : Nat} (hid : List Addr) {A : Around} (S : Site w D U hid A s)
    (ho : (hd.heap_1 w.params).lookup f = some ⟨oc, od, .func (fnX name qual params body scope cl dV kV doc pm an cdv ct), osl⟩) (hcd : codeIn (hd.heap_1 w.params) cdv qual = true)
    (hroom : D < recursionLimit)
    (hbind : BindsTo s (fnX name qual params body scope cl dV kV doc pm an cdv ct) args binds) (hloc : ∀ y ∈ binds, scope.names.lookup y.1 = some .local)
    (h : ∀ L cn cs a ccd cl' outer base g L' h₁ mg mb mean, cs.kind = .function →
      Fr g L' h₁ (fun y => binds.reverse.lookup y) → News g L' h₁ [] → Below (ktrTop D U A.guards cn cs L a ccd cl' outer) base (envX cn cs L a ccd cl' :: outer) g → (hd.heap_1 w.params).In g →
      Top hd.view_39 (looseW hd.view_39 [Str.ofString "_Accumulator"]) mean mg mb g →
      (∀ b o, s.heap.get? b = some o → b ∉ hid → g.get? b = some o) → (∀ b ∈ hid, g.get? b = none) → Keeps s.heap h₁ → L' = s.heap.objs.size →
      wpAny (model PySem.Challenge.rw_ty0042_01.row.prog w) ((ktrTop D U A.guards cn cs L a ccd cl' outer).deeper (envX qual scope L' f cdv cl)) (execs body (envX qual scope L' f cdv cl))
        (fun fl s' => R (.ok (.ret (match fl with | .ret v => v | _ => .none))) s')
        (fun _ _ => False)
        { s with heap := h₁, toks := s.toks + binds.length })
    (hcell : ∀ x ∈ scope.names, x.2 ≠ .cell) (hco : autoParam (scope.isCoroutine = false) au1._auto_1) (hgen : autoParam (scope.isGenerator = false) au1._auto_1) (hk : autoParam (scope.kind = .function) au1._auto_1) :
    codeAny (model PySem.Challenge.rw_ty0042_01.row.prog w) A (.call (.ref f) args) R s :=
  enterP hid S ho hcd hroom hbind hloc (fun L cn cs a ccd cl' outer base g L' h₁ mg mb mean q1 q2 q3 q4 q5 q6 q7 q8 q9 q10 =>
    wpAny_mono (h L cn cs a ccd cl' outer base g L' h₁ mg mb mean q1 q2 q3 q4 q5 q6 q7 q8 q9 q10) (fun _ _ x => x) fun _ _ x => x.elim) hcell hco hgen hk
end

section
variable {w : World} {A A₀ : Around} {s : Shared} {base h₀ : Heap} {outer : List Env} {L : Addr} {m mg mb : Str → Option Value} {mean : ExcName → Option Value} {cn : Str} {cs : Scope} {a : Addr} {ccd : Value} {cl : List (Str × Addr)} {D U : Nat} {hid : List Addr}
theorem site_of (hk : cs.kind = .function) (B : Below A₀ base outer h₀) (F : Fr h₀ L s.heap m) (X : (hd.heap_1 w.params).In h₀) (T : Top hd.view_39 (looseW hd.view_39 [Str.ofString "_Accumulator"]) mean mg mb h₀)
    (hh : A.handled = none) (hdp : A.depth ≤ D) (hun : A.units ≤ U) (hA : A.frames = some (envX cn cs L a ccd cl :: outer)) (hL : L ∉ hid) (hhid : ∀ b ∈ hid, h₀.get? b = none) : Site w D U hid A s :=
  ⟨hh, hdp, hun, cn, cs, a, ccd, cl, outer, A₀, base, h₀, L, m, mg, mb, mean, hA, hk, B, F, X, T, hL, hhid⟩
end

section
variable {prog : Program} {w : World} {A : Around} {s : Shared} {env : Env} {h₀ : Heap}

/-- what a turn's end must show -/
inductive TurnVE (h₀ : Heap) (L : Addr) (wr : List Addr) (own : List (Addr × Obj)) (Jn : (Str → Option Value) → List (Addr × Obj) → Prop) (s₀ s₂ : Shared) : Prop
  | mk : ∀ h' gs tk m₂ news₂, s₂ = ⟨h', gs, s₀.drawn, tk, s₀.os⟩ → AllBare gs → Fr h₀ L h' m₂ → News h₀ L h' (own ++ news₂) → (∀ p ∈ news₂, p.1 ∉ wr) → Jn m₂ news₂ → TurnVE h₀ L wr own Jn s₀ s₂
noncomputable def TurnV (h₀ : Heap) (L : Addr) (wr : List Addr) (own : List (Addr × Obj)) (Jn : (Str → Option Value) → List (Addr × Obj) → Prop) (s₀ : Shared) (Qb : Shared → Prop) (Qr : Value → Shared → Prop) (f : Flow) (s₂ : Shared) : Prop :=
  match f with
  | .ret v => Qr v s₂
  | .brk => Qb s₂
  | _ => Hold (TurnVE h₀ L wr own Jn s₀ s₂)
inductive ForInv (h₀ : Heap) (L : Addr) (wr : List Addr) (n : Nat) (St : Nat → Heap → Prop) (J : Nat → (Str → Option Value) → List (Addr × Obj) → Prop) (s₀ : Shared) (k : Nat) (s' : Shared) : Prop
  | mk : ∀ h' gs tk m' news' i, s' = ⟨h', gs, s₀.drawn, tk, s₀.os⟩ → AllBare gs → St i h' → Fr h₀ L h' m' → News h₀ L h' news' → (∀ p ∈ news', p.1 ∉ wr) → J i m' news' → i ≤ n → k = n + 1 - i → ForInv h₀ L wr n St J s₀ k s'
inductive WhileE (h₀ : Heap) (L : Addr) (J : Nat → (Str → Option Value) → List (Addr × Obj) → Prop) (s₀ : Shared) (k : Nat) (s₃ : Shared) : Prop
  | mk : ∀ h' gs tk m₂ news₂ k', s₃ = ⟨h', gs, s₀.drawn, tk, s₀.os⟩ → AllBare gs → Fr h₀ L h' m₂ → News h₀ L h' news₂ → k' < k → J k' m₂ news₂ → WhileE h₀ L J s₀ k s₃
inductive WhileInv (h₀ : Heap) (L : Addr) (J : Nat → (Str → Option Value) → List (Addr × Obj) → Prop) (s₀ : Shared) (k : Nat) (s' : Shared) : Prop
  | mk : ∀ h' gs tk m' news', s' = ⟨h', gs, s₀.drawn, tk, s₀.os⟩ → AllBare gs → Fr h₀ L h' m' → News h₀ L h' news' → J k m' news' → WhileInv h₀ L J s₀ k s'

theorem never_noted {M : Model} {α : Type} {t : Sem α} {Q : α → Shared → Prop} {E : Value → Shared → Prop} {s : Shared} (h : wpAny M A t Q (fun _ _ => False) s) : wpAny M A t Q E s :=
  wpAny_mono h (fun _ _ x => x) fun _ _ x => x.elim

theorem my_forLoop {R : Result → Shared → Prop} {x : Str} {px : Pos} {body orelse : List Stmt} {I : Addr} {fp wr : List Addr} {n : Nat} {P : Nat → Value → Prop} {St : Nat → Heap → Prop} {m : Str → Option Value}
    {news : List (Addr × Obj)} (W : Walks prog w A I fp wr n P St) (hx : env.kindOf x = some .local)
    (hp : (env.scope.kind == .class || (env.scope.kind == .module && env.locals != env.globals)) = false)
    (hLf : env.locals ∉ fp) (hwr : ∀ b ∈ wr, h₀.get? b = none) (hnw : ∀ p ∈ news, p.1 ∉ wr)
    (hst : St 0 s.heap) (F : Fr h₀ env.locals s.heap m) (N : News h₀ env.locals s.heap news) (hg : AllBare s.gens)
    (J : Nat → (Str → Option Value) → List (Addr × Obj) → Prop) (h0 : J 0 m news)
    (step : ∀ i v m₁ news₁ h gs tk own, i < n → P i v → J i m₁ news₁ → AllBare gs → (∀ p ∈ news₁, p.1 ∉ wr) → (∀ p ∈ own, p.1 ∈ fp) → (∀ b ∈ fp, h₀.get? b = none → ∀ o, h.get? b = some o → (b, o) ∈ own) → St (i + 1) h →
      Fr h₀ env.locals h (fun y => if y = x then some v else m₁ y) → News h₀ env.locals h (own ++ news₁) →
      wpAny (model prog w) A (execs body env) (TurnV h₀ env.locals wr own (J (i + 1)) s (fun s' => R (.ok .next) s') fun v s' => R (.ok (.ret v)) s') (fun _ _ => False) ⟨h, gs, s.drawn, tk, s.os⟩)
    (hR : ∀ h' gs tk m' news', AllBare gs → Fr h₀ env.locals h' m' → News h₀ env.locals h' news' → (∀ p ∈ news', p.1 ∉ wr) → J n m' news' →
      wpAny (model prog w) A (execs orelse env) (fun f s₃ => R (.ok f) s₃) (fun _ _ => False) ⟨h', gs, s.drawn, tk, s.os⟩) :
    codeAny (model prog w) A (.forLoop (.Name x px) (.ref I) body orelse env) R s := by
  have hLw : env.locals ∉ wr := fun h => hLf (W.sub _ h)
  have old : ∀ b o, h₀.get? b = some o → b ∉ wr := fun b o e hb => by rw [hwr b hb] at e; cases e
  refine codeAny_forLoop
    (ForInv h₀ env.locals wr n St J s) ?_ (n + 1)
    ⟨s.heap, s.gens, s.toks, m, news, 0, rfl, hg, hst, F, N, hnw, h0, Nat.zero_le _, rfl⟩
  rintro k s' ⟨h', gs, tk, m', news', i, rfl, hgs, hst', F', N', hnw', hJ, hi, rfl⟩
  have next : ∀ h₁ : Heap, (∀ b o, b ∉ wr → h'.get? b = some o → h₁.get? b = some o) → Fr h₀ env.locals h₁ m' ∧ News h₀ env.locals h₁ news' := fun h₁ hk₁ =>
    ⟨⟨F'.ns.at' fun o e => hk₁ _ o hLw e, fun b o e => hk₁ b o (old b o e) (F'.keep b o e), F'.above⟩, fun p hp => ⟨hk₁ _ _ (hnw' p hp) (N' p hp).1, (N' p hp).2⟩⟩
  by_cases hlt : i < n
  · refine W.item i _ _ _ hlt hst' fun v h₁ tk₁ hP hst₁ hk₁ => ?_
    obtain ⟨F₁, N₁⟩ := next h₁ hk₁
    refine wpAny_assign_Name (wpAny_storeName_local hx F₁.ns (fun h₂ hn₂ hs₂ => ?_) hp)
    have F₂ := F₁.set hn₂ hs₂
    have Nown : News h₀ env.locals h₂ (ownOf h₀ fp h₂) := news_ownOf hLf
    have hst₂ : St (i + 1) h₂ := W.frame _ _ _ hst₁ fun b hb o e => (hs₂.2 b fun q => hLf (q ▸ hb)).trans e
    refine wpAny_mono (step i v m' news' h₂ gs _ (ownOf h₀ fp h₂) hlt hP hJ hgs hnw' ownOf_sub (fun b hb hn o e => mem_ownOf hb hn e) hst₂ F₂ (Nown.append (N₁.set hs₂))) (fun f s₃ h₃ => ?_) fun _ _ e => e.elim
    have fin : TurnVE h₀ env.locals wr (ownOf h₀ fp h₂) (J (i + 1)) s s₃ → ∃ m_1, m_1 < n + 1 - i ∧ ForInv h₀ env.locals wr n St J s m_1 s₃ := by
      rintro ⟨h₃', gs₃, tk₃, m₂, news₂, rfl, hgs₃, F₃, N₃, ha₃, hJ₃⟩
      refine ⟨n + 1 - (i + 1), by exact Nat.sub_succ_lt_self _ _ (Nat.lt_succ_of_lt (by assumption)), h₃', gs₃, tk₃, m₂, news₂, i + 1, rfl, hgs₃, ?_, F₃, N₃.right, ha₃, hJ₃, hlt, rfl⟩
      refine W.frame _ _ _ hst₁ fun b hb o e => ?_
      have e₂ : h₂.get? b = some o := (hs₂.2 b fun q => hLf (q ▸ hb)).trans e
      cases hn : h₀.get? b with
      | some o₀ =>
        have : o₀ = o := by have := F₂.keep b o₀ hn; rw [e₂] at this; exact (Option.some.inj this).symm
        exact this ▸ F₃.keep b o₀ hn
      | none => exact (N₃ _ (List.mem_append_left _ (mem_ownOf hb hn e₂))).1
    cases f with
    | ret v => exact h₃
    | brk => exact h₃
    | cont => exact fin h₃
    | next => exact fin h₃
  · have hin : i = n := by (first | lia | omega)
    subst hin
    refine W.done _ _ _ hst' fun h₁ tk₁ hk₁ => ?_
    obtain ⟨F₁, N₁⟩ := next h₁ hk₁
    exact never_noted (hR h₁ gs tk₁ m' news' hgs F₁ N₁ hnw' hJ)

/-- a while by an invariant over the frame's map and the ledger; the measure falls -/
theorem my_while {body orelse : List Stmt} {test : Expr} {Q : Flow → Shared → Prop} {pos : Pos} {m : Str → Option Value} {news : List (Addr × Obj)}
    (J : Nat → (Str → Option Value) → List (Addr × Obj) → Prop) (n : Nat) (h0 : J n m news)
    (F : Fr h₀ env.locals s.heap m) (N : News h₀ env.locals s.heap news) (hg : AllBare s.gens)
    (turn : ∀ k m₁ news₁ h gs tk, J k m₁ news₁ → AllBare gs → Fr h₀ env.locals h m₁ → News h₀ env.locals h news₁ →
      wpAny (model prog w) A (isTrue test env (eval test env)) (fun b s₂ =>
        if b = true then wpAny (model prog w) A (execs body env) (fun f s₃ => match f with
          | .ret v => Q (.ret v) s₃
          | .brk => Q .next s₃
          | _ => Hold (WhileE h₀ env.locals J s k s₃)) (fun _ _ => False) s₂
        else wpAny (model prog w) A (execs orelse env) Q (fun _ _ => False) s₂) (fun _ _ => False) ⟨h, gs, s.drawn, tk, s.os⟩) :
    wpAny (model prog w) A (exec (.While test body orelse pos) env) Q (fun _ _ => False) s := by
  refine wpAny_While ?_
  refine codeAny_whileLoop (WhileInv h₀ env.locals J s) ?_ n
    ⟨s.heap, s.gens, s.toks, m, news, rfl, hg, F, N, h0⟩
  rintro k s' ⟨h', gs, tk, m', news', rfl, hgs, F', N', hJ⟩
  refine wpAny_mono (turn k m' news' h' gs tk hJ hgs F' N') (fun b s₂ h₂ => ?_) fun _ _ e => e.elim
  cases b with
  | true =>
    simp only [if_true] at h₂ ⊢
    refine wpAny_mono h₂ (fun f s₃ h₃ => ?_) fun _ _ e => e.elim
    have fin : WhileE h₀ env.locals J s k s₃ → ∃ m_1, m_1 < k ∧ WhileInv h₀ env.locals J s m_1 s₃ := by
      rintro ⟨h₃', gs₃, tk₃, m₂, news₂, k', e, q1, q2, q3, q4, q5⟩
      exact ⟨k', q4, h₃', gs₃, tk₃, m₂, news₂, e, q1, q2, q3, q5⟩
    cases f with
    | ret v => exact h₃
    | brk => exact h₃
    | cont => exact fin h₃
    | next => exact fin h₃
  | false =>
    simp only [Bool.false_eq_true, if_false] at h₂ ⊢
    exact never_noted h₂
end
end

section
open PySem PySem.Builtin PySem.Builtin.Str

noncomputable def findIn4 (x y : PySem.Str) (i j : Int) : Int := match occurrences x y (fromIndex x.length i) (min (fromIndex x.length j) x.length) 1 with | k :: _ => (k : Int) | [] => -1
noncomputable def rfindIn4 (x y : PySem.Str) (i j : Int) : Int := match lastOccurrence x y (fromIndex x.length i) (min (fromIndex x.length j) x.length) with | some k => (k : Int) | none => -1

theorem gives_find4 (x y : PySem.Str) (i j : Int) (t u v v' : Tok) : Gives («str.find» ⟨[.str x t, .str y u, .int i v, .int j v'], []⟩) (.int (findIn4 x y i j)) := by
  unfold findIn4
  show Gives (match occurrences x y (fromIndex x.length i) (min (fromIndex x.length j) x.length) 1 with | k :: _ => retInt k | [] => (do rule "str.find.not-found"; retInt (-1))) _
  cases occurrences x y (fromIndex x.length i) (min (fromIndex x.length j) x.length) 1 with
  | nil => exact .rule (.of_eq rfl)
  | cons k _ => exact .of_eq rfl
theorem gives_rfind4 (x y : PySem.Str) (i j : Int) (t u v v' : Tok) : Gives («str.rfind» ⟨[.str x t, .str y u, .int i v, .int j v'], []⟩) (.int (rfindIn4 x y i j)) := by
  unfold rfindIn4
  show Gives (match lastOccurrence x y (fromIndex x.length i) (min (fromIndex x.length j) x.length) with | some k => retInt k | none => (do rule "str.rfind.not-found"; retInt (-1))) _
  cases lastOccurrence x y (fromIndex x.length i) (min (fromIndex x.length j) x.length) with
  | none => exact .rule (.of_eq rfl)
  | some k => exact .of_eq rfl
theorem args_find4 (a b c d : Value) : argsOk "str.find" ⟨[a, b, c, d], []⟩ := by unfold argsOk; kernel_rfl
section
variable {prog : Program} {w : World} {A : Around} {E : Value → Shared → Prop} {s : Shared} {x y : PySem.Str} {t u v v' : Tok} {i j : Int} {Q : Value → Shared → Prop}
theorem find4 (hq : Q (.int (findIn4 x y i j) s.toks) { s with toks := s.toks + 1 }) : wpAny (model prog w) A (call (.builtin "str.find") [.str x t, .str y u, .int i v, .int j v']) Q E s :=
  call_gives F.slot_str_find (typeIs_str _ _ _) F.entry_str_find (args_find4 _ _ _ _) (gives_find4 x y i j t u v v') hq
theorem rfind4 (hq : Q (.int (rfindIn4 x y i j) s.toks) { s with toks := s.toks + 1 }) : wpAny (model prog w) A (call (.builtin "str.rfind") [.str x t, .str y u, .int i v, .int j v']) Q E s :=
  call_gives F.slot_str_rfind (typeIs_str _ _ _) F.entry_str_rfind (F.args_str_rfind_4 _ _ _ _) (gives_rfind4 x y i j t u v v') hq
end
open PySem PySem.W PySem.Spec PySem.Calls PyProof.Rows
theorem keep_end {s : Shared} {g h' : Heap} {L : Addr} {m : Str → Option Value} (hg : ∀ b o, s.heap.get? b = some o → b ∉ ([] : List Addr) → g.get? b = some o) (F : Fr g L h' m) : Keeps s.heap h' :=
  fun b o e => F.keep b o (hg b o e List.not_mem_nil)
theorem keepbut_end {s : Shared} {g h' : Heap} {L : Addr} {m : Str → Option Value} {hid : List Addr} (hg : ∀ b o, s.heap.get? b = some o → b ∉ hid → g.get? b = some o) (F : Fr g L h' m) : KeepsBut hid s.heap h' :=
  fun b o n e => F.keep b o (hg b o e n)
theorem at_g {s : Shared} {g : Heap} (hg : ∀ b o, s.heap.get? b = some o → b ∉ ([] : List Addr) → g.get? b = some o) : Keeps s.heap g := fun b o e => hg b o e List.not_mem_nil
/-- the part behind the last dot -/
noncomputable def stripDet (x : Str) : Str := Txt.slice x (some (rfindIn4 x (Str.ofString ".") 0 (x.length : Int) + 1)) (some (x.length : Int))
theorem rfindIn4_neg {x y : Str} {i j : Int} (h : ¬ 0 ≤ rfindIn4 x y i j) : rfindIn4 x y i j = -1 := by
  unfold rfindIn4 at h ⊢
  split <;> rename_i q <;> simp_all
end

section
open PySem PySem.W PySem.Spec PySem.Calls PyProof.Rows

/-- a list's iterator, as an object -/
noncomputable def ItO (o : Obj) (l : Addr) (i : Nat) : Prop := o.cls = .type "list_iterator" ∧ o.data = .fields #[.ref l, .int i 0]
theorem ItO.at {o : Obj} {l : Addr} {i : Nat} {h : Heap} {it : Addr} (x : ItO o l i) (e : h.get? it = some o) : h.IsListIter it l i := ⟨o, e, x.1, x.2⟩

section
variable {prog : Program} {w : World} {A : Around} {E : Value → Shared → Prop} {s : Shared} {h₀ : Heap} {L l it : Addr} {m : Str → Option Value} {news : List (Addr × Obj)} {g : Obj → List (Addr × Obj)} {io : Obj} {v : Value} {vs : Array Value} {i : Nat}

theorem nextSpecial_item {Q : Option Value → Shared → Prop} (hit : s.heap.IsListIter it l i)
    (hl : s.heap.IsList l vs) (hx : vs[i]? = some v)
    (hQ : ∀ h', h'.IsListIter it l (i + 1) → Heap.SameBut it s.heap h' → Q (some v) { s with heap := h' }) :
    wpAny (model prog w) A (callSpecial? (.ref it) (Str.ofString "__next__")) Q E s := by
  obtain ⟨o, ho, hc, hd⟩ := id hit
  obtain ⟨ol, hol, _, nl, hdl⟩ := hl
  refine wpAny_callSpecial?_slot (name := Str.ofString "__next__") hit.typeIs slot_listiter_next
    (wpAny_call_entry slot_listiter_next hit.typeIs entry_listiter_next ?_ (args_listiter_next _))
  show wpAny _ _ (field (.ref it) 0 >>= _) _ _ s
  refine wpAny_bind (wpAny_field ho hd (x := .ref l) rfl ?_)
  show wpAny _ _ (if (Value.ref l == Value.none) = true then _ else _) _ _ s
  rw [if_neg (show ¬ ((Value.ref l == Value.none) = true) from Bool.false_ne_true)]
  show wpAny _ _ (field (.ref it) 1 >>= _) _ _ s
  refine wpAny_bind (wpAny_field ho hd (x := .int i 0) rfl ?_)
  show wpAny _ _ (seqItems? (.ref l) >>= _) _ _ s
  refine wpAny_bind (wpAny_seqItems hol hdl ?_)
  simp only [Int.toNat_natCast, hx]
  refine wpAny_bind (wpAny_setField ho hd (by simp) (wpAny_pure ⟨v, rfl, hQ _ ?_ (Heap.SameBut.update ..)⟩))
  exact ⟨_, Heap.get?_update_self _ ho (Obj.isFreed_of_fields (Obj.data_mapFields hd _)), (Obj.cls_mapFields ..).trans hc, by
    rw [Obj.data_mapFields hd]; simp [rawInt]⟩

theorem next_item {Q : Value → Shared → Prop} (F : autoParam (Fr h₀ L s.heap m) au4._auto_1) (N : autoParam (News h₀ L s.heap news) au4._auto_1) (U : autoParam (UpdF it io news g) au9._auto_1) (hi : autoParam (ItO io l i) au10._auto_1) (hl : autoParam (s.heap.IsList l vs) au12._auto_1) (hx : autoParam (vs[i]? = some v) au10._auto_1)
    (h : ∀ h' o', Fr h₀ L h' m → News h₀ L h' (g o') → ItO o' l (i + 1) → Q v { s with heap := h' }) :
    wpAny (model prog w) A (call (.builtin "next") [.ref it]) Q E s := by
  obtain ⟨pre, post, hl', hg, a, b⟩ := U.split
  have hmem : (it, io) ∈ news := by rw [hl']; exact List.mem_append_right _ (.head _)
  have hm := N (it, io) hmem
  have hit := hi.at hm.1
  refine call_function_entry (by decide +kernel) (by decide +kernel) kdk_entry_next (kdk_args_next _) ?_
  unfold Builtin.«next»
  refine wpAny_bind (m := someArgs "next" 1 2 _) (wpAny_of_eq (a := [Value.ref it]) (by first | rfl | kernel_rfl!) ?_)
  dsimp only
  refine wpAny_bind (wpAny_specialOf (name := Str.ofString "__next__") hit.typeIs slot_listiter_next.lookup ?_)
  refine wpAny_ite_split (fun hab => absurd hab (by decide)) (fun _ => ?_)
  refine wpAny_bind (nextSpecial_item hit hl hx fun h' hit' hs => ?_)
  obtain ⟨o', ho', hc', hd'⟩ := hit'
  exact wpAny_pure ⟨_, rfl, h h' o' (F.change hs hm.2.1 hm.2.2) (hg o' ▸ (show News h₀ L s.heap (pre ++ (it, io) :: post) from hl' ▸ N).setIn a b hs ho') ⟨hc', hd'⟩⟩
end
open PySem PySem.W PySem.Spec PySem.Calls PyProof.Rows
theorem fr_set {h₀ h : Heap} {L : Addr} {m : Str → Option Value} {x : Str} {v : Value} (F : Fr h₀ L h m) (e : m x = some v) : Fr h₀ L h (fun y => if y = x then some v else m y) := by
  have : (fun y => if y = x then some v else m y) = m := by
    funext y; by_cases q : y = x
    · rw [if_pos q, q, e]
    · rw [if_neg q]
  rw [this]; exact F

noncomputable def horner (v : Int) (xs : List Int) : Int := xs.foldl (fun v d => v * 64 + d) v

theorem and63 {b : Int} (h : 0 ≤ b) : Builtin.bitAnd b 63 = b % 64 := by
  obtain ⟨n, rfl⟩ := Int.eq_ofNat_of_zero_le h
  have : Builtin.bitAnd (n : Int) 63 = ((n &&& 63 : Nat) : Int) := by
    unfold Builtin.bitAnd
    have h1 : decide (0 ≤ (n : Int)) = true := by simp
    rw [h1]; rfl
  rw [this, show (63 : Nat) = 2 ^ 6 - 1 from rfl, Nat.and_two_pow_sub_one_eq_mod]
  (first | lia | omega)
theorem and64_tab : ∀ n : Nat, n < 128 → n &&& 64 = if n < 64 then 0 else 64 := by decide +kernel
theorem and64 {b : Int} (h : 0 ≤ b) (h1 : b < 128) : Builtin.bitAnd b 64 = if b < 64 then 0 else 64 := by
  obtain ⟨n, rfl⟩ := Int.eq_ofNat_of_zero_le h
  have : Builtin.bitAnd (n : Int) 64 = ((n &&& 64 : Nat) : Int) := by
    unfold Builtin.bitAnd
    have h1 : decide (0 ≤ (n : Int)) = true := by simp
    rw [h1]; rfl
  rw [this, and64_tab n (by (first | lia | omega))]
  by_cases q : n < 64
  · rw [if_pos q, if_pos (by (first | lia | omega))]; rfl
  · rw [if_neg q, if_neg (by (first | lia | omega))]; rfl
theorem or64 {v d : Int} (hv : 0 ≤ v) (h0 : 0 ≤ d) (h1 : d < 64) : Builtin.bitOr (v * 64) d = v * 64 + d := by
  obtain ⟨n, rfl⟩ := Int.eq_ofNat_of_zero_le hv
  obtain ⟨k, rfl⟩ := Int.eq_ofNat_of_zero_le h0
  have e : Builtin.bitOr ((n : Int) * 64) (k : Int) = ((n * 64 ||| k : Nat) : Int) := by
    unfold Builtin.bitOr Builtin.bitAnd Builtin.bitNot
    have h1 : decide (0 ≤ -((n : Int) * 64) - 1) = false := by simp; (first | lia | omega)
    have h2 : decide (0 ≤ -(k : Int) - 1) = false := by simp; (first | lia | omega)
    simp only [h1, h2]
    have e1 : (-(-((n : Int) * 64) - 1) - 1).toNat = n * 64 := by (first | lia | omega)
    have e2 : (-(-(k : Int) - 1) - 1).toNat = k := by (first | lia | omega)
    rw [e1, e2]; (first | lia | omega)
  rw [e]
  have : n * 64 ||| k = n * 64 + k := by
    have := Nat.shiftLeft_add_eq_or_of_lt (b := k) (i := 6) (by (first | lia | omega)) n
    rw [Nat.shiftLeft_eq] at this
    exact this.symm
  rw [this]; push_cast; rfl
theorem pow64_pos (k : Nat) : (0 : Int) < 64 ^ k := Int.pow_pos (by decide)
theorem pow64_le : ∀ {k n : Nat}, k ≤ n → (64 : Int) ^ k ≤ 64 ^ n := by
  intro k n h
  have : (64 : Nat) ^ k ≤ 64 ^ n := Nat.pow_le_pow_right (by decide) h
  exact_mod_cast this
theorem hb_start {b : Int} {k : Nat} (hb : b + 1 ≤ 64) (hk : k ≤ 8) : (b + 1) * 64 ^ k ≤ 64 ^ 9 := by
  have h2 := pow64_le hk
  have h3 := pow64_pos k
  have := Int.mul_le_mul_of_nonneg_right hb (Int.le_of_lt h3)
  (first | lia | omega)
theorem hb_step {v d : Int} {k : Nat} (h : (v + 1) * 64 ^ (k + 1) ≤ 64 ^ 9) (hd : d < 64) : (v * 64 + d + 1) * 64 ^ k ≤ 64 ^ 9 := by
  have h3 := pow64_pos k
  have e : (v + 1) * 64 ^ (k + 1) = ((v + 1) * 64) * 64 ^ k := by rw [Int.pow_succ, Int.mul_comm (64 ^ k) 64, Int.mul_assoc]
  rw [e] at h
  exact Int.le_trans (Int.mul_le_mul_of_nonneg_right (by (first | lia | omega)) (Int.le_of_lt h3)) h
theorem hb_le {v : Int} {k : Nat} (hv : 0 ≤ v) (h : (v + 1) * 64 ^ k ≤ 64 ^ 9) : v < 2 ^ 54 := by
  have h3 := pow64_pos k
  have q : (v + 1) * 1 ≤ (v + 1) * 64 ^ k := Int.mul_le_mul_of_nonneg_left (by (first | lia | omega)) (by (first | lia | omega))
  generalize (v + 1) * 64 ^ k = z at *
  (first | lia | omega)
open PySem PySem.W PySem.Spec PySem.Calls PyProof.Rows
theorem fr_sets {h₀ h : Heap} {L : Addr} {m : Str → Option Value} (F : Fr h₀ L h m) (ps : List (Str × Value)) (e : ∀ p ∈ ps, m p.1 = some p.2) : Fr h₀ L h (kstB m ps) := by
  have : kstB m ps = m := by funext y; exact kstB_eq e fun _ => rfl
  rw [this]; exact F
end

section
open PySem PySem.W PySem.Spec PySem.Calls PyProof.Rows

theorem news_sub {h₀ h : Heap} {L : Addr} {a b : List (Addr × Obj)} (N : News h₀ L h a) (hs : ∀ p ∈ b, p ∈ a) : News h₀ L h b := fun p hp => N p (hs p hp)

section
variable {prog : Program} {w : World} {A : Around} {s : Shared} {env : Env} {h₀ : Heap}

/-- the end of a turn of for_list -/
inductive TurnLE (h₀ : Heap) (L : Addr) (I : Addr) (io : Obj) (Jn : (Str → Option Value) → List (Addr × Obj) → Prop) (s₀ s₂ : Shared) : Prop
  | mk : ∀ h' gs tk m₂ news₂, s₂ = ⟨h', gs, s₀.drawn, tk, s₀.os⟩ → AllBare gs → Fr h₀ L h' m₂ → News h₀ L h' ((I, io) :: news₂) → (∀ p ∈ news₂, p.1 ≠ I) → Jn m₂ news₂ → TurnLE h₀ L I io Jn s₀ s₂
noncomputable def TurnL (h₀ : Heap) (L : Addr) (I : Addr) (io : Obj) (Jn : (Str → Option Value) → List (Addr × Obj) → Prop) (s₀ : Shared) (Qb : Shared → Prop) (Qr : Value → Shared → Prop) (f : Flow) (s₂ : Shared) : Prop :=
  match f with
  | .ret v => Qr v s₂
  | .brk => Qb s₂
  | _ => Hold (TurnLE h₀ L I io Jn s₀ s₂)
inductive ItInv (h₀ : Heap) (L : Addr) (l I : Addr) (items : Array Value) (J : Nat → (Str → Option Value) → List (Addr × Obj) → Prop) (s₀ : Shared) (k : Nat) (s' : Shared) : Prop
  | mk : ∀ h' gs tk m' news' i io, s' = ⟨h', gs, s₀.drawn, tk, s₀.os⟩ → AllBare gs → h'.get? I = some io → ItO io l i → Fr h₀ L h' m' → News h₀ L h' news' → (∀ p ∈ news', p.1 ≠ I) → J i m' news' → i ≤ items.size → k = items.size + 1 - i → ItInv h₀ L l I items J s₀ k s'
/-- a for over a list, its target any -/
theorem iter_gen {target : Expr} {body orelse : List Stmt} {l : Addr} {items : Array Value} {m : Str → Option Value} {news : List (Addr × Obj)} {R : Result → Shared → Prop}
    (J : Nat → (Str → Option Value) → List (Addr × Obj) → Prop) (upd : Nat → Value → (Str → Option Value) → (Str → Option Value))
    (F : Fr h₀ env.locals s.heap m) (N : News h₀ env.locals s.heap news) (hg : AllBare s.gens) (h0 : J 0 m news)
    (hl : ∀ i m₁ news₁ h, J i m₁ news₁ → Fr h₀ env.locals h m₁ → News h₀ env.locals h news₁ → h.IsList l items)
    (go : ∀ i v m₁ news₁ (s₁ : Shared) I (Q' : Unit → Shared → Prop), items[i]? = some v → J i m₁ news₁ → s₁.heap.IsListIter I l (i + 1) → Q' () s₁ → wpAny (model prog w) A (letOwnedTupleGo target (.ref I) v) Q' (fun _ _ => False) s₁)
    (asg : ∀ i v m₁ news₁ (s₁ : Shared) (Q' : Unit → Shared → Prop), items[i]? = some v → J i m₁ news₁ → Fr h₀ env.locals s₁.heap m₁ → News h₀ env.locals s₁.heap news₁ →
      (∀ h' tk', Fr h₀ env.locals h' (upd i v m₁) → (∀ b o, b ≠ env.locals → s₁.heap.get? b = some o → h'.get? b = some o) → Q' () { s₁ with heap := h', toks := tk' }) → wpAny (model prog w) A (assign target env v) Q' (fun _ _ => False) s₁)
    (turn : ∀ i v m₁ news₁ h gs tk I io, items[i]? = some v → J i m₁ news₁ → AllBare gs → ItO io l (i + 1) → (∀ p ∈ news₁, p.1 ≠ I) → (∀ p ∈ news, p.1 < I) →
      Fr h₀ env.locals h (upd i v m₁) → News h₀ env.locals h ((I, io) :: news₁) →
      wpAny (model prog w) A (execs body env) (TurnL h₀ env.locals I io (J (i + 1)) s (fun s' => R (.ok .next) s') fun v s' => R (.ok (.ret v)) s') (fun _ _ => False) ⟨h, gs, s.drawn, tk, s.os⟩)
    (done : ∀ h gs tk m₁ news₁, J items.size m₁ news₁ → AllBare gs → Fr h₀ env.locals h m₁ → News h₀ env.locals h news₁ →
      wpAny (model prog w) A (execs orelse env) (fun f s' => R (.ok f) s') (fun _ _ => False) ⟨h, gs, s.drawn, tk, s.os⟩)
    (hh : A.handled = none) :
    wpAny (model prog w) A (pyIter (.ref l)) (fun it s₂ => codeAny (model prog w) A (.forLoop target it body orelse env) R s₂) (fun _ _ => False) s := by
  have hls := hl 0 m news s.heap h0 F N
  refine wpAny_pyIter_list hls ?_
  obtain ⟨oL, _, _, hoL, _⟩ := F.ns
  have hLI : env.locals ≠ s.heap.objs.size := Nat.ne_of_lt (Heap.lt_size hoL)
  have hI0 : h₀.get? s.heap.objs.size = none := by
    cases q : h₀.get? s.heap.objs.size with
    | none => rfl
    | some o => exact absurd (Heap.lt_size (F.keep _ _ q)) (Nat.lt_irrefl _)
  obtain ⟨ol, hol, _⟩ := id hls
  have hlI : l ≠ s.heap.objs.size := Nat.ne_of_lt (Heap.lt_size hol)
  refine codeAny_forLoop_any
    (ItInv h₀ env.locals l s.heap.objs.size items J s) ?_ (items.size + 1)
    ⟨_, s.gens, s.toks, m, news, 0, _, rfl, hg, Heap.get?_push_size _ rfl, ⟨rfl, rfl⟩, F.push _, fun p hp => ⟨Heap.get?_push_of_some _ (N p hp).1, (N p hp).2⟩, fun p hp => Nat.ne_of_lt (Heap.lt_size (N p hp).1), h0, Nat.zero_le _, rfl⟩
  rintro k s' ⟨h', gs, tk, m', news', i, io, rfl, hgs, hio, hit, F', N', hnw, hJ, hi, rfl⟩
  have hl' := hl i m' news' h' hJ F' N'
  cases hv : items[i]? with
  | none =>
    have hsz : i = items.size := Nat.le_antisymm hi (by simpa using hv)
    subst hsz
    refine wpAny_pyNext_list_end hh (hit.at hio) hl' hv fun h₁ he₁ => ?_
    have F₁ : Fr h₀ env.locals h₁ m' := ⟨F'.ns.at' fun o e => he₁ _ o hLI e, fun b o e => he₁ b o (fun q => by rw [q, hI0] at e; cases e) (F'.keep b o e), F'.above⟩
    have N₁ : News h₀ env.locals h₁ news' := fun p hp => ⟨he₁ _ _ (hnw p hp) (N' p hp).1, (N' p hp).2⟩
    exact wpAny_mono (done h₁ gs tk m' news' hJ hgs F₁ N₁) (fun _ _ x => x) fun _ _ x => x.elim
  | some v =>
    have hlt : i < items.size := (Array.getElem?_eq_some_iff.mp hv).1
    refine wpAny_pyNext_list_item (hit.at hio) hl' hv fun h₁ hit₁ hs₁ => ?_
    refine wpAny_mono (go i v m' news' _ _ _ hv hJ hit₁ ?_) (fun _ _ x => x) fun _ _ x => x.elim
    obtain ⟨io₁, hio₁, hc₁, hd₁⟩ := hit₁
    have F₁ : Fr h₀ env.locals h₁ m' := F'.change hs₁ (Ne.symm hLI) hI0
    have N₁ : News h₀ env.locals h₁ ((s.heap.objs.size, io₁) :: news') := by
      intro p hp
      rcases List.mem_cons.mp hp with rfl | hp
      · exact ⟨hio₁, Ne.symm hLI, hI0⟩
      · exact ⟨(hs₁.2 _ (hnw p hp)).trans (N' p hp).1, (N' p hp).2⟩
    refine wpAny_mono (asg i v m' news' _ _ hv hJ F₁ (fun p hp => N₁ p (.tail _ hp)) fun h₂ tk₂ F₂ hk₂ => ?_) (fun _ _ x => x) fun _ _ x => x.elim
    have N₂ : News h₀ env.locals h₂ ((s.heap.objs.size, io₁) :: news') := fun p hp => ⟨hk₂ _ _ (N₁ p hp).2.1 (N₁ p hp).1, (N₁ p hp).2⟩
    refine wpAny_mono (turn i v m' news' h₂ gs _ s.heap.objs.size io₁ hv hJ hgs ⟨hc₁, hd₁⟩ hnw (fun p hp => Heap.lt_size (N p hp).1) F₂ N₂) (fun f s₃ h₃ => ?_) fun _ _ e => e.elim
    have fin : TurnLE h₀ env.locals s.heap.objs.size io₁ (J (i + 1)) s s₃ → ∃ m_1, m_1 < items.size + 1 - i ∧ ItInv h₀ env.locals l s.heap.objs.size items J s m_1 s₃ := by
      rintro ⟨h₃', gs₃, tk₃, m₂, news₂, rfl, hgs₃, F₃, N₃, ha₃, hJ₃⟩
      exact ⟨items.size + 1 - (i + 1), by (first | lia | omega), h₃', gs₃, tk₃, m₂, news₂, i + 1, io₁, rfl, hgs₃, (N₃ _ (.head _)).1, ⟨hc₁, hd₁⟩, F₃, fun p hp => N₃ p (.tail _ hp), ha₃, hJ₃, hlt, rfl⟩
    cases f with
    | ret v => exact h₃
    | brk => exact h₃
    | cont => exact fin h₃
    | next => exact fin h₃
end
section
variable {prog : Program} {w : World} {A : Around} {E : Value → Shared → Prop} {s : Shared} {env : Env} {h₀ : Heap} {m : Str → Option Value} {Q : Unit → Shared → Prop}
theorem asg1 {x : Str} {px : Pos} {v : Value} (hx : env.kindOf x = some .local) (hp : (env.scope.kind == .class || (env.scope.kind == .module && env.locals != env.globals)) = false) (F : Fr h₀ env.locals s.heap m)
    (h : ∀ h' tk', Fr h₀ env.locals h' (fun y => if y = x then some v else m y) → (∀ b o, b ≠ env.locals → s.heap.get? b = some o → h'.get? b = some o) → Q () { s with heap := h', toks := tk' }) :
    wpAny (model prog w) A (assign (.Name x px) env v) Q E s :=
  wpAny_assign_Name (wpAny_storeName_local hx F.ns (fun h₂ hn₂ hs₂ => h h₂ _ (F.set hn₂ hs₂) fun b o hb e => hs₂.extBut b o hb e) hp)
theorem go_name {x : Str} {px : Pos} {I : Addr} {v : Value} (h : Q () s) : wpAny (model prog w) A (letOwnedTupleGo (.Name x px) (.ref I) v) Q E s := wpAny_of_eq (a := ()) rfl h
end
section
variable {prog : Program} {w : World} {A : Around} {s : Shared} {env : Env} {h₀ : Heap}
theorem for_list {x : Str} {px pos : Pos} {iter : Expr} {body orelse : List Stmt} {l : Addr} {items : Array Value} {m : Str → Option Value} {news : List (Addr × Obj)} {Q : Flow → Shared → Prop}
    (J : Nat → (Str → Option Value) → List (Addr × Obj) → Prop)
    (hev : ∀ Q' : Value → Shared → Prop, Q' (.ref l) s → wpAny (model prog w) A (eval iter env) Q' (fun _ _ => False) s)
    (F : Fr h₀ env.locals s.heap m) (N : News h₀ env.locals s.heap news) (hg : AllBare s.gens) (h0 : J 0 m news)
    (hl : ∀ i m₁ news₁ h, J i m₁ news₁ → Fr h₀ env.locals h m₁ → News h₀ env.locals h news₁ → h.IsList l items)
    (turn : ∀ i v m₁ news₁ h gs tk I io, items[i]? = some v → J i m₁ news₁ → AllBare gs → ItO io l (i + 1) → (∀ p ∈ news₁, p.1 ≠ I) → (∀ p ∈ news, p.1 < I) →
      Fr h₀ env.locals h (fun y => if y = x then some v else m₁ y) → News h₀ env.locals h ((I, io) :: news₁) →
      wpAny (model prog w) A (execs body env) (TurnL h₀ env.locals I io (J (i + 1)) s (fun s' => Q .next s') fun v s' => Q (.ret v) s') (fun _ _ => False) ⟨h, gs, s.drawn, tk, s.os⟩)
    (done : ∀ h gs tk m₁ news₁, J items.size m₁ news₁ → AllBare gs → Fr h₀ env.locals h m₁ → News h₀ env.locals h news₁ →
      wpAny (model prog w) A (execs orelse env) Q (fun _ _ => False) ⟨h, gs, s.drawn, tk, s.os⟩)
    (hh : autoParam (A.handled = none) au1._auto_1) (hx : autoParam (env.kindOf x = some .local) au1._auto_1)
    (hp : autoParam ((env.scope.kind == .class || (env.scope.kind == .module && env.locals != env.globals)) = false) au1._auto_1)
    (hs : autoParam (∀ x, foldedSetIterable iter env x = pure x) au2._auto_1) :
    wpAny (model prog w) A (exec (.For (.Name x px) iter body orelse pos) env) Q (fun _ _ => False) s :=
  wpAny_For (hev _ (iter_gen J (fun _ v m y => if y = x then some v else m y) F N hg h0 hl (fun _ _ _ _ _ _ _ _ _ _ hq => go_name hq) (fun _ _ _ _ _ _ _ _ F₂ _ hq => asg1 hx hp F₂ fun h' tk' F₃ hk => hq h' tk' F₃ hk) turn done hh)) hs
theorem ev_name {x : Str} {p : Pos} {v : Value} {L a : Addr} {cn : Str} {cs : Scope} {ccd : Value} {cl : List (Str × Addr)} {m : Str → Option Value} (F : Fr h₀ L s.heap m) (e : m x = some v)
    (hk : autoParam (cs.kind = .function) au1._auto_1) (hx : autoParam ((envX cn cs L a ccd cl).kindOf x = some .local) au1._auto_1) (hd : (x == ("__debug__" : Str)) = false := by decide) :
    ∀ Q' : Value → Shared → Prop, Q' v s → wpAny (model prog w) A (eval (.Name x p) (envX cn cs L a ccd cl)) Q' (fun _ _ => False) s :=
  fun _ h => nameX_L F e h hk hx hd
end

section
variable {prog : Program} {w : World} {A : Around} {E : Value → Shared → Prop} {s : Shared} {h₀ : Heap} {L D : Addr} {m : Str → Option Value} {news : List (Addr × Obj)} {g : Obj → List (Addr × Obj)} {vs : Array Value} {n : Nat} {v : Value}

/-- an item of a list, at a written or known place -/
theorem item_at {value slice : PySem.Expr} {l : Addr} {i : Int} {u : Tok} {Q : Value → Shared → Prop} (hl : s.heap.IsList l vs)
    (hi : (0 ≤ i ∧ i < 2 ^ 63 ∧ vs[i.toNat]? = some v) ∨ (i < 0 ∧ -(vs.size : Int) ≤ i ∧ -(2 ^ 63) ≤ i ∧ vs[(i + vs.size).toNat]? = some v)) (h : Q v s)
    (hs : autoParam (subscripted slice false (.ref l) (.int i u) = operate [.ref l, .int i u] (getItem (.ref l) (.int i u))) au3._auto_1) :
    wpAny (model prog w) A (subscriptTail value slice (.ref l) (.int i u)) Q E s := by
  rcases hi with ⟨h0, hhi, hx⟩ | ⟨h0, h1, hf, hx⟩
  · exact tail_any hl.typeIs slot_list_getitem.lookup (wpAny_getItem_list hl h0 hhi hx h) hs
  · exact tail_any hl.typeIs slot_list_getitem.lookup (wpAny_getItem_list_neg hl h0 h1 hf hx h) hs

/-- an item of a made list is struck -/
theorem del_at {i : Int} {u : Tok} {k : Nat} {Q : Unit → Shared → Prop} (F : Fr h₀ L s.heap m) (N : News h₀ L s.heap news) (U : UpdF D (listOf vs n) news g) (hfit : Builtin.List.listFitsIndex i = true) (hk : seqIndex? i vs.size = some k) (hsz : vs.size ≤ sizeLine)
    (h : ∀ h', Fr h₀ L h' m → News h₀ L h' (g (listOf (vs.toList.eraseIdx k).toArray (n + 1))) → Q () { s with heap := h' }) :
    wpAny (model prog w) A (delItem (.ref D) (.int i u)) Q E s := by
  obtain ⟨pre, post, hl', hg, a, b⟩ := U.split
  have hm := N (D, listOf vs n) (by rw [hl']; exact List.mem_append_right _ (.head _))
  refine delItem_at hm.1 hfit hk (fun h' hs ho' => h h' (F.change hs hm.2.1 hm.2.2) ?_) hsz
  rw [hg]
  exact (show News h₀ L s.heap (pre ++ (D, listOf vs n) :: post) from hl' ▸ N).setIn a b hs ho'
end
structure Passed (n : Nat) : Prop where
theorem passed (n : Nat) : Passed n := Passed.mk
end

section
open PySem PySem.W PySem.Spec PySem.Calls PyProof.Rows
section
variable {prog : Program} {w : World} {M : Model} {A : Around} {E : Value → Shared → Prop} {s : Shared}
/-- stops at a mark, and by the shape of what is asked -/
theorem hold_p {P : Prop} (_ : autoParam (Passed 11) au10._auto_1) (h : Hold P) : P := h
theorem hold_q {P : Prop} (_ : autoParam (Passed 12) au10._auto_1) (h : Hold P) : P := h
theorem hold_sub {Q : Value → Shared → Prop} {e sl : PySem.Expr} {x y : Addr} (h : Hold (wpAny M A (subscriptTail e sl (.ref x) (.ref y)) Q E s)) : wpAny M A (subscriptTail e sl (.ref x) (.ref y)) Q E s := h
theorem hold_pages {Q : Value → Shared → Prop} {sl : PySem.Expr} {p : Pos} {v : Value} {y : Addr} (h : Hold (wpAny M A (subscriptTail (.Name (Str.ofString "pages") p) sl v (.ref y)) Q E s)) : wpAny M A (subscriptTail (.Name (Str.ofString "pages") p) sl v (.ref y)) Q E s := h
theorem hold_from {Q : Value → Shared → Prop} {e f : PySem.Expr} {p : Pos} {x y : Addr} (h : Hold (wpAny M A (subscriptTail e (.Slice (some f) none none p) (.ref x) (.ref y)) Q E s)) : wpAny M A (subscriptTail e (.Slice (some f) none none p) (.ref x) (.ref y)) Q E s := h
theorem hold_push {Q : Value → Shared → Prop} {v : Value} {b : Bool} (h : Hold (wpAny M A (getAttr v (Str.ofString "push") b) Q E s)) : wpAny M A (getAttr v (Str.ofString "push") b) Q E s := h
theorem hold_196 {Q : Value → Shared → Prop} {as : List Value} (h : Hold (wpAny M A (call (.ref 196) as) Q E s)) : wpAny M A (call (.ref 196) as) Q E s := h
theorem hold_set {Q : Unit → Shared → Prop} {x y z : Addr} (h : Hold (wpAny M A (setItem (.ref x) (.ref y) (.ref z)) Q E s)) : wpAny M A (setItem (.ref x) (.ref y) (.ref z)) Q E s := h
theorem ne_as {a b : Addr} (h : autoParam (a ≠ b) au21._auto_1) : a ≠ b := h
theorem ne_fl {a b : Addr} (h : autoParam (b ≠ a) au21._auto_1) : a ≠ b := h.symm
theorem ne_om {a b : Nat} (h : autoParam (a ≠ b) au24._auto_1) : a ≠ b := h
theorem truthy_a {x : Str} {t : Tok} {Q : Bool → Shared → Prop} (h : Q ((x.length : Int) != 0) { s with toks := s.toks + 1 + 1 }) (hf : autoParam (¬ (x.length : Int) ≥ 2 ^ 63) au19._auto_1) : wpAny (model prog w) A (truthy (.str x t)) Q E s := PySem.P.truthy_str hf h
theorem len_a {x : Str} {t : Tok} {Q : Value → Shared → Prop} (h : Q (.int x.length (s.toks + 1)) { s with toks := s.toks + 1 + 1 }) (hf : autoParam (¬ (x.length : Int) ≥ 2 ^ 63) au19._auto_1) : wpAny (model prog w) A (call (.builtin "len") [.str x t]) Q E s := PySem.P.len_str hf h
theorem len_l {l : Addr} {items : Array Value} {Q : Value → Shared → Prop} (h : Q (.int (items.size : Int) (s.toks + 1)) { s with toks := s.toks + 1 + 1 }) (hl : autoParam (s.heap.IsList l items) au12._auto_1) (hf : autoParam ((items.size : Int) < 2 ^ 63) au20._auto_1) : wpAny (model prog w) A (call (.builtin "len") [.ref l]) Q E s := PyProof.Rows.len_list hl hf h
theorem pow_a {a n : Int} {t u : Tok} {Q : Value → Shared → Prop} (h : Q (.int (a ^ n.toNat) s.toks) { s with toks := s.toks + 1 }) (h1 : autoParam (0 ≤ n) au11._auto_1) (h2 : autoParam (n ≤ 1000000) au11._auto_1) (h3 : autoParam (a.natAbs < 2 ^ 64) au11._auto_1) : wpAny (model prog w) A (binaryOp .Pow (.int a t) (.int n u)) Q E s := PyProof.Rows.pow_int_small h1 h2 h3 h
theorem mod_a {a b : Int} {t u : Tok} {Q : Value → Shared → Prop} (h : Q (.int (a.fmod b) s.toks) { s with toks := s.toks + 1 }) (h1 : autoParam (b ≠ 0) au11._auto_1) : wpAny (model prog w) A (binaryOp .Mod (.int a t) (.int b u)) Q E s := PyProof.Rows.mod_int' h1 h
/-- the first and the last item of a list -/
theorem item_first {e sl : PySem.Expr} {l : Addr} {v : Value} {r : List Value} {u : Tok} {Q : Value → Shared → Prop} (h : Q v s) (hl : autoParam (s.heap.IsList l (v :: r).toArray) au12._auto_1)
    (hs : autoParam (subscripted sl false (.ref l) (.int 0 u) = operate [.ref l, .int 0 u] (getItem (.ref l) (.int 0 u))) au3._auto_1) : wpAny (model prog w) A (subscriptTail e sl (.ref l) (.int 0 u)) Q E s :=
  item_at hl (.inl ⟨by decide, by decide, rfl⟩) h hs
theorem item_last {e sl : PySem.Expr} {l : Addr} {i : Int} {v : Value} {r : List Value} {u : Tok} {Q : Value → Shared → Prop} (h : Q v s) (hl : autoParam (s.heap.IsList l (r ++ [v]).toArray) au12._auto_1) (hi : autoParam (i = -1) au11._auto_1)
    (hs : autoParam (subscripted sl false (.ref l) (.int i u) = operate [.ref l, .int i u] (getItem (.ref l) (.int i u))) au3._auto_1) : wpAny (model prog w) A (subscriptTail e sl (.ref l) (.int i u)) Q E s := by
  have hi : i = -1 := hi
  subst hi
  refine item_at hl (.inr ⟨by decide, by simp; omega, by decide, ?_⟩) h hs
  have : ((-1 : Int) + ((r ++ [v]).toArray.size : Int)).toNat = r.length := by simp; omega
  rw [this]; simp
end
end

section
open PySem PySem.W PySem.Spec PySem.Calls PyProof.Rows PyProof.V PySem.SeqAt
local macro_rules | `(tactic| walk_at "call builtin:str.find") => `(tactic| (k_here; refine find4 ?_))
local macro_rules | `(tactic| walk_at "call builtin:str.rfind") => `(tactic| (k_here; refine rfind4 ?_))
local macro_rules | `(tactic| k_ne) => `(tactic| first | exact ne_as | exact ne_fl | exact ne_om)

section
open PySem PySem.W PySem.Spec PySem.Calls PyProof.Rows

theorem strip_call {w : World} {A : Around} {s : Shared} {x : Str} {t : Tok} {Q E : Value → Shared → Prop} (S : Site w 400 2000 [] A s) (hx : x.length ≤ 100000) (h1 : Txt.find x (Str.ofString "\n") = -1) (h2 : findIn4 x (Str.ofString ":") 0 (x.length : Int) = -1)
  (hret : ∀ t' h' tk', Keeps s.heap h' → Q (.str (stripDet x) t') { s with heap := h', toks := tk' }) :
    wpAny (model PySem.Challenge.rw_ty0042_01.row.prog w) A (call (.ref 35) [.str x t]) Q E s := by
  w_top off
  refine wpAny_call ?_
  refine' enterN _ S ?k6 ?k7 ?k8 ?k9 ?kB ?_ ?c5 ?c2 ?c3 ?c4
  case k6 => k_is
  case k7 => k_is
  case k8 => decide
  case k9 => exact BindsTo.of_eq rfl
  case kB => exact locs rfl
  case c2 => exact rfl
  case c3 => exact rfl
  case c4 => exact rfl
  case c5 => decide
  intro L cn cs a ccd cl' outer base g L' h₁ mg mb mean hke F N B KX T hg hgn hk1 hL
  try dsimp only
  try k_fold
  try (with_reducible refine wp_letA ?_; intro A9)
  try (with_reducible refine wp_letQ ?_; intro Qz1)
  k_steps
  all_goals (
    (rename _ ∨ _ => hr)
    have hr' : _ := hr.resolve_left (by rw [h1]; (first | lia | omega))
    obtain ⟨_, hr'⟩ := hr'
    subst hr'
    first
    | (exfalso; rename 0 ≤ findIn4 _ _ _ _ => q; rw [h2] at q; (first | lia | omega))
    | (clear hr
       refine (?_ : Q (.str _ _) _)
       have e : stripDet x = _ := rfl
       first
       | exact hret _ _ _ (keep_end hg (by assumption))
       | (have q := rfindIn4_neg (by assumption)
          unfold stripDet at hret
          rw [q] at hret
          exact hret _ _ _ (keep_end hg (by assumption)))))
end

section
open PySem PySem.W PySem.Spec PySem.Calls PyProof.Rows PyProof.V PySem.SeqAt
local macro_rules | `(tactic| walk_at "execs cons") => `(tactic| (k_here; first | k_gentoks | (with_reducible refine execs_let ?_; intro Q9)))
local macro_rules | `(tactic| walk_at "execs cons Assign cons") => `(tactic| (k_here; first | k_gentoks | (with_reducible refine execs_let ?_; intro Q9)))
local macro_rules | `(tactic| walk_at "exec For Name Name cons nil") => `(tactic| (k_here; refine hold ?_))
local macro_rules | `(tactic| walk_at "exec While Compare cons nil") => `(tactic| (k_here; refine hold ?_))
local macro_rules | `(tactic| walk_at "compareOp NotEq ref ref") => `(tactic| (k_here; refine hold ?_))

section
open PySem PySem.W PySem.Spec PySem.Calls PyProof.Rows
local macro_rules | `(tactic| walk_at "call builtin:next") => `(tactic| (k_here; k_dflt (refine next_item (h := ?_); k_whole); intro h' o' F' N' hi'))
local macro_rules | `(tactic| walk_at "exec While BinOp cons nil") => `(tactic| (k_here; refine hold ?_))

theorem parse_ok {w : World} {A : Around} {s : Shared} {it l : Addr} {i : Nat} {vs : List Value} {ns ds rest : List Int} {e : Int} {Q E : Value → Shared → Prop} (S : Site w 400 2000 [it] A s) (hb : AllBare s.gens) (hit : s.heap.IsListIter it l i) (hl : s.heap.IsList l vs.toArray) (hi : IntsAre vs ns) (hns : ns.drop i = ds.map (64 + ·) ++ e :: rest) (hds : ∀ d ∈ ds, 0 ≤ d ∧ d < 64) (he : 0 ≤ e ∧ e < 64) (hlen : ds.length ≤ 8)
  (hret : ∀ t' h' gs tk', AllBare gs → KeepsBut [it] s.heap h' → h'.IsListIter it l (i + ds.length + 1) → Q (.int (horner 0 (ds ++ [e])) t') ⟨h', gs, s.drawn, tk', s.os⟩) :
    wpAny (model PySem.Challenge.rw_ty0042_01.row.prog w) A (call (.ref 42) [.ref it]) Q E s := by
  w_top off
  refine wpAny_call ?_
  refine' enterN _ S ?k6 ?k7 ?k8 ?k9 ?kB ?_ ?c5 ?c2 ?c3 ?c4
  case k6 => k_is
  case k7 => k_is
  case k8 => decide
  case k9 => exact BindsTo.of_eq rfl
  case kB => exact locs rfl
  case c2 => exact rfl
  case c3 => exact rfl
  case c4 => exact rfl
  case c5 => decide
  intro L cn cs a ccd cl' outer base g L' h₁ mg mb mean hke F N B KX T hg hgn hk1 hL
  try dsimp only
  try k_fold
  try (with_reducible refine wp_letA ?_; intro A9)

  have hlg : g.IsList l vs.toArray := by
    refine gen_goal fun G9 hG9 => ?_
    obtain ⟨o, ho, r⟩ := hl
    refine hG9 ?_
    clear hG9 G9
    refine ⟨o, hg _ _ ho ?_, r⟩
    intro hm
    refine gen_goal fun G9 hG9 => ?_
    obtain ⟨o', ho', hc', _⟩ := hit
    refine hG9 ?_
    clear hG9 G9
    rw [List.mem_singleton.mp hm] at ho
    rw [ho'] at ho
    cases ho
    rw [r.1] at hc'; exact absurd hc' (by decide)
  refine gen_goal fun G9 hG9 => ?_
  obtain ⟨io, hio, hic, hid'⟩ := hit
  refine hG9 ?_
  clear hG9 G9
  have hItO : ItO io l i := ⟨hic, hid'⟩
  have N1 : News g L' h₁ [(it, io)] := fun p hp => by
    rw [List.mem_singleton.mp hp]
    exact ⟨hk1 _ _ hio, by rw [hL]; exact Nat.ne_of_lt (Heap.lt_size hio), hgn _ (List.mem_singleton.mpr rfl)⟩
  clear N
  have hx0 : ∀ (j : Nat) (ds : List Int), (∀ d ∈ ds, 0 ≤ d ∧ d < 64) → ns.drop j = ds.map (64 + ·) ++ e :: rest → ∃ b tb, vs.toArray[j]? = some (.int b tb) ∧ b :: ns.drop (j + 1) = ds.map (64 + ·) ++ e :: rest ∧ 0 ≤ b ∧ b < 128 := by
    intro j ds hds hns
    have h0 : ns.drop j ≠ [] := by rw [hns]; simp
    have hlt : j < ns.length := by
      rcases Nat.lt_or_ge j ns.length with q | q
      · exact q
      · exact absurd (List.drop_eq_nil_of_le q) h0
    obtain ⟨tb, hx⟩ := hi.get j ns[j] (by simp [hlt])
    have hc : ns[j] :: ns.drop (j + 1) = ds.map (64 + ·) ++ e :: rest := by rw [← hns]; exact (List.drop_eq_getElem_cons hlt).symm
    refine ⟨ns[j], tb, by simpa using hx, hc, ?_⟩
    cases ds with
    | nil => simp only [List.map_nil, List.nil_append, List.cons.injEq] at hc; rw [hc.1]; (first | lia | omega)
    | cons d r => simp only [List.map_cons, List.cons_append, List.cons.injEq] at hc; have := hds d (List.mem_cons_self ..); rw [hc.1]; (first | lia | omega)
  refine gen_goal fun G9 hG9 => ?_
  obtain ⟨b, tb, hxb, hcons, hb0, hb1⟩ := hx0 i ds hds hns
  refine hG9 ?_
  clear hG9 G9
  have h63 := and63 hb0
  try (with_reducible refine wp_letQ ?_; intro Qz1)
  k_steps
  unfold Hold
  (with_reducible rename Fr _ _ _ _ => F1)
  refine fr_let F1 ?_
  clear F1
  intro mz1x F1
  (with_reducible rename News _ _ _ _ => N2)
  refine my_while (fun k m news => ∃ bc v tb' tv j o ds', m (Str.ofString "iterator") = some (.ref it) ∧ m (Str.ofString "b") = some (.int bc tb') ∧ m (Str.ofString "val") = some (.int v tv) ∧ news = [(it, o)] ∧ ItO o l j ∧ ds'.length = k ∧
      bc :: ns.drop j = ds'.map (64 + ·) ++ e :: rest ∧ 0 ≤ bc ∧ bc < 128 ∧ j + k = i + 1 + ds.length ∧ (∀ d ∈ ds', 0 ≤ d ∧ d < 64) ∧ 0 ≤ v ∧ (v + 1) * 64 ^ k ≤ 64 ^ 9 ∧ horner v (ds' ++ [e]).tail = horner 0 (ds ++ [e])) ds.length ?_ F1 N2 hb ?_
  · refine ⟨b, _, _, _, i + 1, _, ds, rfl, rfl, rfl, rfl, by assumption, rfl, hcons, hb0, hb1, rfl, hds, ?_, ?_, ?_⟩
    · rw [h63]; (first | lia | omega)
    · rw [h63]; exact hb_start (by (first | lia | omega)) hlen
    · rw [h63]
      cases ds with
      | nil =>
        simp only [List.map_nil, List.nil_append, List.cons.injEq] at hcons
        rw [hcons.1]
        simp [horner]; (first | lia | omega)
      | cons d r =>
        simp only [List.map_cons, List.cons_append, List.cons.injEq] at hcons
        have := hds d (List.mem_cons_self ..)
        have e1 : b % 64 = d := by rw [hcons.1]; (first | lia | omega)
        rw [e1]
        simp [horner]
  · intro k m₁ news₁ h gs tk hz23x hgs F3 N3
    refine gen_goal fun G9 hG9 => ?_
    obtain ⟨bc, v, tb', tv, j, o, ds', hm1, hm2, hm3, rfl, hio', hk, hcons', hbc0, hbc1, hjk, hds', hv0, hvb, hfin⟩ := hz23x
    refine hG9 ?_
    clear hG9 G9
    have F4 := fr_sets F3 [(Str.ofString "iterator", .ref it), (Str.ofString "b", .int bc tb'), (Str.ofString "val", .int v tv)] (by simp [hm1, hm2, hm3])
    dsimp only [kstB] at F4
    clear F3
    try clear F1
    try clear N2
    try clear F
    try clear N1
    have h64 := and64 hbc0 hbc1
    cases ds' with
    | nil =>
      simp only [List.map_nil, List.nil_append, List.cons.injEq] at hcons'
      rw [if_pos (by (first | lia | omega))] at h64
      have h65 : Builtin.bitAnd bc 64 = 0 := h64
      try (with_reducible refine wp_letQ ?_; intro Qz2)
      k_steps
      · exfalso; (first | lia | omega)
      · have hv : v = horner 0 (ds ++ [e]) := hfin
        have hj : j = i + ds.length + 1 := by simp only [List.length_nil] at hk; (first | lia | omega)
        subst hv hj
        exact hret _ _ _ _ hgs (keepbut_end hg F4) (hio'.at (N3 _ (List.mem_singleton.mpr rfl)).1)
    | cons d r =>
      simp only [List.map_cons, List.cons_append, List.cons.injEq] at hcons'
      have hd := hds' d (List.mem_cons_self ..)
      rw [if_neg (by (first | lia | omega))] at h64
      have hr : ∀ d ∈ r, 0 ≤ d ∧ d < 64 := fun x hx => hds' x (List.mem_cons_of_mem _ hx)
      refine gen_goal fun G9 hG9 => ?_
      obtain ⟨b2, tb2, hxb2, hcons2, hb20, hb21⟩ := hx0 j r hr hcons'.2
      refine hG9 ?_
      clear hG9 G9
      have hv1 := hb_le hv0 hvb
      have h63' := and63 hb20
      try (with_reducible refine wp_letQ ?_; intro Qz3)
      k_steps
      · show Hold _
        (with_reducible rename Fr _ _ _ _ => F5)
        refine fr_let F5 ?_
        clear F5
        intro mz2x F5
        (with_reducible rename News _ _ _ _ => N5)
        have hv2 : Builtin.bitOr (v * 2 ^ Int.toNat 6) (Builtin.bitAnd b2 63) = v * 64 + b2 % 64 := by rw [h63']; exact or64 hv0 (by (first | lia | omega)) (by (first | lia | omega))
        rw [List.length_cons] at hk
        refine ⟨_, _, _, _, _, r.length, rfl, hgs, F5, N5, by (first | lia | omega), b2, Builtin.bitOr (v * 2 ^ Int.toNat 6) (Builtin.bitAnd b2 63), _, _, j + 1, _, r, rfl, rfl, rfl, rfl, by assumption, rfl, hcons2, hb20, hb21, by (first | lia | omega), hr, by (first | lia | omega), ?_, ?_⟩
        · rw [hv2]; rw [← hk] at hvb; exact hb_step hvb (by (first | lia | omega))
        · rw [← hfin, hv2]
          cases r with
          | nil =>
            simp only [List.map_nil, List.nil_append, List.cons.injEq] at hcons2
            have : b2 % 64 = e := by rw [hcons2.1]; (first | lia | omega)
            rw [this]; rfl
          | cons d2 r2 =>
            simp only [List.map_cons, List.cons_append, List.cons.injEq] at hcons2
            have := hr d2 (List.mem_cons_self ..)
            have : b2 % 64 = d2 := by rw [hcons2.1]; (first | lia | omega)
            rw [this]; rfl
      · exfalso; (first | lia | omega)
end

section
open PySem PySem.W PySem.Spec PySem.Calls PyProof.Rows
theorem erase_last {α : Type} (l : List α) (x : α) : (l ++ [x]).eraseIdx ((-1 : Int) + ((l ++ [x]).toArray.size : Int)).toNat = l := by
  have : ((-1 : Int) + ((l ++ [x]).toArray.size : Int)).toNat = l.length := by simp; (first | lia | omega)
  rw [this, List.eraseIdx_append_of_length_le (Nat.le_refl _)]
  simp
theorem erase_last1 {α : Type} (a : α) (l : List α) (x : α) : (a :: (l ++ [x])).eraseIdx ((-1 : Int) + ((a :: (l ++ [x])).toArray.size : Int)).toNat = a :: l := erase_last (a :: l) x
theorem last_at {α : Type} (l : List α) (x : α) : (l ++ [x]).toArray[((-1 : Int) + ((l ++ [x]).toArray.size : Int)).toNat]? = some x := by
  have : ((-1 : Int) + ((l ++ [x]).toArray.size : Int)).toNat = l.length := by simp; (first | lia | omega)
  rw [this]; simp
theorem last_at1 {α : Type} (a : α) (l : List α) (x : α) : (a :: (l ++ [x])).toArray[((-1 : Int) + ((a :: (l ++ [x])).toArray.size : Int)).toNat]? = some x := last_at (a :: l) x
local macro_rules | `(tactic| walk_at "exec Assert") => `(tactic| (k_here; refine hold_p (h := ?_)))
local macro_rules | `(tactic| walk_at "truthy str") => `(tactic| (k_here; refine truthy_a ?_))
local macro_rules | `(tactic| walk_at "call builtin:str.startswith") => `(tactic| (k_here; refine PySem.SC.startswith ?_))
local macro_rules | `(tactic| walk_at "call builtin:str.endswith") => `(tactic| (k_here; refine PySem.SC.endswith ?_))
local macro_rules | `(tactic| walk_at "call builtin:len") => `(tactic| (k_here; refine len_l ?_))
local macro_rules | `(tactic| walk_at "call builtin:len") => `(tactic| (k_here; refine len_a ?_))
local macro_rules | `(tactic| walk_at "subscriptTail") => `(tactic| (k_here; first | refine item_last ?_ | refine item_first ?_))
local macro_rules | `(tactic| walk_at "delItem ref int") => `(tactic| (k_here; refine hold ?_))
local macro_rules | `(tactic| walk_at "exec If") => `(tactic| (k_here; refine hold_q (h := ?_)))

theorem strvals_shape {lt : List (Str × Tok)} {w0 wl : Str} {ws : List Str} (h : lt.map (·.1) = w0 :: (ws ++ [wl])) : ∃ t0 lm tl, lt = (w0, t0) :: (lm ++ [(wl, tl)]) ∧ lm.map (·.1) = ws := by
  cases lt with
  | nil => simp at h
  | cons p r =>
    obtain ⟨a, t0⟩ := p
    simp only [List.map_cons, List.cons.injEq] at h
    obtain ⟨rfl, h⟩ := h
    refine gen_goal fun G9 hG9 => ?_
    obtain ⟨lm, l2, rfl, h1, h2⟩ := List.map_eq_append_iff.mp h
    refine hG9 ?_
    clear hG9 G9
    refine gen_goal fun G9 hG9 => ?_
    obtain ⟨q, l3, rfl, h3, h4⟩ := List.map_eq_cons_iff.mp h2
    refine hG9 ?_
    clear hG9 G9
    have : l3 = [] := by simpa using h4
    subst this
    obtain ⟨b, tl⟩ := q
    simp only at h3
    subst h3
    exact ⟨t0, lm, tl, rfl, h1⟩

noncomputable def ellMid (y : Str) (endp : Int) : List Str → Int → Bool
  | [], _ => true
  | w :: r, st => if findIn4 y w st endp < 0 then false else ellMid y endp r (findIn4 y w st endp + w.length)
noncomputable def ellRes (y w0 : Str) (ws : List Str) (wl : Str) : Bool :=
  if w0.length ≠ 0 then
    Txt.startswith y w0 && (Txt.endswith y wl && (!decide ((w0.length : Int) > y.length - wl.length) && ellMid y (y.length - wl.length) ws w0.length))
  else Txt.endswith y wl && (!decide ((0 : Int) > y.length - wl.length) && ellMid y (y.length - wl.length) (w0 :: ws) 0)

/-- what stands behind the first piece -/
inductive EllInv (g : Heap) (L : Addr) (y : Str) (u : Tok) (wl : Str) (tl : Tok) (big : Nat) (res : Bool) (s : Shared) : Shared → Prop
  | mk {h : Heap} {gs : Array GenState} {tk : Tok} {m : Str → Option Value} {st : Int} {ts te : Tok} {lw : Addr} {lm : List (Str × Tok)} {vs : List Value} {k : Nat} : AllBare gs → Fr g L h m → lm.map (fun p => Value.str p.1 p.2) = vs → News g L h [(lw, listOf (vs ++ [Value.str wl tl]).toArray k)] →
      m (Str.ofString "got") = some (.str y u) → m (Str.ofString "endpos") = some (.int y.length te) → m (Str.ofString "startpos") = some (.int st ts) → m (Str.ofString "ws") = some (.ref lw) → lm.length ≤ 10001 → (∀ p ∈ lm, p.1.length ≤ big) →
      res = (Txt.endswith y wl && (!decide (st > y.length - wl.length) && ellMid y (y.length - wl.length) (lm.map (·.1)) st)) → EllInv g L y u wl tl big res s ⟨h, gs, s.drawn, tk, s.os⟩
/-- a turn of the search -/
inductive EllLoop (L : Addr) (y : Str) (u : Tok) (wl : Str) (lw : Addr) (vs : List Value) (k : Nat) (ws : List Str) (res : Bool) (i : Nat) (m : Str → Option Value) : List (Addr × Obj) → Prop
  | mk {st : Int} {ts te : Tok} : m (Str.ofString "got") = some (.str y u) → m (Str.ofString "endpos") = some (.int ((y.length : Int) - wl.length) te) → m (Str.ofString "startpos") = some (.int st ts) →
      res = ellMid y (y.length - wl.length) (ws.drop i) st → EllLoop L y u wl lw vs k ws res i m [(lw, listOf vs.toArray k)]
theorem ell_item {lm : List (Str × Tok)} {vs : List Value} {i : Nat} {v : Value} {big : Nat} (hvm : lm.map (fun p => Value.str p.1 p.2) = vs) (hb : ∀ p ∈ lm, p.1.length ≤ big) (hv : vs.toArray[i]? = some v) :
    ∃ wi ti, v = .str wi ti ∧ (lm.map (·.1)).drop i = wi :: (lm.map (·.1)).drop (i + 1) ∧ wi.length ≤ big := by
  rw [List.getElem?_toArray, ← hvm, List.getElem?_map] at hv
  cases hq : lm[i]? with
  | none => rw [hq] at hv; cases hv
  | some p =>
    rw [hq] at hv
    obtain ⟨hlt, hp⟩ := List.getElem?_eq_some_iff.mp hq
    refine ⟨p.1, p.2, (Option.some.inj hv).symm, ?_, hb p (hp ▸ List.getElem_mem hlt)⟩
    rw [List.drop_eq_getElem_cons (by simpa using hlt), List.getElem_map, hp]
/-- the rest is walked once for both branches -/
theorem wp_cut {M : Model} {A : Around} {c : Sem Flow} {Q : Flow → Shared → Prop} {E : Value → Shared → Prop} {s : Shared} (J : Shared → Prop) (rest : ∀ s', J s' → Q .next s') (h : ∀ Q' : Flow → Shared → Prop, (∀ s', J s' → Q' .next s') → (∀ v s', Q (.ret v) s' → Q' (.ret v) s') → wpAny M A c Q' E s) : wpAny M A c Q E s := h Q rest fun _ _ x => x

theorem ell_any {w : World} {A : Around} {s : Shared} {x y w0 wl : Str} {ws : List Str} {t u : Tok} {Q E : Value → Shared → Prop} (S : Site w 400 2000 [] A s) (hb : AllBare s.gens) (hx : x.length ≤ 100000) (hy : y.length ≤ 100000) (hc : Builtin.Str.occurrences x (Str.ofString "...") 0 x.length 1 ≠ []) (htx : Txt.split x (Str.ofString "...") = w0 :: (ws ++ [wl])) (hwn : ws.length ≤ 10000) (hwl : wl.length ≠ 0)
  (hret : ∀ b h' gs tk', AllBare gs → Keeps s.heap h' → b = ellRes y w0 ws wl → Q (.bool b) ⟨h', gs, s.drawn, tk', s.os⟩) :
    wpAny (model PySem.Challenge.rw_ty0042_01.row.prog w) A (call (.ref 28) [.str x t, .str y u]) Q E s := by
  w_top off
  refine wpAny_call ?_
  refine' enterN _ S ?k6 ?k7 ?k8 ?k9 ?kB ?_ ?c5 ?c2 ?c3 ?c4
  case k6 => k_is
  case k7 => k_is
  case k8 => decide
  case k9 => exact BindsTo.of_eq rfl
  case kB => exact locs rfl
  case c2 => exact rfl
  case c3 => exact rfl
  case c4 => exact rfl
  case c5 => decide
  intro L cn cs a ccd cl' outer base g L' h₁ mg mb mean hke F N B KX T hg hgn hk1 hL
  try dsimp only
  try k_fold
  try (with_reducible refine wp_letA ?_; intro A9)
  have m1 := passed 11
  try (with_reducible refine wp_letQ ?_; intro Qz1)
  k_steps
  unfold Hold
  clear m1
  rename List (Str × Tok) => lt
  have hlk : lt.map (·.1) = Txt.split x (Str.ofString "...") := by assumption
  rename ∀ a ∈ List.map _ lt, _ => hlen
  rw [htx] at hlk
  refine gen_goal fun G9 hG9 => ?_
  obtain ⟨t0, lm, tl, rfl, hlm⟩ := strvals_shape hlk
  refine hG9 ?_
  clear hG9 G9
  have hlw0 : w0.length ≤ x.length := hlen w0 (by simp)
  have hlwl : wl.length ≤ x.length := hlen wl (by simp)
  have hlws : ∀ a ∈ ws, a.length ≤ x.length := fun a ha => hlen a (by rw [← hlm] at ha; simp at ha ⊢; exact .inr (.inl ha))
  have hlml : lm.length = ws.length := by rw [← hlm]; simp
  (with_reducible rename Fr _ _ _ _ => F1)
  refine fr_let F1 ?_
  clear F1
  intro mz1x F1
  (with_reducible rename News _ _ _ _ => N1)
  simp only [strValues, List.map_cons, List.map_append, List.map_nil] at N1
  generalize hvm : List.map (fun p => Value.str p.1 p.2) lm = vm at N1
  have hvl : vm.length = ws.length := by rw [← hvm]; simp [hlml]
  clear hlk hlen
  have m2 := passed 12
  try (with_reducible refine wp_letQ ?_; intro Qz2)
  k_steps
  unfold Hold
  clear m2
  (with_reducible rename Fr _ _ _ _ => F2)
  refine fr_let F2 ?_
  clear F2
  intro mz2x F2
  (with_reducible rename News _ _ _ _ => N2)
  refine wp_cut (EllInv g L' y u wl tl x.length (ellRes y w0 ws wl) s) ?_ fun Q' rest back => ?_
  · intro s' hJ
    cases hJ with | @mk h gs tk m st ts te lw lm2 vm2 k hgs F3 hvm2 N3 hm1 hm2 hm3 hm4 hlen hbig hres => ?_
    have F4 := fr_sets F3 [(Str.ofString "got", .str y u), (Str.ofString "endpos", .int (y.length : Int) te), (Str.ofString "startpos", .int st ts), (Str.ofString "ws", .ref lw)] (by
      intro p hp; simp only [List.mem_cons, List.not_mem_nil, or_false] at hp
      rcases hp with rfl | rfl | rfl | rfl
      · exact hm1
      · exact hm2
      · exact hm3
      · exact hm4)
    dsimp only [kstB] at F4
    clear F3 hm1 hm2 hm3 hm4 N2 F2
    have hvl2 : vm2.length = lm2.length := by rw [← hvm2]; simp
    try (with_reducible refine wp_letQ ?_; intro Qz3)
    k_steps
    · unfold Hold
      (with_reducible rename Fr _ _ _ _ => F8)
      refine fr_let F8 ?_
      clear F8
      intro mz3x F8
      (with_reducible rename News _ _ _ _ => N8)
      refine' del_at F8 N8 ?kU ?kf ?kk ?kz ?_
      case kU => k_updF
      case kf => decide
      case kk => exact seqIndex_back (by decide) (by simp <;> (first | lia | omega))
      case kz => rw [sizeLine_eq]; simp; (first | lia | omega)
      intro h' F9 N9
      simp only [List.toList_toArray, erase_last] at N9
      clear F8 N8
      try (with_reducible refine wp_letQ ?_; intro Qz4)
      k_steps
      · refine hret _ _ _ _ hgs (keep_end hg (by assumption)) ?_
        rw [hres, ‹Txt.endswith y wl = true›, decide_eq_true (show st > _ from ‹_ < st›)]; rfl
      · unfold Hold
        (with_reducible rename Fr _ _ _ _ => F5)
        refine fr_let F5 ?_
        clear F5
        intro mz4x F5
        (with_reducible rename News _ _ _ _ => N5)
        have hr2 : ellRes y w0 ws wl = ellMid y (y.length - wl.length) (lm2.map (·.1)) st := by rw [hres, ‹Txt.endswith y wl = true›, decide_eq_false (show ¬ st > _ from ‹¬ _ < st›)]; rfl
        clear hres
        refine for_list (l := lw) (items := vm2.toArray) (EllLoop L' y u wl lw vm2 (k + 1) (lm2.map (·.1)) (ellRes y w0 ws wl)) (ev_name F5 rfl) F5 N5 hgs (.mk rfl rfl rfl (by rw [List.drop_zero]; exact hr2)) ?_ ?_ ?_
        · intro i m₁ news₁ h hJ F6 N6
          cases hJ
          exact ⟨_, (N6 _ (.head _)).1, rfl, _, rfl⟩
        · intro i v m₁ news₁ h gs tk I io hv hJ hgs hio hI1 hI2 F6 N6
          cases hJ with | @mk st ts te hm1 hm2 hm3 hst => ?_
          refine gen_goal fun G9 hG9 => ?_
          obtain ⟨wi, ti, hvi, hdr, hwb⟩ := ell_item hvm2 hbig hv
          refine hG9 ?_
          clear hG9 G9
          subst hvi
          rw [hdr] at hst
          have F7 := fr_sets F6 [(Str.ofString "got", .str y u), (Str.ofString "endpos", .int ((y.length : Int) - wl.length) te), (Str.ofString "startpos", .int st ts)] (by
            intro p hp; simp only [List.mem_cons, List.not_mem_nil, or_false] at hp
            rcases hp with rfl | rfl | rfl
            · exact hm1
            · exact hm2
            · exact hm3)
          have F8 := fr_set F7 (x := Str.ofString "w") (v := .str wi ti) (by with_unfolding_all rfl)
          dsimp only [kstB] at F8
          clear F6 F7
          have hwil : wi.length ≤ 100000 := by (first | lia | omega)
          rw [ellMid] at hst
          try (with_reducible refine wp_letQ ?_; intro Qz5)
          k_steps
          · refine hret _ _ _ _ hgs (keep_end hg (by assumption)) ?_
            (with_reducible rename _ < (0 : Int) => hneg)
            rw [if_pos hneg] at hst
            exact hst.symm
          · show Hold _
            (with_reducible rename ¬ _ < (0 : Int) => hneg)
            rw [if_neg hneg] at hst
            (with_reducible rename Fr _ _ _ _ => F7)
            refine fr_let F7 ?_
            clear F7
            intro mz5x F7
            (with_reducible rename News _ _ _ _ => N7)
            exact ⟨_, _, _, _, _, rfl, hgs, F7, N7, hI1, .mk rfl rfl rfl hst⟩
        · intro h gs tk m₁ news₁ hJ hgs F6 N6
          cases hJ with | @mk st ts te hm1 hm2 hm3 hst => ?_
          try (with_reducible refine wp_letQ ?_; intro Qz6)
          k_steps
          refine hret _ _ _ _ hgs (keep_end hg (by assumption)) ?_
          have hz : (lm2.map (·.1)).drop vm2.toArray.size = [] := List.drop_eq_nil_of_le (by simp [hvl2])
          rw [hz] at hst
          exact hst.symm
    · refine hret _ _ _ _ hgs (keep_end hg (by assumption)) ?_
      rw [hres, ‹Txt.endswith y wl = false›]; rfl
    · exfalso; (first | lia | omega)
  · k_steps
    · unfold Hold
      (with_reducible rename Fr _ _ _ _ => F8)
      refine fr_let F8 ?_
      clear F8
      intro mz6x F8
      (with_reducible rename News _ _ _ _ => N8)
      refine' del_at F8 N8 ?kU ?kf ?kk ?kz ?_
      case kU => k_updF
      case kf => decide
      case kk => exact seqIndex_at (by decide) (by simp <;> (first | lia | omega))
      case kz => rw [sizeLine_eq]; simp; (first | lia | omega)
      intro h' F9 N9
      simp only [List.toList_toArray, Int.toNat_zero, List.eraseIdx_cons_zero] at N9
      clear F8 N8
      try (with_reducible refine wp_letQ ?_; intro Qz7)
      k_steps
      try dsimp only
      (with_reducible rename Fr _ _ _ _ => F3)
      refine fr_let F3 ?_
      clear F3
      intro mz7x F3
      (with_reducible rename News _ _ _ _ => N3)
      have hne : w0.length ≠ 0 := by (first | lia | omega)
      refine rest _ (.mk (lm := lm) hb F3 hvm (news_sub N3 (by intro p hp; exact .tail _ hp)) rfl rfl rfl rfl (by (first | lia | omega)) (fun p hp => hlws _ (by rw [← hlm]; exact List.mem_map_of_mem hp)) ?_)
      rw [ellRes, if_pos hne, ‹Txt.startswith y w0 = true›, hlm]; rfl
    · refine back _ _ (hret _ _ _ _ hb (keep_end hg (by assumption)) ?_)
      have hne : w0.length ≠ 0 := by (first | lia | omega)
      rw [ellRes, if_pos hne, ‹Txt.startswith y w0 = false›]; rfl
    · try dsimp only
      (with_reducible rename Fr _ _ _ _ => F3)
      refine fr_let F3 ?_
      clear F3
      intro mz8x F3
      (with_reducible rename News _ _ _ _ => N3)
      have hz : w0.length = 0 := by (first | lia | omega)
      refine rest _ (.mk (lm := (w0, t0) :: lm) (vs := Value.str w0 t0 :: vm) hb F3 (by rw [List.map_cons, hvm]) (news_sub N3 (by intro p hp; exact .tail _ hp)) rfl rfl rfl rfl (by rw [List.length_cons]; (first | lia | omega)) (fun p hp => ?_) ?_)
      · rcases List.mem_cons.mp hp with rfl | hp
        · exact hlw0
        · exact hlws _ (by rw [← hlm]; exact List.mem_map_of_mem hp)
      · rw [ellRes, if_neg (fun q => q hz), List.map_cons, hlm]
  · rename ¬ (2 : Int) ≤ _ => hz
    refine absurd ?_ hz
    simp; (first | lia | omega)
end

section
open PySem PySem.W PySem.Spec PySem.Calls PyProof.Rows PyProof.V PySem.SeqAt

/-- a list's values are lists of ints -/
inductive RowsAt (h : Heap) : List Value → List (List Int) → Prop
  | nil : RowsAt h [] []
  | cons {a : Addr} {us : List Value} {r : List Int} {vs : List Value} {rs : List (List Int)} : h.IsList a us.toArray → IntsAre us r → RowsAt h vs rs → RowsAt h (.ref a :: vs) (r :: rs)

theorem RowsAt.keep {h h' : Heap} (k : Keeps h h') : ∀ {vs : List Value} {rs : List (List Int)}, RowsAt h vs rs → RowsAt h' vs rs := fun x => by
  induction x with
  | nil => exact .nil
  | cons l i _ ih => exact .cons (isList_keep l k) i ih
theorem RowsAt.append {h : Heap} : ∀ {vs vs' : List Value} {rs rs' : List (List Int)}, RowsAt h vs rs → RowsAt h vs' rs' → RowsAt h (vs ++ vs') (rs ++ rs') := fun x y => by
  induction x with
  | nil => exact y
  | cons l i _ ih => exact .cons l i ih
theorem RowsAt.length {h : Heap} : ∀ {vs : List Value} {rs : List (List Int)}, RowsAt h vs rs → vs.length = rs.length := fun x => by
  induction x with
  | nil => rfl
  | cons _ _ _ ih => exact congrArg Nat.succ ih
theorem RowsAt.get {h : Heap} : ∀ {vs : List Value} {rs : List (List Int)}, RowsAt h vs rs → ∀ (i : Nat) (r : List Int), rs[i]? = some r → ∃ a us, vs[i]? = some (.ref a) ∧ h.IsList a us.toArray ∧ IntsAre us r := fun x => by
  induction x with
  | nil => exact fun _ _ e => nomatch e
  | @cons a us r' vs rs l ii _ ih =>
    intro i
    cases i with
    | zero => exact fun r e => ⟨a, us, rfl, l, Option.some.inj e ▸ ii⟩
    | succ i => exact fun r e => ih i r e
/-- the other way: a value of the list is a row -/
theorem RowsAt.at {h : Heap} : ∀ {vs : List Value} {rs : List (List Int)}, RowsAt h vs rs → ∀ (i : Nat) (v : Value), vs[i]? = some v → ∃ a us r, v = .ref a ∧ rs[i]? = some r ∧ h.IsList a us.toArray ∧ IntsAre us r := fun x => by
  induction x with
  | nil => exact fun _ _ e => nomatch e
  | @cons a us r' vs rs l ii _ ih =>
    intro i
    cases i with
    | zero => exact fun r e => ⟨a, us, r', (Option.some.inj e).symm, rfl, l, ii⟩
    | succ i => exact fun r e => ih i r e

noncomputable abbrev rowsD (rs : List (List Int)) : PyData := .list (rs.map fun r => .list (r.map .int))

theorem readsAll_rows {h : Heap} : ∀ {vs : List Value} {rs : List (List Int)}, RowsAt h vs rs → ∃ as, ReadsAll h vs (rs.map fun r => PyData.list (r.map .int)) as := fun x => by
  induction x with
  | nil => exact ⟨[], .nil⟩
  | cons l i _ ih => exact ih.elim fun as x => ⟨_, .cons (reads_of_ints l i) x⟩
theorem reads_rows {h : Heap} {R : Addr} {vs : List Value} {rs : List (List Int)} (hl : h.IsList R vs.toArray) (hr : RowsAt h vs rs) : ∃ as, Reads h (.ref R) (rowsD rs) as := by
  obtain ⟨o, ho, hc, n, hd⟩ := hl
  obtain ⟨as, x⟩ := readsAll_rows hr
  exact ⟨_, Reads.list ho hc hd (by simpa using x)⟩
theorem canLayAll0_rows : ∀ rs : List (List Int), PyData.canLayAll0 (rs.map fun r => PyData.list (r.map .int)) = true
  | [] => by simp [PyData.canLayAll0]
  | n :: r => by simp [PyData.canLayAll0, PyData.canLay0, canLayAll0_rows r, canLayAll0_ints n]
theorem depthAll_rows : ∀ rs : List (List Int), PyData.depthAll (rs.map fun r => PyData.list (r.map .int)) ≤ 2
  | [] => by simp [PyData.depthAll]
  | n :: r => by
    have h1 := depthAll_rows r
    have h2 := PySem.W.depthAll_ints n
    simp only [List.map_cons, PyData.depthAll, PyData.depth]
    (first | lia | omega)
theorem shaped_rows (rs : List (List Int)) : shaped (rowsD rs) = true := by
  have h1 := depthAll_rows rs
  have h2 : PyData.depth (rowsD rs) ≤ 64 := by simp only [PyData.depth]; (first | lia | omega)
  show (PyData.canLay0 (rowsD rs) && decide (PyData.depth (rowsD rs) ≤ 64)) = true
  rw [Bool.and_eq_true]
  exact ⟨by simp only [PyData.canLay0]; exact canLayAll0_rows rs, decide_eq_true h2⟩
theorem noMix_rows : ∀ ns ms : List (List Int), noMixAll (ns.map fun r => PyData.list (r.map .int)) (ms.map fun r => PyData.list (r.map .int)) = true
  | [], [] => by simp [noMixAll]
  | [], _ :: _ => by simp [noMixAll]
  | _ :: _, [] => by simp [noMixAll]
  | n :: r, k :: q => by simp [noMixAll, noMix, noMix_rows r q, noMix_ints n k]
theorem same_rows : ∀ ns ms : List (List Int), PySem.Spec.sameAll (ns.map fun r => PyData.list (r.map .int)) (ms.map fun r => PyData.list (r.map .int)) = decide (ns = ms)
  | [], [] => by simp [PySem.Spec.sameAll]
  | [], _ :: _ => by simp [PySem.Spec.sameAll]
  | _ :: _, [] => by simp [PySem.Spec.sameAll]
  | n :: r, k :: q => by
    simp only [List.map_cons, PySem.Spec.sameAll, PySem.Spec.same, same_rows r q, same_ints n k]
    by_cases h : n = k <;> simp [h]
section
variable {prog : Program} {w : World} {A : Around} {E : Value → Shared → Prop} {s : Shared} {h₀ : Heap} {L D : Addr} {m : Str → Option Value} {news : List (Addr × Obj)} {gg : Obj → List (Addr × Obj)} {vs us : List Value} {n : Nat} {v : Value} {a b : Addr} {rs qs : List (List Int)}
theorem ne_rows {Q : Value → Shared → Prop} (hl : s.heap.IsList a vs.toArray) (hr : RowsAt s.heap vs rs) (hl' : s.heap.IsList b us.toArray) (hr' : RowsAt s.heap us qs) (hu : A.units + 64 < cLine)
    (h : Q (.bool (!decide (rs = qs))) s) : wpAny (model prog w) A (compareOp .NotEq (.ref a) (.ref b)) Q E s := by
  obtain ⟨as, ra⟩ := reads_rows hl hr
  obtain ⟨bs, rb⟩ := reads_rows hl' hr'
  exact ne_dataH_same ra rb (shaped_rows rs) (shaped_rows qs) hu (by simp only [noMix]; exact noMix_rows rs qs) (by simp only [PySem.Spec.same]; rw [same_rows]; exact h)
/-- a value is laid behind a made list -/
theorem append_K {x : Value} {Q : Value → Shared → Prop} (F : autoParam (Fr h₀ L s.heap m) au4._auto_1) (N : autoParam (News h₀ L s.heap news) au4._auto_1) (U : autoParam (UpdF D (listOf vs.toArray n) news gg) au9._auto_1) (hsz : autoParam (vs.length ≤ sizeLine) au10._auto_1)
    (h : ∀ h', Fr h₀ L h' m → News h₀ L h' (gg (listOf (vs ++ [x]).toArray (n + 1))) → Q .none { s with heap := h' }) :
    wpAny (model prog w) A (call (.builtin "list.append") [.ref D, x]) Q E s := by
  obtain ⟨pre, post, hl', hg, a, b⟩ := U.split
  have hm := N (D, listOf vs.toArray n) (by rw [hl']; exact List.mem_append_right _ (.head _))
  refine append_at hm.1 (fun h' hs ho' => h h' (F.change hs hm.2.1 hm.2.2) ?_) (by simpa using hsz)
  rw [hg]
  have e : vs.toArray.push x = (vs ++ [x]).toArray := by simp
  rw [e] at ho'
  exact (show News h₀ L s.heap (pre ++ (D, listOf vs.toArray n) :: post) from hl' ▸ N).setIn a b hs ho'
end
theorem IntsAre.snoc' {vs : List Value} {ns : List Int} (h : IntsAre vs ns) (k : Int) (t : Tok) : IntsAre (vs ++ [.int k t]) (ns ++ [k]) := by
  induction h with
  | nil => exact .cons k t .nil
  | cons k' t' _ ih => exact .cons k' t' ih
end

section
open PySem PySem.W PySem.Spec PySem.Calls PyProof.Rows PyProof.V PySem.SeqAt

inductive RowsLed (led : List (Addr × Obj)) : List Value → List (List Int) → Prop
  | nil : RowsLed led [] []
  | cons {a : Addr} {us : List Value} {n : Nat} {r : List Int} {vs : List Value} {rs : List (List Int)} : (a, listOf us.toArray n) ∈ led → IntsAre us r → RowsLed led vs rs → RowsLed led (.ref a :: vs) (r :: rs)
theorem RowsLed.mono {led led' : List (Addr × Obj)} (k : ∀ p ∈ led, p ∈ led') : ∀ {vs : List Value} {rs : List (List Int)}, RowsLed led vs rs → RowsLed led' vs rs := fun x => by
  induction x with
  | nil => exact .nil
  | cons l i _ ih => exact .cons (k _ l) i ih
theorem RowsLed.append {led : List (Addr × Obj)} : ∀ {vs vs' : List Value} {rs rs' : List (List Int)}, RowsLed led vs rs → RowsLed led vs' rs' → RowsLed led (vs ++ vs') (rs ++ rs') := fun x y => by
  induction x with
  | nil => exact y
  | cons l i _ ih => exact .cons l i ih
theorem RowsLed.length {led : List (Addr × Obj)} : ∀ {vs : List Value} {rs : List (List Int)}, RowsLed led vs rs → vs.length = rs.length := fun x => by
  induction x with
  | nil => rfl
  | cons _ _ _ ih => exact congrArg Nat.succ ih
theorem RowsLed.at {h₀ h : Heap} {L : Addr} {led : List (Addr × Obj)} (N : News h₀ L h led) : ∀ {vs : List Value} {rs : List (List Int)}, RowsLed led vs rs → RowsAt h vs rs := fun x => by
  induction x with
  | nil => exact .nil
  | cons l i _ ih => exact .cons ⟨_, (N _ l).1, rfl, _, rfl⟩ i ih

/-- the digits to the base 64, the highest first -/
noncomputable def dg (n : Nat) : List Nat := if h : n = 0 then [] else dg (n / 64) ++ [n % 64]
theorem dg_zero : dg 0 = [] := by rw [dg]; rfl
theorem dg_pos {n : Nat} (h : n ≠ 0) : dg n = dg (n / 64) ++ [n % 64] := by rw [dg, dif_neg h]
theorem dg_len_step {n : Nat} (h : n ≠ 0) : (dg n).length = (dg (n / 64)).length + 1 := by rw [dg_pos h]; simp
theorem dg_len_lt : ∀ (k n : Nat), n < 64 ^ k → (dg n).length ≤ k
  | 0, n, h => by
    have : n = 0 := by (first | lia | omega)
    subst this; simp [dg_zero]
  | k + 1, n, h => by
    by_cases h0 : n = 0
    · subst h0; simp [dg_zero]
    · rw [dg_len_step h0]
      have := dg_len_lt k (n / 64) (by rw [Nat.pow_succ] at h; (first | lia | omega))
      (first | lia | omega)

/-- the rows that a list of numbers is laid into -/
noncomputable def lrStep (wd he : Int) (st : List (List Int) × Int) (x : Int) : List (List Int) × Int :=
  let full : Int := 2 + (dg x.toNat).length
  if full > st.2 ∧ (he > 0 ∨ st.1 ≠ [[]]) then (st.1 ++ [[x]], wd - full) else (st.1.dropLast ++ [st.1.getLastD [] ++ [x]], st.2 - full)
noncomputable def lawRows (ns : List Int) (wd he : Int) : List (List Int) := (ns.foldl (lrStep wd he) ([[]], wd - he)).1
theorem fdiv64 {x : Int} (h : 0 ≤ x) : Int.fdiv x 64 = x / 64 := Int.fdiv_eq_ediv_of_nonneg _ (by decide)
end

section
open PySem PySem.W PySem.Spec PySem.Calls PyProof.Rows PyProof.V PySem.SeqAt

theorem RowsLed.mem {led : List (Addr × Obj)} : ∀ {vs : List Value} {rs : List (List Int)}, RowsLed led vs rs → ∀ a, Value.ref a ∈ vs → ∃ o, (a, o) ∈ led := fun x => by
  induction x with
  | nil => exact fun _ h => absurd h List.not_mem_nil
  | cons l _ _ ih => exact fun a h => (List.mem_cons.mp h).elim (fun e => ⟨_, Value.ref.inj e ▸ l⟩) (ih a)
/-- a frame's map, some names set (or unset) anew -/
noncomputable def kstO (rest : Str → Option Value) : List (Str × Option Value) → Str → Option Value
  | [] => rest
  | p :: r => fun z => if z = p.1 then p.2 else kstO rest r z

theorem ints_at {vs : List Value} {ns : List Int} (hi : IntsAre vs ns) {i : Nat} {v : Value} (h : vs.toArray[i]? = some v) : ∃ x t, v = .int x t ∧ ns.drop i = x :: ns.drop (i + 1) ∧ x ∈ ns := by
  have hlt : i < vs.length := by
    have := (Array.getElem?_eq_some_iff.mp h).1
    simpa using this
  have hlt' : i < ns.length := by rw [← hi.length]; exact hlt
  obtain ⟨t, hx⟩ := hi.get i ns[i] (by simp [hlt'])
  have : vs[i]? = some v := by simpa using h
  rw [hx] at this
  exact ⟨ns[i], t, (Option.some.inj this).symm, List.drop_eq_getElem_cons hlt', List.getElem_mem hlt'⟩

section
variable {prog : Program} {w : World} {A : Around} {s : Shared} {env : Env} {h₀ : Heap}

inductive TurnWE (h₀ : Heap) (L : Addr) (I : Addr) (io : Obj) (xs : List Str) (m₀ : Str → Option Value) (Jn : List (Option Value) → List (Addr × Obj) → Prop) (s₀ s₂ : Shared) : Prop
  | mk : ∀ h' gs tk m₂ vals news₂, s₂ = ⟨h', gs, s₀.drawn, tk, s₀.os⟩ → AllBare gs → Fr h₀ L h' m₂ → m₂ = kstO m₀ (xs.zip vals) → News h₀ L h' ((I, io) :: news₂) → (∀ p ∈ news₂, p.1 ≠ I) → Jn vals news₂ → TurnWE h₀ L I io xs m₀ Jn s₀ s₂
noncomputable def TurnW (h₀ : Heap) (L : Addr) (I : Addr) (io : Obj) (xs : List Str) (m₀ : Str → Option Value) (Jn : List (Option Value) → List (Addr × Obj) → Prop) (s₀ : Shared) (Qb : Shared → Prop) (Qr : Value → Shared → Prop) (f : Flow) (s₂ : Shared) : Prop :=
  match f with
  | .ret v => Qr v s₂
  | .brk => Qb s₂
  | _ => Hold (TurnWE h₀ L I io xs m₀ Jn s₀ s₂)
theorem TurnWE.toL {L I : Addr} {io : Obj} {xs : List Str} {m₀ : Str → Option Value} {Jn : List (Option Value) → List (Addr × Obj) → Prop} {s₀ s₂ : Shared} (h : TurnWE h₀ L I io xs m₀ Jn s₀ s₂) : TurnLE h₀ L I io (fun m' news' => ∃ vals, m' = kstO m₀ (xs.zip vals) ∧ Jn vals news') s₀ s₂ := by
  obtain ⟨h', gs, tk, m₂, vals, news₂, e, a, b, c, d, f, g⟩ := h
  exact ⟨h', gs, tk, m₂, news₂, e, a, b, d, f, vals, c, g⟩
inductive WhileWE (h₀ : Heap) (L : Addr) (xs : List Str) (m₀ : Str → Option Value) (J : Nat → List (Option Value) → List (Addr × Obj) → Prop) (s₀ : Shared) (k : Nat) (s₃ : Shared) : Prop
  | mk : ∀ h' gs tk m₂ vals news₂ k', s₃ = ⟨h', gs, s₀.drawn, tk, s₀.os⟩ → AllBare gs → Fr h₀ L h' m₂ → m₂ = kstO m₀ (xs.zip vals) → News h₀ L h' news₂ → k' < k → J k' vals news₂ → WhileWE h₀ L xs m₀ J s₀ k s₃

theorem for_v {x : Str} {px pos : Pos} {iter : Expr} {body orelse : List Stmt} {l : Addr} {items : Array Value} {m : Str → Option Value} {news : List (Addr × Obj)} {Q : Flow → Shared → Prop}
    (xs : List Str) (J : Nat → List (Option Value) → List (Addr × Obj) → Prop)
    (hev : ∀ Q' : Value → Shared → Prop, Q' (.ref l) s → wpAny (model prog w) A (eval iter env) Q' (fun _ _ => False) s)
    (F : Fr h₀ env.locals s.heap m) (N : News h₀ env.locals s.heap news) (hg : AllBare s.gens) (h0 : J 0 (xs.map m) news)
    (hl : ∀ i vals news₁ h, J i vals news₁ → News h₀ env.locals h news₁ → (∀ b o, h₀.get? b = some o → h.get? b = some o) → h.IsList l items)
    (turn : ∀ i v vals news₁ h gs tk I io, items[i]? = some v → J i vals news₁ → AllBare gs → ItO io l (i + 1) → (∀ p ∈ news₁, p.1 ≠ I) → (∀ p ∈ news, p.1 < I) →
      Fr h₀ env.locals h (fun y => if y = x then some v else kstO m (xs.zip vals) y) → News h₀ env.locals h ((I, io) :: news₁) →
      wpAny (model prog w) A (execs body env) (TurnW h₀ env.locals I io xs m (J (i + 1)) s (fun s' => Q .next s') fun v s' => Q (.ret v) s') (fun _ _ => False) ⟨h, gs, s.drawn, tk, s.os⟩)
    (done : ∀ h gs tk vals news₁, J items.size vals news₁ → AllBare gs → Fr h₀ env.locals h (kstO m (xs.zip vals)) → News h₀ env.locals h news₁ →
      wpAny (model prog w) A (execs orelse env) Q (fun _ _ => False) ⟨h, gs, s.drawn, tk, s.os⟩)
    (hh : autoParam (A.handled = none) au1._auto_1) (hx : autoParam (env.kindOf x = some .local) au1._auto_1)
    (hp : autoParam ((env.scope.kind == .class || (env.scope.kind == .module && env.locals != env.globals)) = false) au1._auto_1)
    (hs : autoParam (∀ x, foldedSetIterable iter env x = pure x) au2._auto_1) :
    wpAny (model prog w) A (exec (.For (.Name x px) iter body orelse pos) env) Q (fun _ _ => False) s := by
  have e0 : m = kstO m (xs.zip (xs.map m)) := by
    clear h0 hl turn done
    induction xs with
    | nil => rfl
    | cons a r ih =>
      funext y
      show m y = if y = a then m a else kstO m (r.zip (r.map m)) y
      by_cases h : y = a
      · rw [if_pos h, h]
      · rw [if_neg h, ← ih]
  refine for_list (items := items) (fun i m' news' => ∃ vals, m' = kstO m (xs.zip vals) ∧ J i vals news') hev F N hg ⟨_, e0, h0⟩ ?_ ?_ ?_ hh hx hp hs
  · rintro i m₁ news₁ h ⟨vals, rfl, hJ⟩ F₁ N₁
    exact hl i vals news₁ h hJ N₁ F₁.keep
  · rintro i v m₁ news₁ h gs tk I io hv ⟨vals, rfl, hJ⟩ hgs hio hI1 hI2 F₁ N₁
    refine wpAny_mono (turn i v vals news₁ h gs tk I io hv hJ hgs hio hI1 hI2 F₁ N₁) (fun f s₃ h₃ => ?_) fun _ _ x => x
    have fin : Hold (TurnWE h₀ env.locals I io xs m (J (i + 1)) s s₃) → Hold (TurnLE h₀ env.locals I io (fun m' news' => ∃ vals, m' = kstO m (xs.zip vals) ∧ J (i + 1) vals news') s s₃) := TurnWE.toL
    cases f with
    | ret v => exact h₃
    | brk => exact h₃
    | cont => exact fin h₃
    | next => exact fin h₃
  · rintro h gs tk m₁ news₁ ⟨vals, rfl, hJ⟩ hgs F₁ N₁
    exact done h gs tk vals news₁ hJ hgs F₁ N₁

theorem while_v {body orelse : List Stmt} {test : Expr} {Q : Flow → Shared → Prop} {pos : Pos} {m : Str → Option Value} {news : List (Addr × Obj)}
    (xs : List Str) (J : Nat → List (Option Value) → List (Addr × Obj) → Prop) (n : Nat) (h0 : J n (xs.map m) news)
    (F : Fr h₀ env.locals s.heap m) (N : News h₀ env.locals s.heap news) (hg : AllBare s.gens)
    (turn : ∀ k vals news₁ h gs tk, J k vals news₁ → AllBare gs → Fr h₀ env.locals h (kstO m (xs.zip vals)) → News h₀ env.locals h news₁ →
      wpAny (model prog w) A (isTrue test env (eval test env)) (fun b s₂ =>
        if b = true then wpAny (model prog w) A (execs body env) (fun f s₃ => match f with
          | .ret v => Q (.ret v) s₃
          | .brk => Q .next s₃
          | _ => Hold (WhileWE h₀ env.locals xs m J s k s₃)) (fun _ _ => False) s₂
        else wpAny (model prog w) A (execs orelse env) Q (fun _ _ => False) s₂) (fun _ _ => False) ⟨h, gs, s.drawn, tk, s.os⟩) :
    wpAny (model prog w) A (exec (.While test body orelse pos) env) Q (fun _ _ => False) s := by
  have e0 : m = kstO m (xs.zip (xs.map m)) := by
    clear h0 turn
    induction xs with
    | nil => rfl
    | cons a r ih =>
      funext y
      show m y = if y = a then m a else kstO m (r.zip (r.map m)) y
      by_cases h : y = a
      · rw [if_pos h, h]
      · rw [if_neg h, ← ih]
  refine my_while (fun k m' news' => ∃ vals, m' = kstO m (xs.zip vals) ∧ J k vals news') n ⟨_, e0, h0⟩ F N hg ?_
  rintro k m₁ news₁ h gs tk ⟨vals, rfl, hJ⟩ hgs F₁ N₁
  refine wpAny_mono (turn k vals news₁ h gs tk hJ hgs F₁ N₁) (fun b s₂ h₂ => ?_) fun _ _ x => x
  cases b with
  | false => exact h₂
  | true =>
    refine wpAny_mono h₂ (fun f s₃ h₃ => ?_) fun _ _ x => x
    have fin : Hold (WhileWE h₀ env.locals xs m J s k s₃) → Hold (WhileE h₀ env.locals (fun k m' news' => ∃ vals, m' = kstO m (xs.zip vals) ∧ J k vals news') s k s₃) := by
      rintro ⟨h', gs, tk, m₂, vals, news₂, k', e, a, b, c, d, f, g⟩
      exact ⟨h', gs, tk, m₂, news₂, k', e, a, b, d, f, vals, c, g⟩
    cases f with
    | ret v => exact h₃
    | brk => exact h₃
    | cont => exact fin h₃
    | next => exact fin h₃
end
end

section
open PySem PySem.W PySem.Spec PySem.Calls PyProof.Rows
theorem lastr_at {α : Type} (l : List α) (x : α) : (l ++ [x]).toArray[((-1 : Int) + ((l ++ [x]).toArray.size : Int)).toNat]? = some x := by
  have : ((-1 : Int) + ((l ++ [x]).toArray.size : Int)).toNat = l.length := by simp; (first | lia | omega)
  rw [this]; simp
theorem lastr_at1 {α : Type} (a : α) (l : List α) (x : α) : (a :: (l ++ [x])).toArray[((-1 : Int) + ((a :: (l ++ [x])).toArray.size : Int)).toNat]? = some x := lastr_at (a :: l) x

inductive JR (s : Shared) (ns : List Int) (wd he : Int) (i : Nat) (vals : List (Option Value)) (news : List (Addr × Obj)) : Prop
  | mk : ∀ o1 o2 o3 nR R al lastvs last nl initvs initled initrs room tr, (vals = [o1, o2, o3, some (.ref R), some (.int room tr)]) → (news = (R, W.listOf (initvs ++ [Value.ref al]).toArray nR) :: (al, W.listOf lastvs.toArray nl) :: initled) → (s.heap.get? R = none) → (R ≠ al) → ((∀ p ∈ initled, p.1 ≠ R)) → ((∀ p ∈ initled, p.1 ≠ al)) → (IntsAre lastvs last) → (RowsLed initled initvs initrs) → (initrs.length ≤ i) → (last.length ≤ i) → (i ≤ ns.length) → ((ns.drop i).foldl (lrStep wd he) (initrs ++ [last], room) = ns.foldl (lrStep wd he) ([[]], wd - he)) → JR s ns wd he i vals news

theorem jr_new {s : Shared} {ns : List Int} {wd he : Int} {i : Nat} {g h' : Heap} {L I R al E : Addr} {io : Obj} {initvs lastvs : List Value} {last : List Int} {initled : List (Addr × Obj)} {initrs : List (List Int)} {nR nl n1 : Nat} {x fu room : Int} {tx : Tok}
    (N : News g L h' ((E, W.listOf [Value.int x tx].toArray n1) :: (I, io) :: (R, W.listOf (initvs ++ [Value.ref al] ++ [Value.ref E]).toArray nR) :: (al, W.listOf lastvs.toArray nl) :: initled))
    (hlt : I < E ∧ R < E ∧ al < E ∧ AllLt E initled) (hRs : s.heap.get? R = none) (hRa : R ≠ al) (hRi : ∀ p ∈ initled, p.1 ≠ R) (hIR : R ≠ I) (hIal : al ≠ I) (hIl : ∀ p ∈ initled, p.1 ≠ I) (hila : IntsAre lastvs last) (hled : RowsLed initled initvs initrs)
    (hlen : initrs.length ≤ i) (hil : i < ns.length) (hfu : fu = 2 + (dg x.toNat).length) (hbig : room < fu) (hc : 0 < he ∨ initrs ++ [last] ≠ [[]])
    (hfold : (ns.drop (i + 1)).foldl (lrStep wd he) (lrStep wd he (initrs ++ [last], room) x) = ns.foldl (lrStep wd he) ([[]], wd - he)) :
    ∃ news₂, News g L h' ((I, io) :: news₂) ∧ (∀ p ∈ news₂, p.1 ≠ I) ∧ ∀ (o1 o2 o3 : Option Value) (tr : Tok), JR s ns wd he (i + 1) [o1, o2, o3, some (.ref R), some (.int (wd - fu) tr)] news₂ := by
  refine gen_goal fun G9 hG9 => ?_
  obtain ⟨q1, q2, q3, q4⟩ := hlt
  refine hG9 ?_
  clear hG9 G9
  refine ⟨(R, W.listOf (initvs ++ [Value.ref al] ++ [Value.ref E]).toArray nR) :: (E, W.listOf [Value.int x tx].toArray n1) :: (al, W.listOf lastvs.toArray nl) :: initled, ?_, ?_, ?_⟩
  · refine news_sub N fun p hp => ?_
    simp only [List.mem_cons] at hp ⊢
    rcases hp with h | h | h | h | h
    · exact .inr (.inl h)
    · exact .inr (.inr (.inl h))
    · exact .inl h
    · exact .inr (.inr (.inr (.inl h)))
    · exact .inr (.inr (.inr (.inr h)))
  · intro p hp
    first | (rcases List.mem_cons.mp hp with rfl | hp) | (rcases List.mem_append.mp hp with hp | hp)
    · exact hIR
    first | (rcases List.mem_cons.mp hp with rfl | hp) | (rcases List.mem_append.mp hp with hp | hp)
    · exact Nat.ne_of_gt q1
    first | (rcases List.mem_cons.mp hp with rfl | hp) | (rcases List.mem_append.mp hp with hp | hp)
    · exact hIal
    rename _ ∈ _ => h
    exact hIl _ h
  · intro o1 o2 o3 tr
    refine ⟨o1, o2, o3, nR, R, E, [Value.int x tx], [x], n1, initvs ++ [Value.ref al], (al, W.listOf lastvs.toArray nl) :: initled, initrs ++ [last], wd - fu, tr, rfl, rfl, hRs, Nat.ne_of_lt q2, ?_, ?_, .cons _ _ .nil, ?_, ?_, ?_, hil, ?_⟩
    · intro p hp
      rcases List.mem_cons.mp hp with rfl | hp
      · exact Ne.symm hRa
      · exact hRi p hp
    · intro p hp
      rcases List.mem_cons.mp hp with rfl | hp
      · exact Nat.ne_of_lt q3
      · exact Nat.ne_of_lt (ktn_ltOf q4 p hp)
    · exact (hled.mono fun p hp => .tail _ hp).append (.cons (.head _) hila .nil)
    · simp; (first | lia | omega)
    · simp
    · rw [← hfold]
      congr 1
      unfold lrStep
      simp only []
      rw [if_pos ⟨by (first | lia | omega), hc⟩, ← hfu]
theorem jr_old {s : Shared} {ns : List Int} {wd he : Int} {i : Nat} {g h' : Heap} {L I R al : Addr} {io : Obj} {initvs lastvs : List Value} {last : List Int} {initled : List (Addr × Obj)} {initrs : List (List Int)} {nR nl : Nat} {x fu room : Int} {tx : Tok}
    (N : News g L h' ((I, io) :: (R, W.listOf (initvs ++ [Value.ref al]).toArray nR) :: (al, W.listOf (lastvs ++ [Value.int x tx]).toArray nl) :: initled))
    (hRs : s.heap.get? R = none) (hRa : R ≠ al) (hRi : ∀ p ∈ initled, p.1 ≠ R) (hai : ∀ p ∈ initled, p.1 ≠ al) (hIR : R ≠ I) (hIal : al ≠ I) (hIl : ∀ p ∈ initled, p.1 ≠ I) (hila : IntsAre lastvs last) (hled : RowsLed initled initvs initrs)
    (hlen : initrs.length ≤ i) (hlast : last.length ≤ i) (hil : i < ns.length) (hfu : fu = 2 + (dg x.toNat).length) (hc : ¬ (room < fu ∧ (0 < he ∨ initrs ++ [last] ≠ [[]])))
    (hfold : (ns.drop (i + 1)).foldl (lrStep wd he) (lrStep wd he (initrs ++ [last], room) x) = ns.foldl (lrStep wd he) ([[]], wd - he)) :
    ∃ news₂, News g L h' ((I, io) :: news₂) ∧ (∀ p ∈ news₂, p.1 ≠ I) ∧ ∀ (o1 o2 o3 : Option Value) (tr : Tok), JR s ns wd he (i + 1) [o1, o2, o3, some (.ref R), some (.int (room - fu) tr)] news₂ := by
  refine ⟨_, N, ?_, ?_⟩
  · intro p hp
    first | (rcases List.mem_cons.mp hp with rfl | hp) | (rcases List.mem_append.mp hp with hp | hp)
    · exact hIR
    first | (rcases List.mem_cons.mp hp with rfl | hp) | (rcases List.mem_append.mp hp with hp | hp)
    · exact hIal
    rename _ ∈ _ => h
    exact hIl _ h
  · intro o1 o2 o3 tr
    refine ⟨o1, o2, o3, nR, R, al, lastvs ++ [Value.int x tx], last ++ [x], nl, initvs, initled, initrs, room - fu, tr, rfl, rfl, hRs, hRa, hRi, hai, IntsAre.snoc' hila x tx, hled, by (first | lia | omega), by simp; (first | lia | omega), hil, ?_⟩
    rw [← hfold]
    congr 1
    unfold lrStep
    simp only []
    rw [if_neg (by rw [← hfu]; exact hc), ← hfu]
    simp
local macro_rules | `(tactic| k_all) => `(tactic| assumption)
local macro_rules | `(tactic| walk_at "subscriptTail") => `(tactic| (k_here; first | refine item_last ?_ | refine item_first ?_))

theorem rows_call {w : World} {A : Around} {s : Shared} {l : Addr} {vs : List Value} {ns : List Int} {wd he : Int} {t u : Tok} {Q E : Value → Shared → Prop} (S : Site w 400 2000 [] A s) (hb : AllBare s.gens) (hl : s.heap.IsList l vs.toArray) (hi : IntsAre vs ns) (hns : ns.length ≤ 1000) (hnn : ∀ n ∈ ns, 0 ≤ n)
  (hret : ∀ R us h' gs tk', AllBare gs → Keeps s.heap h' → s.heap.get? R = none → h'.IsList R us.toArray → (∀ a, Value.ref a ∈ us → s.heap.get? a = none ∧ a ≠ R) → RowsAt h' us (lawRows ns wd he) → Q (.ref R) ⟨h', gs, s.drawn, tk', s.os⟩) :
    wpAny (model PySem.Challenge.rw_ty0042_01.row.prog w) A (call (.ref 217) [.ref l, .int wd t, .int he u]) Q E s := by
  w_top off
  refine wpAny_call ?_
  refine' enterN (binds := [(Str.ofString "row", .ref l), (Str.ofString "width", .int wd t), (Str.ofString "head", .int he u)]) _ S ?k6 ?k7 ?k8 ?k9 ?kB ?_ ?c5 ?c2 ?c3 ?c4
  case k6 => k_is
  case k7 => k_is
  case k8 => decide
  case k9 => exact BindsTo.of_eq rfl
  case kB => exact locs rfl
  case c2 => exact rfl
  case c3 => exact rfl
  case c4 => exact rfl
  case c5 => decide
  intro L cn cs a ccd cl' outer base g L' h₁ mg mb mean hke F N B KX T hg hgn hk1 hL
  try dsimp only
  try k_fold
  try (with_reducible refine wp_letA ?_; intro A9)

  have hlg : g.IsList l vs.toArray := isList_keep hl (at_g hg)
  try (with_reducible refine wp_letQ ?_; intro Qz1)
  k_steps
  unfold Hold
  (with_reducible rename Fr _ _ _ _ => F1)
  refine fr_let F1 ?_
  clear F1
  intro mz1x F1
  (with_reducible rename News _ _ _ _ => N1)
  refine for_v (l := l) (items := vs.toArray) [Str.ofString "number", Str.ofString "full", Str.ofString "rest", Str.ofString "rows", Str.ofString "room"] (JR s ns wd he) (ev_name F1 rfl) F1 N1 hb ?_ ?_ ?_ ?_
  · refine ⟨_, _, _, _, _, _, [], [], _, [], [], [], wd - he, _, rfl, rfl, ?_, ?_, ?_, ?_, .nil, .nil, Nat.le_refl _, Nat.le_refl _, Nat.zero_le _, rfl⟩
    · cases q : s.heap.get? _ with
      | none => rfl
      | some o => have := (N1 _ (.head _)).2.2; rw [hg _ _ q List.not_mem_nil] at this; cases this
    · exact neN (by (first | lia | omega))
    · intro p hp; cases hp
    · intro p hp; cases hp
  · intro i vals news₁ h _ _ hk
    exact hlg.at fun o e => hk _ o e
  · intro i v vals news₁ h gs tk I io hv hJ9 hgs hio hI1 hI2 F3 N3
    refine wp_gen fun Qt hQt => ?_
    refine gen_goal fun G9 hG9 => ?_
    obtain ⟨o1, o2, o3, nR, R, al, lastvs, last, nl, initvs, initled, initrs, room, tr, rfl, rfl, hRs, hRa, hRi, hai, hila, hled, hlen, hlast, hile, hfold⟩ := hJ9
    refine hG9 ?_
    clear hG9 G9
    refine gen_goal fun G9 hG9 => ?_
    obtain ⟨x, tx, rfl, hdr, hxm⟩ := ints_at hi hv
    refine hG9 ?_
    clear hG9 G9
    have hx0 := hnn x hxm
    have hil : i < ns.length := by
      have := congrArg List.length hdr
      simp at this; (first | lia | omega)
    rw [hdr, List.foldl_cons] at hfold
    have hv1 : initvs.length ≤ 2000 := by rw [hled.length]; (first | lia | omega)
    have hv2 : lastvs.length ≤ 2000 := by rw [hila.length]; (first | lia | omega)
    have hn1 := neN hRa
    have hn2 := neN (hI1 _ (.head _))
    have hn3 := neN (hI1 _ (.tail _ (.head _)))
    have hn4 : ∀ p ∈ initled, p.1 ≠ I := fun p hp => hI1 p (.tail _ (.tail _ hp))
    dsimp only at hn2 hn3
    refine fr_let F3 ?_
    clear F3
    intro mz2x F3
    clear F1 N1
    try (with_reducible refine wp_letQ ?_; intro Qz2)
    k_steps
    unfold Hold
    (with_reducible rename Fr _ _ _ _ => F4)
    refine fr_let F4 ?_
    clear F4
    intro mz3x F4
    (with_reducible rename News _ _ _ _ => N4)
    refine while_v [Str.ofString "full", Str.ofString "rest"] (fun k vals news => ∃ fu re tf tre, vals = [some (.int fu tf), some (.int re tre)] ∧ news = (I, io) :: (R, W.listOf (initvs ++ [Value.ref al]).toArray nR) :: (al, W.listOf lastvs.toArray nl) :: initled ∧ 0 ≤ re ∧ fu + (dg re.toNat).length = 2 + (dg x.toNat).length ∧ k = re.toNat) x.toNat ⟨2, x, _, _, rfl, rfl, hx0, rfl, rfl⟩ F4 N4 hgs ?_
    intro k vals news₁ h gs tk hJ9 hgs F5 N5
    refine wp_gen_if fun Qw hQw => ?_
    refine gen_goal fun G9 hG9 => ?_
    obtain ⟨fu, re, tf, tre, rfl, rfl, hre, hfu, rfl⟩ := hJ9
    refine hG9 ?_
    clear hG9 G9
    refine fr_let F5 ?_
    clear F5
    intro mz4x F5
    clear F4 N4
    try (with_reducible refine wp_letQ ?_; intro Qz3)
    k_steps
    · first | refine hQw _ _ ?_ | refine hQt _ _ ?_
      (with_reducible rename Fr _ _ _ _ => F6)
      refine fr_let F6 ?_
      clear F6
      intro mz5x F6
      (with_reducible rename News _ _ _ _ => N6)
      (with_reducible rename (0 : Int) < re => hpos)
      have e1 := fdiv64 hre
      have e2 : (re / 64).toNat = re.toNat / 64 := by (first | lia | omega)
      have e3 := dg_len_step (n := re.toNat) (by (first | lia | omega))
      refine ⟨_, _, _, _, [some (.int (fu + 1) _), some (.int (Int.fdiv re 64) _)], _, (Int.fdiv re 64).toNat, rfl, hgs, F6, by (refine same_fun [Str.ofString "full", Str.ofString "rest"] (by with_unfolding_all exact ⟨rfl, rfl, trivial⟩) ?_; rintro y ⟨q_full, q_rest, -⟩; dsimp only [kstO, List.zip_cons_cons, List.zip_nil_right, List.zip_nil_left]; (repeat (refine (if_neg (by with_reducible assumption)).trans ?_)); refine Eq.symm ?_; (repeat (refine (if_neg (by with_reducible assumption)).trans ?_)); rfl), N6, ?_, fu + 1, Int.fdiv re 64, _, _, rfl, rfl, ?_, ?_, rfl⟩
      · rw [e1]; (first | lia | omega)
      · rw [e1]; (first | lia | omega)
      · rw [e1, e2]; (first | lia | omega)
    · first | refine hQw _ _ ?_ | refine hQt _ _ ?_
      have hz : (dg re.toNat).length = 0 := by rw [show re.toNat = 0 by (first | lia | omega), dg_zero]; rfl
      (with_reducible rename Fr _ _ _ _ => F6)
      refine fr_let F6 ?_
      clear F6
      intro mz6x F6
      (with_reducible rename News _ _ _ _ => N6)
      simp only [List.push_toArray, List.nil_append] at N6
      (with_reducible rename _ ∧ _ ∧ _ ∧ AllLt _ _ => hlt)
      refine gen_goal fun G9 hG9 => ?_
      obtain ⟨news₂, N7, hI7, hJ7⟩ := jr_new (s := s) (wd := wd) (he := he) (room := room) (fu := fu) N6 hlt hRs hRa hRi hn2 hn3 hn4 hila hled hlen hil (by (first | lia | omega)) (by assumption) (.inl (by assumption)) hfold
      refine hG9 ?_
      clear hG9 G9
      exact ⟨_, _, _, _, [_, _, _, some (.ref R), some (.int (wd - fu) _)], news₂, rfl, hgs, F6, by (refine same_fun [Str.ofString "number", Str.ofString "full", Str.ofString "rest", Str.ofString "rows", Str.ofString "room"] (by with_unfolding_all exact ⟨rfl, rfl, rfl, rfl, rfl, trivial⟩) ?_; rintro y ⟨q_number, q_full, q_rest, q_rows, q_room, -⟩; dsimp only [kstO, List.zip_cons_cons, List.zip_nil_right, List.zip_nil_left]; (repeat (refine (if_neg (by with_reducible assumption)).trans ?_)); refine Eq.symm ?_; (repeat (refine (if_neg (by with_reducible assumption)).trans ?_)); rfl), N7, hI7, hJ7 _ _ _ _⟩
    · unfold Hold
      (with_reducible rename Fr _ _ _ _ => F6)
      refine fr_let F6 ?_
      clear F6
      intro mz7x F6
      (with_reducible rename News _ _ _ _ => N6)
      refine ne_rows (vs := initvs ++ [Value.ref al]) (rs := initrs ++ [last]) (us := [Value.ref _]) (qs := [[]]) ⟨_, (N6 _ (.tail _ (.tail _ (.tail _ (.head _))))).1, rfl, _, rfl⟩
        ((((hled.mono fun p hp => .tail _ (.tail _ (.tail _ (.tail _ (.tail _ hp))))).at N6)).append (.cons ⟨_, (N6 _ (.tail _ (.tail _ (.tail _ (.tail _ (.head _)))))).1, rfl, _, rfl⟩ hila .nil))
        ⟨_, (N6 _ (.head _)).1, rfl, _, rfl⟩ (.cons (us := []) ⟨_, (N6 _ (.tail _ (.head _))).1, rfl, _, rfl⟩ .nil .nil) (by exact Nat.le_of_ble_eq_true rfl) ?_
      try (with_reducible refine wp_letQ ?_; intro Qz4)
      k_steps
      · first | refine hQw _ _ ?_ | refine hQt _ _ ?_
        have hz : (dg re.toNat).length = 0 := by rw [show re.toNat = 0 by (first | lia | omega), dg_zero]; rfl
        (with_reducible rename Fr _ _ _ _ => F6)
        refine fr_let F6 ?_
        clear F6
        intro mz8x F6
        (with_reducible rename News _ _ _ _ => N6)
        simp only [List.push_toArray, List.nil_append] at N6
        have N6' := news_sub (b := (I, io) :: (R, W.listOf (initvs ++ [Value.ref al]).toArray nR) :: (al, W.listOf (lastvs ++ [Value.int x tx]).toArray (nl + 1)) :: initled) N6 (fun p hp => .tail _ (.tail _ hp))
        refine gen_goal fun G9 hG9 => ?_
        obtain ⟨news₂, N7, hI7, hJ7⟩ := jr_old (s := s) (wd := wd) (he := he) (room := room) (fu := fu) N6' hRs hRa hRi hai hn2 hn3 hn4 hila hled hlen hlast hil (by (first | lia | omega)) (fun q => q.2.elim (fun q => by (first | lia | omega)) fun q => absurd (by assumption) q) hfold
        refine hG9 ?_
        clear hG9 G9
        exact ⟨_, _, _, _, [_, _, _, some (.ref R), some (.int (room - fu) _)], news₂, rfl, hgs, F6, by (refine same_fun [Str.ofString "number", Str.ofString "full", Str.ofString "rest", Str.ofString "rows", Str.ofString "room"] (by with_unfolding_all exact ⟨rfl, rfl, rfl, rfl, rfl, trivial⟩) ?_; rintro y ⟨q_number, q_full, q_rest, q_rows, q_room, -⟩; dsimp only [kstO, List.zip_cons_cons, List.zip_nil_right, List.zip_nil_left]; (repeat (refine (if_neg (by with_reducible assumption)).trans ?_)); refine Eq.symm ?_; (repeat (refine (if_neg (by with_reducible assumption)).trans ?_)); rfl), N7, hI7, hJ7 _ _ _ _⟩
      · first | refine hQw _ _ ?_ | refine hQt _ _ ?_
        have hz : (dg re.toNat).length = 0 := by rw [show re.toNat = 0 by (first | lia | omega), dg_zero]; rfl
        (with_reducible rename Fr _ _ _ _ => F6)
        refine fr_let F6 ?_
        clear F6
        intro mz9x F6
        (with_reducible rename News _ _ _ _ => N6)
        simp only [List.push_toArray, List.nil_append] at N6
        (with_reducible rename _ ∧ _ ∧ _ ∧ _ ∧ _ ∧ AllLt _ _ => hlt)
        have N6' := news_sub (b := (_, W.listOf [Value.int x tx].toArray (0 + 1)) :: (I, io) :: (R, W.listOf (initvs ++ [Value.ref al] ++ [Value.ref _]).toArray (nR + 1)) :: (al, W.listOf lastvs.toArray nl) :: initled) N6 (fun p hp => by
          rcases List.mem_cons.mp hp with rfl | hp
          · exact .head _
          · exact .tail _ (.tail _ (.tail _ hp)))
        refine gen_goal fun G9 hG9 => ?_
        obtain ⟨news₂, N7, hI7, hJ7⟩ := jr_new (s := s) (wd := wd) (he := he) (room := room) (fu := fu) N6' hlt.2.2 hRs hRa hRi hn2 hn3 hn4 hila hled hlen hil (by (first | lia | omega)) (by assumption) (.inr (by assumption)) hfold
        refine hG9 ?_
        clear hG9 G9
        exact ⟨_, _, _, _, [_, _, _, some (.ref R), some (.int (wd - fu) _)], news₂, rfl, hgs, F6, by (refine same_fun [Str.ofString "number", Str.ofString "full", Str.ofString "rest", Str.ofString "rows", Str.ofString "room"] (by with_unfolding_all exact ⟨rfl, rfl, rfl, rfl, rfl, trivial⟩) ?_; rintro y ⟨q_number, q_full, q_rest, q_rows, q_room, -⟩; dsimp only [kstO, List.zip_cons_cons, List.zip_nil_right, List.zip_nil_left]; (repeat (refine (if_neg (by with_reducible assumption)).trans ?_)); refine Eq.symm ?_; (repeat (refine (if_neg (by with_reducible assumption)).trans ?_)); rfl), N7, hI7, hJ7 _ _ _ _⟩
    · first | refine hQw _ _ ?_ | refine hQt _ _ ?_
      have hz : (dg re.toNat).length = 0 := by rw [show re.toNat = 0 by (first | lia | omega), dg_zero]; rfl
      (with_reducible rename Fr _ _ _ _ => F6)
      refine fr_let F6 ?_
      clear F6
      intro mz10x F6
      (with_reducible rename News _ _ _ _ => N6)
      simp only [List.push_toArray, List.nil_append] at N6
      refine gen_goal fun G9 hG9 => ?_
      obtain ⟨news₂, N7, hI7, hJ7⟩ := jr_old (s := s) (wd := wd) (he := he) (room := room) (fu := fu) N6 hRs hRa hRi hai hn2 hn3 hn4 hila hled hlen hlast hil (by (first | lia | omega)) (fun q => by (first | lia | omega)) hfold
      refine hG9 ?_
      clear hG9 G9
      exact ⟨_, _, _, _, [_, _, _, some (.ref R), some (.int (room - fu) _)], news₂, rfl, hgs, F6, by (refine same_fun [Str.ofString "number", Str.ofString "full", Str.ofString "rest", Str.ofString "rows", Str.ofString "room"] (by with_unfolding_all exact ⟨rfl, rfl, rfl, rfl, rfl, trivial⟩) ?_; rintro y ⟨q_number, q_full, q_rest, q_rows, q_room, -⟩; dsimp only [kstO, List.zip_cons_cons, List.zip_nil_right, List.zip_nil_left]; (repeat (refine (if_neg (by with_reducible assumption)).trans ?_)); refine Eq.symm ?_; (repeat (refine (if_neg (by with_reducible assumption)).trans ?_)); rfl), N7, hI7, hJ7 _ _ _ _⟩
  · intro h gs tk vals news₁ hz25x hgs F3 N3
    refine gen_goal fun G9 hG9 => ?_
    obtain ⟨o1, o2, o3, nR, R, al, lastvs, last, nl, initvs, initled, initrs, room, tr, rfl, rfl, hRs, hRa, hRi, hai, hila, hled, hlen, hlast, hile, hfold⟩ := hz25x
    refine hG9 ?_
    clear hG9 G9
    refine fr_let F3 ?_
    clear F3
    intro mz11x F3
    try (with_reducible refine wp_letQ ?_; intro Qz5)
    k_steps
    have hz : ns.drop vs.toArray.size = [] := List.drop_eq_nil_of_le (by simp [hi.length])
    rw [hz] at hfold
    have hres : lawRows ns wd he = initrs ++ [last] := by unfold lawRows; rw [← hfold]; rfl
    have hnew : ∀ a o, (a, o) ∈ (al, W.listOf lastvs.toArray nl) :: initled → s.heap.get? a = none ∧ a ≠ R := fun a o hm => by
      have hgn' := (N3 (a, o) (.tail _ hm)).2.2
      refine ⟨?_, ?_⟩
      · cases e : s.heap.get? a with
        | none => rfl
        | some o' => rw [hg a o' e (by simp)] at hgn'; cases hgn'
      · rcases List.mem_cons.mp hm with q | q
        · cases q; exact Ne.symm hRa
        · exact hRi _ q
    refine hret R (initvs ++ [Value.ref al]) _ _ _ hgs (keep_end hg F3) hRs ⟨_, (N3 _ (.head _)).1, rfl, _, rfl⟩ (fun a ha => ?_) ?_
    · rcases List.mem_append.mp ha with ha | ha
      · obtain ⟨o, ho⟩ := hled.mem a ha
        exact hnew a o (.tail _ ho)
      · rw [List.mem_singleton] at ha
        cases ha
        exact hnew _ _ (.head _)
    rw [hres]
    refine RowsAt.append ?_ (.cons ⟨_, (N3 _ (.tail _ (.head _))).1, rfl, _, rfl⟩ hila .nil)
    exact (hled.mono fun p hp => .tail _ (.tail _ hp)).at N3
end

section
open PySem PySem.W PySem.Spec PySem.Calls PyProof.Rows
/-- the kind of an object, to part addresses -/
noncomputable def otag (o : Obj) : Nat :=
  match o.data with
  | .plain => 0
  | .seq .. => (match o.dict with | none => 1 | some _ => 2)
  | .fields _ => 4
  | .dict es _ => 10 + es.size
  | _ => 5
theorem ne_tag {h : Heap} {a b : Addr} {o1 o2 : Obj} (h1 : h.get? a = some o1) (h2 : h.get? b = some o2) (ht : Nat.beq (otag o1) (otag o2) = false) : a ≠ b := fun e => by
  rw [e] at h1
  rw [Option.some.inj (h1.symm.trans h2)] at ht
  exact absurd ht (by rw [Nat.beq_refl]; exact Bool.noConfusion)
end

section
open PySem PySem.W PySem.Spec PySem.Calls PyProof.Rows
theorem all_nil {α : Type} {P : α → Prop} : ∀ q ∈ ([] : List α), P q := fun _ h => nomatch h
theorem all_cons {α : Type} {P : α → Prop} {p : α} {r : List α} (h : P p) (hr : ∀ q ∈ r, P q) : ∀ q ∈ p :: r, P q := fun q hq => by
  rcases List.mem_cons.mp hq with e | e
  · exact e ▸ h
  · exact hr q e
theorem all_app {α : Type} {P : α → Prop} {a b : List α} (ha : ∀ q ∈ a, P q) (hb : ∀ q ∈ b, P q) : ∀ q ∈ a ++ b, P q := fun q hq => by
  rcases List.mem_append.mp hq with e | e
  · exact ha q e
  · exact hb q e
theorem all_snoc {α β : Type} {f : α → List β} {P : β → Prop} {l : List α} {x : α} (ha : ∀ q ∈ l.flatMap f, P q) (hb : ∀ q ∈ f x, P q) : ∀ q ∈ (l ++ [x]).flatMap f, P q := by
  rw [List.flatMap_append, List.flatMap_cons, List.flatMap_nil, List.append_nil]
  exact all_app ha hb
theorem all_at {α : Type} {P : α → Prop} {q : α} {l : List α} (hq : q ∈ l) (h : ∀ q ∈ l, P q) : P q := h q hq
theorem len_one {α : Type} {l : List α} {n : Nat} (h : l.length = n + 1) : ∃ a r, l = a :: r ∧ r.length = n := by
  cases l with
  | nil => cases h
  | cons a r => exact ⟨a, r, rfl, Nat.succ.inj h⟩
theorem min_sub {j r n : Nat} (h : j + r ≤ n) : min ((j : Int) + (r : Int)).toNat n - ((j : Int)).toNat = r := by
  rw [← Int.natCast_add, Int.toNat_natCast, Int.toNat_natCast, Nat.min_eq_left h, Nat.add_sub_cancel_left]
end

section
open PySem PySem.W PySem.Spec PySem.Calls PyProof.Rows PyProof.V PySem.SeqAt

/-- a list of the text's own class -/
noncomputable abbrev accObj (dc : Addr) (parts : Array Value) (ep : Nat) : Obj := { cls := .ref 199, dict := some dc, data := .seq parts ep }
theorem news2 {s : Shared} {g h₁ : Heap} {L' : Addr} {a b : Addr} {oa ob : Obj} (ha : s.heap.get? a = some oa) (hb : s.heap.get? b = some ob) (k : Keeps s.heap h₁) (hn : ∀ x ∈ [a, b], g.get? x = none) (hL : L' = s.heap.objs.size) : News g L' h₁ [(a, oa), (b, ob)] := by
  intro p hp
  first | (rcases List.mem_cons.mp hp with rfl | hp) | (rcases List.mem_append.mp hp with hp | hp)
  · exact ⟨k _ _ ha, by rw [hL]; exact Nat.ne_of_lt (Heap.lt_size ha), hn _ (.head _)⟩
  rcases List.mem_singleton.mp hp with rfl
  exact ⟨k _ _ hb, by rw [hL]; exact Nat.ne_of_lt (Heap.lt_size hb), hn _ (.tail _ (.head _))⟩
end

section
open PySem PySem.W PySem.Spec PySem.Calls PyProof.Rows PyProof.V PySem.SeqAt

theorem canon_list_ga : (Manifest.canonical "list.__getattribute__" != "object.__getattribute__") = false := by decide +kernel
theorem slot_list_ga : Slot "list" "__getattribute__" "list.__getattribute__" :=
  .of (owner := "list") (n := "__getattribute__") (by rw [typeLookup_type, builtinLookup_eq_fast]; kernel_rfl) (by decide +kernel) (by decide +kernel) (by decide +kernel)
    (by first | exact .inl (by decide +kernel) | exact .inr (by decide +kernel)) (by rw [isSubtype_type]; kernel_rfl)

section
variable {prog : Program} {w : World} {A : Around} {E : Value → Shared → Prop} {s : Shared} {K : Frag} {x C : Addr} {ox : Obj} {od : Option Obj} {name : Str} {pl : Sem Bool}

/-- a method, found along the class -/
theorem getm_acc {f : Value} {T : String} {Q : Value × List Value → Shared → Prop} (X : autoParam (K.In s.heap) au8._auto_1) (I : autoParam (InstAt s.heap x ox C od) au6._auto_1) (hga : autoParam (findIn K (.ref C) "__getattribute__" = some (some (.builtin "list.__getattribute__"))) au7._auto_1) (hk : autoParam (findIn K (.ref C) "__getattr__" = some none) au7._auto_1)
    (hf : autoParam (findIn K (.ref C) name = some (some f)) au7._auto_1) (ht : autoParam (typeIn K f = some (.type T)) au7._auto_1) (hT : autoParam ((Value.type T != .type "function" && Value.type T != .type "method_descriptor" && Value.type T != .type "wrapper_descriptor") = false) au11._auto_1) (hs : autoParam (shadowIn od name = some false) au1._auto_1) (h : Q (f, [.ref x]) s) :
    wpAny (model prog w) A (getMethod (.ref x) name pl) Q E s := by
  unfold getMethod specialOf
  refine wpAny_bind (wpAny_bind (I.type.here ((looks_findIn X hga).here ?_)))
  dsimp only
  rw [canon_list_ga, if_neg (by decide)]
  refine wpAny_bind (wpAny_bind (I.type.here ((looks_findIn X hk).here ?_)))
  refine wpAny_bind (wpAny_bind (I.type.here ((looks_findIn X hf).here (wpAny_bind ((looks_typeIn X ht).here ?_)))))
  rw [if_neg (by rw [hT]; decide)]
  refine wpAny_bind (wpAny_loadPart I.at_ ?_)
  have hd := I.dict
  cases e : ox.dict with
  | none => exact wpAny_bind (wpAny_rule (wpAny_pure h))
  | some dx =>
    cases od with
    | none => rw [e] at hd; exact hd.elim
    | some o =>
      rw [e] at hd
      obtain ⟨r, a, b⟩ := Option.map_eq_some_iff.mp hs
      refine wpAny_bind (wpAny_bind (wpAny_loadPart hd ?_))
      rw [nsLook_of a]
      refine wpAny_pure ?_
      rw [b]
      exact wpAny_bind (wpAny_rule (wpAny_pure h))


theorem ga_args (a b : Value) : argsOk "list.__getattribute__" ⟨[a, b], []⟩ := by unfold argsOk; kernel_rfl
theorem ga_kind : builtinKind "list.__getattribute__" = some .slot := by kernel_rfl
theorem ga_split : splitId "list.__getattribute__" = some ("list", "__getattribute__") := by kernel_rfl
theorem ga_call {v : Value} {t : Tok} {Q : Value → Shared → Prop} (X : K.In s.heap) (I : InstAt s.heap x ox C od) (hsub : subIn K (.ref C) (.type "list") = some true) (hf : findObj K C od name = some (.value v)) (h : Q v s) :
    wpAny (model prog w) A (call (.builtin "list.__getattribute__") [.ref x, .str name t]) Q E s := by
  have L4 : Looks (model prog w) s.heap (isInstance (.ref x) (.type "list")) true := I.type.andThen (looks_subIn X hsub)
  refine wpAny_call ?_
  refine codeAny_call_builtin (id := "list.__getattribute__") (b := Builtin.«object.__getattribute__») slot_list_ga.plain am_entry_list_getattribute ?_
  refine @check_slot (model prog w) _ _ s "list.__getattribute__" "list" "__getattribute__" (.ref x) [.str name t] [] _ ga_kind ga_split L4 (ga_args _ _) ?_
  have L0 := I.type (M := model prog w)
  have L3 := looks_find (M := model prog w) X I hf
  unfold Builtin.«object.__getattribute__»
  refine wpAny_bind (m := slotArgs "__getattribute__" 1 ⟨[.ref x, .str name t], []⟩) (wpAny_pure (a := (Value.ref x, [Value.str name t])) ?_)
  refine wpAny_bind (m := Builtin.ObjectAttr.attrName (.str name t)) (wpAny_pure (a := name) ?_)
  refine wpAny_bind (L0.here ?_)
  refine wpAny_bind (L3.here ?_)
  exact wpAny_pure h
/-- an attribute that lies in the object's dict -/
theorem geta_acc {v : Value} {expr : Bool} {Q : Value → Shared → Prop} (X : K.In s.heap) (I : InstAt s.heap x ox C od) (hga : findIn K (.ref C) "__getattribute__" = some (some (.builtin "list.__getattribute__"))) (hk : findIn K (.ref C) "__getattr__" = some none)
    (hsub : subIn K (.ref C) (.type "list") = some true) (hf : findObj K C od name = some (.value v)) (hh : handedIn v = true) (h : Q v { s with toks := s.toks + 1 }) :
    wpAny (model prog w) A (getAttr (.ref x) name expr) Q E s := by
  obtain ⟨hp, g, d, t, os⟩ := s
  have L0 := I.type (M := model prog w)
  have L1 := looks_findIn (M := model prog w) X hga
  have L2 := looks_findIn (M := model prog w) X hk
  have L3 := looks_find (M := model prog w) X I hf
  have L4 : Looks (model prog w) hp (isInstance (.ref x) (.type "list")) true := L0.andThen (looks_subIn X hsub)
  unfold getAttr getAttrBy
  refine wpAny_bind (wpAny_mkText (wpAny_holding (wpAny_bind (L0.at (wpAny_bind (L1.at ?_))))))
  have hne : (Value.builtin "list.__getattribute__" == Value.builtin "object.__getattribute__") = false := by decide +kernel
  dsimp only [onTheHeap, hne, Bool.and_false, Bool.false_eq_true, if_false]
  unfold getAttrByItsOwn hookBefore
  dsimp only [onTheHeap, if_true]
  refine wpAny_bind (L2.at ?_)
  refine wpAny_bind (wpAny_attempt (wpAny_holding ?_))
  unfold callGetattribute
  simp only [onTheHeap, Bool.and_false, Bool.false_eq_true, if_false]
  unfold boundAndCalled
  rw [slot_list_ga.bind]
  refine wpAny_bind (m := pure _) (wpAny_pure ?_)
  refine ga_call X I hsub hf ?_
  show wpAny _ _ (handedOut v) _ _ _
  rw [handedOut_of hh]; exact wpAny_pure h
end
end

section
open PySem PySem.W PySem.Spec PySem.Calls PyProof.Rows PyProof.V PySem.SeqAt

section
variable {prog : Program} {w : World} {A : Around} {E : Value → Shared → Prop} {s : Shared} {x : Addr}
/-- a list's own method is called on an object of a list class -/
theorem acc_call {id n : String} {b : Builtin} {rest : List Value} {Q : Value → Shared → Prop} (hk : builtinKind id = some .slot ∨ builtinKind id = some .method) (hs : splitId id = some ("list", n)) (hp : plainId id = true)
    (he : entryFor table id = some b) (ha : argsOk id ⟨.ref x :: rest, []⟩) (L4 : Looks (model prog w) s.heap (isInstance (.ref x) (.type "list")) true)
    (h : wpAny (model prog w) A.in1 (b ⟨.ref x :: rest, []⟩) (fun fin s' => ∃ v, fin = .done (.ret v) ∧ Q v s') E s) :
    wpAny (model prog w) A (call (.builtin id) (.ref x :: rest)) Q E s := by
  refine wpAny_call ?_
  refine codeAny_call_builtin (id := id) (b := b) hp he ?_
  have hb : wpAny (model prog w) A.in1 (checkBuiltinCall id ⟨.ref x :: rest, []⟩) (fun _ s' => s' = s) E s := by
    rcases hk with hk | hk
    · exact @check_slot (model prog w) _ _ s id "list" n (.ref x) rest [] _ hk hs L4 ha rfl
    · simp only [checkBuiltinCall, hk, hs]
      refine wpAny_bind (L4.here ?_)
      simp only [Bool.not_true, Bool.false_eq_true, if_false]
      cases hsig : Manifest.signature? id with
      | none => exact wpAny_pure rfl
      | some sig =>
        simp only [argsOk, hsig] at ha
        have h2 : Bind.checkArgs id sig ⟨.ref x :: rest, []⟩ = pure () := ha
        show wpAny _ _ (Bind.checkArgs id sig ⟨.ref x :: rest, []⟩) _ _ s
        rw [h2]; exact wpAny_pure rfl
  refine wpAny_mono hb (fun _ s' e => ?_) fun _ _ y => y
  subst e
  refine wpAny_mono h (fun fin s' h' => ?_) fun _ _ y => y
  obtain ⟨v, rfl, hv⟩ := h'
  exact hv
end
end

section
open PySem PySem.W PySem.Spec PySem.Calls PyProof.Rows PyProof.V PySem.SeqAt

section
variable {prog : Program} {w : World} {A : Around} {E : Value → Shared → Prop} {s : Shared} {x dc : Addr} {ps : List Value} {n : Nat}
theorem acc_append {y : Value} {Q : Value → Shared → Prop} (hl : s.heap.get? x = some (accObj dc ps.toArray n)) (hsz : ps.length ≤ sizeLine) (L4 : Looks (model prog w) s.heap (isInstance (.ref x) (.type "list")) true)
    (h : Q .none { s with heap := s.heap.update x (Obj.mapSeq (·.push y)) }) :
    wpAny (model prog w) A (call (.builtin "list.append") [.ref x, y]) Q E s := by
  obtain ⟨hp, g, d, tk, os⟩ := s
  refine acc_call (n := "append") (.inr (by kernel_rfl)) (by kernel_rfl) (by decide +kernel) F.entry_list_append (by unfold argsOk; kernel_rfl) L4 ?_
  show wpAny _ _ (updateSeq x (·.push y) >>= fun _ => ret .none) _ _ _
  exact wpAny_bind (wpAny_updateSeq hl rfl (wpAny_pure ⟨_, rfl, h⟩) (hsz) (by simpa using hsz))
theorem acc_pop_b {y : Value} {Q : Value → Shared → Prop} (hl : s.heap.get? x = some (accObj dc (ps ++ [y]).toArray n)) (hsz : (ps ++ [y]).length ≤ sizeLine)
    (h : Q y { s with heap := s.heap.update x (Obj.mapSeq fun xs => xs.eraseIdxIfInBounds ps.length) }) :
    wpAny (model prog w) A (Builtin.«list.pop» ⟨[.ref x], []⟩) (fun fin s' => ∃ v, fin = .done (.ret v) ∧ Q v s') E s := by
  obtain ⟨hp, g, d, tk, os⟩ := s
  have e1 : (ps ++ [y]).toArray.size = ps.length + 1 := by simp
  have hne : ¬ (ps ++ [y]).toArray.isEmpty = true := by simp
  have hk : seqIndex? (-1) (ps ++ [y]).toArray.size = some ps.length := by
    rw [seqIndex_neg (by (first | lia | omega)) (by (first | lia | omega))]; congr 1; (first | lia | omega)
  have hy : (ps ++ [y]).toArray[ps.length]? = some y := by simp
  have e2 : (ps ++ [y]).toArray.eraseIdxIfInBounds ps.length = ps.toArray := by
    have q : (ps ++ [y]).eraseIdx ps.length = ps := by rw [List.eraseIdx_append_of_length_le (Nat.le_refl _)]; simp
    simp [Array.eraseIdxIfInBounds, q]
  wp_walk using wpAny_loadPart' hl
  simp only [hk, hy, Option.bind_some, Option.map_some]
  have hz' : ((ps ++ [y]).toArray.eraseIdxIfInBounds ps.length).size ≤ sizeLine + 1 := by simp only [e2, List.size_toArray]; simp at hsz; (first | lia | omega)
  wp_walk using (wpAny_updateSeq hl rfl (hz := by simpa using hsz) (_hz' := hz')), wpAny_loadPart' hl
  exact ⟨_, rfl, h⟩
theorem acc_len_b {Q : Value → Shared → Prop} (hl : s.heap.get? x = some (accObj dc ps.toArray n))
    (h : Q (.int ps.length s.toks) { s with toks := s.toks + 1 }) :
    wpAny (model prog w) A (Builtin.«list.__len__» ⟨[.ref x], []⟩) (fun fin s' => ∃ v, fin = .done (.ret v) ∧ Q v s') E s := by
  obtain ⟨hp, g, d, tk, os⟩ := s
  have e1 : ps.toArray.size = ps.length := rfl
  wp_walk using wpAny_loadPart' hl
  exact ⟨_, rfl, h⟩
theorem acc_init_b {Q : Value → Shared → Prop} (hl : s.heap.get? x = some (accObj dc ps.toArray n)) (hsz : ps.length ≤ sizeLine)
    (h : Q .none { s with heap := s.heap.update x (Obj.mapSeq fun _ => #[]) }) :
    wpAny (model prog w) A (Builtin.«list.__init__» ⟨[.ref x], []⟩) (fun fin s' => ∃ v, fin = .done (.ret v) ∧ Q v s') E s := by
  obtain ⟨hp, g, d, tk, os⟩ := s
  wp_walk using wpAny_loadPart' hl, (wpAny_updateSeq hl rfl (hz := by simpa using hsz) (_hz' := by simp)), wpAny_letGo
  exact ⟨_, rfl, h⟩
end
end

section
open PySem PySem.W PySem.Spec PySem.Calls PyProof.Rows PyProof.V PySem.SeqAt

theorem updK {h₀ h : Heap} {L d : Addr} {m : Str → Option Value} {news : List (Addr × Obj)} {gg : Obj → List (Addr × Obj)} {o o' : Obj} {f : Obj → Obj} (F : Fr h₀ L h m) (N : News h₀ L h news) (U : UpdF d o news gg) (e : f o = o') (hf : o'.isFreed = false) :
    Fr h₀ L (h.update d f) m ∧ News h₀ L (h.update d f) (gg o') := by
  obtain ⟨pre, post, hl', hg, a, b⟩ := U.split
  rw [hl'] at N
  rw [hg]
  exact news_upd F N a b e hf
theorem mem_of_updF {d : Addr} {o : Obj} {l : List (Addr × Obj)} {gg : Obj → List (Addr × Obj)} (U : UpdF d o l gg) : (d, o) ∈ l := by
  obtain ⟨pre, post, hl', hg, a, b⟩ := U.split
  rw [hl']; exact List.mem_append_right _ (.head _)

section
variable {prog : Program} {w : World} {A : Around} {E : Value → Shared → Prop} {s : Shared} {h₀ : Heap} {L : Addr} {m : Str → Option Value} {news : List (Addr × Obj)} {gg : Obj → List (Addr × Obj)} {K : Frag} {x dc : Addr} {od : Option Obj} {ps : List Value} {n : Nat}
theorem append_accK {y : Value} {Q : Value → Shared → Prop} (F : autoParam (Fr h₀ L s.heap m) au4._auto_1) (N : autoParam (News h₀ L s.heap news) au4._auto_1) (X : autoParam (K.In s.heap) au8._auto_1) (I : autoParam (InstAt s.heap x (accObj dc ps.toArray n) 199 od) au6._auto_1) (hs : autoParam (subIn K (.ref 199) (.type "list") = some true) au7._auto_1) (U : autoParam (UpdF x (accObj dc ps.toArray n) news gg) au9._auto_1) (hsz : autoParam (ps.length ≤ sizeLine) au10._auto_1)
    (h : ∀ h' n', Fr h₀ L h' m → News h₀ L h' (gg (accObj dc (ps ++ [y]).toArray n')) → Q .none { s with heap := h' }) :
    wpAny (model prog w) A (call (.builtin "list.append") [.ref x, y]) Q E s := by
  refine acc_append I.at_ hsz (I.type.andThen (looks_subIn X hs)) ?_
  obtain ⟨F', N'⟩ := updK (o' := accObj dc (ps ++ [y]).toArray (n + 1)) (f := Obj.mapSeq (·.push y)) F N U (by simp [Obj.mapSeq]) rfl
  exact h _ _ F' N'
end

section
variable {w : World} {A₀ : Around} {s : Shared} {base h₀ : Heap} {outer : List Env} {m mg mb : Str → Option Value} {mean : ExcName → Option Value}
  {R : Result → Shared → Prop} {name qual : Str} {params : Arguments} {body : List Stmt} {scope : Scope} {cc : Addr} {dV kV doc pm cdv ct oc : Value} {an od : Option Addr} {osl : Array (Option Value)} {f : Addr} {args : Args} {binds : List (Str × Value)}
/-- a def with super() in it is entered -/
theorem enterS {D U : Nat} (hid : List Addr) {A : Around} (S : Site w D U hid A s)
    (ho : (hd.heap_1 w.params).lookup f = some ⟨oc, od, .func (ksFn name qual params body scope dV kV doc pm an cdv ct cc), osl⟩) (hcd : codeIn (hd.heap_1 w.params) cdv qual = true)
    (hroom : D < recursionLimit)
    (hbind : BindsTo s (ksFn name qual params body scope dV kV doc pm an cdv ct cc) args binds) (hloc : ∀ y ∈ binds, scope.names.lookup y.1 = some .local)
    (h : ∀ L cn cs a ccd cl' outer base g L' h₁ mg mb mean, cs.kind = .function →
      Fr g L' h₁ (fun y => binds.reverse.lookup y) → News g L' h₁ [] → Below (ktrTop D U A.guards cn cs L a ccd cl' outer) base (envX cn cs L a ccd cl' :: outer) g → (hd.heap_1 w.params).In g →
      Top hd.view_39 (looseW hd.view_39 [Str.ofString "_Accumulator"]) mean mg mb g →
      (∀ b o, s.heap.get? b = some o → b ∉ hid → g.get? b = some o) → (∀ b ∈ hid, g.get? b = none) → Keeps s.heap h₁ → L' = s.heap.objs.size →
      _root_.PySem.wpAt (model PySem.Challenge.rw_ty0042_01.row.prog w) ((ktrTop D U A.guards cn cs L a ccd cl' outer).deeper (ksEnv qual scope L' f cdv cc)) (.func body (ksEnv qual scope L' f cdv cc)) (execs body (ksEnv qual scope L' f cdv cc))
        (fun fl s' => R (.ok (.ret (match fl with | .ret v => v | _ => .none))) s')
        (fun _ _ => False)
        { s with heap := h₁, toks := s.toks + binds.length })
    (hcell : ∀ x ∈ scope.names, x.2 ≠ .cell) (hco : autoParam (scope.isCoroutine = false) au1._auto_1) (hgen : autoParam (scope.isGenerator = false) au1._auto_1) (hk : autoParam (scope.kind = .function) au1._auto_1) :
    codeAny (model PySem.Challenge.rw_ty0042_01.row.prog w) A (.call (.ref f) args) R s := by
  obtain ⟨hh, hdp, hun, cn, cs, a, ccd, cl', outer, A₀, base, h₀, L, m, mg, mb, mean, hA, hke, B, F, X, T, hL, hhid⟩ := S
  refine codeAny_le (A' := ktrTop D U A.guards cn cs L a ccd cl' outer) ?_ hh hdp hA rfl hun
  have hst : h₀.StaysIn (hideAll s.heap hid) := fun b o e => hideAll_get _ (F.keep b o e) fun q => by rw [hhid b q] at e; cases e
  obtain ⟨oL, es, ep, hLo, hLd, hLk, hLf⟩ := id F.ns
  have hLg := hideAll_get hid hLo hL
  have B₁ := pushX (env := envX cn cs L a ccd cl') B F rfl hke
  have BG : Below (ktrTop D U A.guards cn cs L a ccd cl' outer) base (envX cn cs L a ccd cl' :: outer) (hideAll s.heap hid) := by
    refine ⟨rfl, fun b o e => hst b o (B.stays b o e), funFrames_hideAll B₁.frames fun env' he b hb hf' => ?_⟩
    cases he with
    | head => exact hL ((Option.some.inj hf' : L = b) ▸ hb)
    | tail _ he =>
      obtain ⟨L₁, o₁, hf₁, ho₁⟩ := funFrames_in B.frames env' he
      rw [hf₁] at hf'
      have : L₁ = b := Option.some.inj hf'
      subst this
      rw [hhid L₁ hb] at ho₁; cases ho₁
  have XG : (hd.heap_1 w.params).In (hideAll s.heap hid) := X.keeps hst
  have hof : s.heap.get? f = some ⟨oc, od, .func (ksFn name qual params body scope dV kV doc pm an cdv ct cc), osl⟩ := (X.keeps F.keep) _ _ ho
  refine ks_codeAny_call_defAt (fd := ksFn name qual params body scope dV kV doc pm an cdv ct cc) (body := body) (binds := binds) hroom hof rfl (T.nolimit.keeps F.keep) (codeRec_of (X.keeps F.keep) hcd) rfl hbind hcell hloc (fun h₁ hns hk₁ => ?_) hco hgen hk
  refine ks_wpAt_mono (h L cn cs a ccd cl' outer base (hideAll s.heap hid) s.heap.objs.size h₁ mg mb mean hke ⟨hns, fun b o e => hk₁ b o (of_hideAll _ e), Nat.le_of_eq (hideAll_size _ _)⟩ (fun p hp => nomatch hp) BG XG (T.keeps hst)
    (fun b o e nb => hideAll_get hid e nb) (fun b hb => hideAll_none hid hb) hk₁ rfl) (fun _ _ x => x) fun _ _ x => x.elim
end
end

section
open PySem PySem.W PySem.Spec PySem.Calls PyProof.Rows PyProof.V PySem.SeqAt

noncomputable abbrev boundB (bt id : String) (x : Addr) : Obj := { cls := .type bt, dict := none, data := .fields #[.builtin id, .ref x], slots := #[] }
theorem slot_method_descriptor_get : Slot "method_descriptor" "__get__" "method_descriptor.__get__" := .of (owner := "method_descriptor") (n := "__get__") (by rw [typeLookup_type, builtinLookup_eq_fast]; kernel_rfl) (by decide +kernel) (by decide +kernel) (by decide +kernel)
  (by first | exact .inl (by decide +kernel) | exact .inr (by decide +kernel)) (by rw [isSubtype_type]; kernel_rfl)
theorem slot_wrapper_descriptor_get : Slot "wrapper_descriptor" "__get__" "wrapper_descriptor.__get__" := .of (owner := "wrapper_descriptor") (n := "__get__") (by rw [typeLookup_type, builtinLookup_eq_fast]; kernel_rfl) (by decide +kernel) (by decide +kernel) (by decide +kernel)
  (by first | exact .inl (by decide +kernel) | exact .inr (by decide +kernel)) (by rw [isSubtype_type]; kernel_rfl)
theorem entry_method_descriptor_get : entryFor table "method_descriptor.__get__" = some Builtin.«method_descriptor.__get__» := entryFor_of_tree (by kernel_rfl)
theorem entry_wrapper_descriptor_get : entryFor table "wrapper_descriptor.__get__" = some Builtin.«wrapper_descriptor.__get__» := entryFor_of_tree (by kernel_rfl)
section
variable {prog : Program} {w : World} {A : Around} {E : Value → Shared → Prop} {s : Shared} {h : Heap} {g : Array GenState} {d : Drawn} {t : Nat} {os : OsState} {x C : Addr}

theorem sp_get {Q : Fin → Shared → Prop} (L4 : Looks (model prog w) h (isInstance (.ref x) (.type "list")) true)
    (hq : Q (.done (.ret (.ref h.objs.size))) ⟨h.push (boundB "builtin_function_or_method" "list.pop" x), g, d, t, os⟩) :
    wpAny (model prog w) A (Builtin.«method_descriptor.__get__» ⟨[.builtin "list.pop", .ref x, .ref C], []⟩) Q E ⟨h, g, d, t, os⟩ := by
  unfold Builtin.«method_descriptor.__get__»
  refine wpAny_bind (wpAny_pure (a := (Value.builtin "list.pop", some (Value.ref x), some (Value.ref C))) ?_)
  dsimp only
  rw [if_neg (by decide +kernel)]
  refine wpAny_bind ?_
  show wpAny _ _ (isInstance (.ref x) (.type "list") >>= _) _ _ _
  refine wpAny_bind (L4.at ?_)
  refine wpAny_pure ?_
  refine wpAny_bind (wpAny_newObj_type ?_)
  exact wpAny_pure hq
theorem sp_type : typeOf (.builtin "list.pop") = pure (.type "method_descriptor") := by show builtinType _ = _; rw [builtinType_eq_fast]; kernel_rfl
theorem sp_args (C x : Addr) : argsOk "method_descriptor.__get__" ⟨[.builtin "list.pop", .ref x, .ref C], []⟩ := by unfold argsOk; kernel_rfl
theorem su_ga {nm : Str} {id dt gid kd : String} {bf : Args → Sem Fin} (hn : (nm == ("__class__" : Str)) = false) (hty : typeOf (.builtin id) = pure (.type dt)) (hsl : Slot dt "__get__" gid) (hen : entryFor table gid = some bf)
    (har : argsOk gid ⟨[.builtin id, .ref x, .ref C], []⟩) (hgt : ∀ {A : Around} {E : Value → Shared → Prop} {t : Nat} {Q : Fin → Shared → Prop}, Q (.done (.ret (.ref h.objs.size))) ⟨h.push (boundB kd id x), g, d, t, os⟩ → wpAny (model prog w) A (bf ⟨[.builtin id, .ref x, .ref C], []⟩) Q E ⟨h, g, d, t, os⟩) {so D : Addr} {l₀ l : List Value} {K : Frag} {tk : Tok} {Q : Fin → Shared → Prop}
    (hso : h.get? so = some { cls := .type "super", dict := none, data := .fields #[.ref D, .ref x, .ref C], slots := #[] }) (hno : Looks (model prog w) h (opaqueClassAbove (.ref C)) none)
    (hC : Looks (model prog w) h (mroOf (.ref C)) l₀) (hl : (l₀.dropWhile (· != .ref D)).drop 1 = l) (X : K.In h)
    (hf : alongIn K nm l = some (some (.builtin id))) (hxC : x ≠ C)
    (hq : Q (.done (.ret (.ref h.objs.size))) ⟨h.push (boundB kd id x), g, d, t, os⟩) :
    wpAny (model prog w) A (Builtin.«super.__getattribute__» ⟨[.ref so, .str nm tk], []⟩) Q E ⟨h, g, d, t, os⟩ := by
  have hne : (Value.ref x == Value.ref C) = false := by simp [hxC]
  have HT : ∀ s' : Shared, s'.TypeIs (.builtin id) dt := fun _ => hty
  have hgl := hsl.lookup
  have hdt : ({ cls := .type "super", dict := none, data := .fields #[.ref D, .ref x, .ref C], slots := #[] } : Obj).data = .fields #[.ref D, .ref x, .ref C] := rfl
  have f0 : (#[.ref D, .ref x, .ref C] : Array Value)[0]? = some (.ref D) := rfl
  have f1 : (#[.ref D, .ref x, .ref C] : Array Value)[1]? = some (.ref x) := rfl
  have f2 : (#[.ref D, .ref x, .ref C] : Array Value)[2]? = some (.ref C) := rfl
  unfold Builtin.«super.__getattribute__»
  repeat (first
    | (with_reducible refine wpAny_field hso hdt f0 ?_) | (with_reducible refine wpAny_field hso hdt f1 ?_) | (with_reducible refine wpAny_field hso hdt f2 ?_)
    | (with_reducible refine ks_wpAny_notOpaque hno ?_)
    | (with_reducible refine Looks.at hC ?_; rw [hl])
    | (refine ks_forIn_along X (fun _ _ => rfl) rfl ?_ hf)
    | (with_reducible refine wpAny_of_eq hty ?_)
    | (with_reducible refine wpAny_of_eq hgl ?_)
    | (with_reducible refine wpAny_call_entry hsl (HT _) hen ?_ har)
    | (with_reducible refine hgt ?_)
    | (with_reducible refine ⟨_, rfl, ?_⟩)
    | (simp only [hn, hne, Bool.or_false, Bool.false_eq_true, if_false])
    | wp_step
    | dsimp only)
  all_goals exact hq
theorem su_meth {nm : Str} {id dt gid kd : String} {bf : Args → Sem Fin} (hn : (nm == ("__class__" : Str)) = false) (hty : typeOf (.builtin id) = pure (.type dt)) (hsl : Slot dt "__get__" gid) (hen : entryFor table gid = some bf)
    (har : argsOk gid ⟨[.builtin id, .ref x, .ref C], []⟩) (hgt : ∀ {A : Around} {E : Value → Shared → Prop} {t : Nat} {Q : Fin → Shared → Prop}, Q (.done (.ret (.ref h.objs.size))) ⟨h.push (boundB kd id x), g, d, t, os⟩ → wpAny (model prog w) A (bf ⟨[.builtin id, .ref x, .ref C], []⟩) Q E ⟨h, g, d, t, os⟩) {so D : Addr} {l₀ l : List Value} {K : Frag} {pl : Sem Bool} {Q : Value × List Value → Shared → Prop}
    (hso : h.get? so = some { cls := .type "super", dict := none, data := .fields #[.ref D, .ref x, .ref C], slots := #[] }) (hno : Looks (model prog w) h (opaqueClassAbove (.ref C)) none)
    (hC : Looks (model prog w) h (mroOf (.ref C)) l₀) (hl : (l₀.dropWhile (· != .ref D)).drop 1 = l) (X : K.In h)
    (hf : alongIn K nm l = some (some (.builtin id))) (hxC : x ≠ C)
    (hq : Q (.ref h.objs.size, []) ⟨h.push (boundB kd id x), g, d, t + 1, os⟩) :
    wpAny (model prog w) A (getMethod (.ref so) nm pl) Q E ⟨h, g, d, t, os⟩ := by
  have hlk := F.ks_slot_super_ga.lookup
  have hcan := F.ks_canon_super_ga
  have hT : ∀ t', (⟨h, g, d, t', os⟩ : Shared).TypeIs (.ref so) "super" := fun _ => ⟨_, hso, rfl⟩
  unfold getMethod
  refine wpAny_bind (wpAny_specialOf (hT _) hlk ?_)
  show wpAny _ _ (if (Manifest.canonical "super.__getattribute__" != "object.__getattribute__") = true then _ else _) _ _ _
  rw [if_pos hcan]
  unfold getAttr getAttrBy
  refine wpAny_bind (wpAny_bind (wpAny_mkText (wpAny_holding (wpAny_bind (wpAny_typeOf (hT _) (wpAny_bind (wpAny_of_eq hlk ?_)))))))
  show wpAny _ _ (getAttrByItsOwn (.ref so) (.str nm t) (.type "super") (.builtin "super.__getattribute__") true false) _ _ _
  unfold getAttrByItsOwn hookBefore callGetattribute boundAndCalled
  refine wpAny_bind (wpAny_of_eq (show (if onTheHeap (.type "super") then typeLookup (.type "super") "__getattr__" else pure none) = pure none from rfl) ?_)
  refine wpAny_bind (wpAny_attempt (wpAny_holding ?_))
  show wpAny _ _ (bindSpecial (.builtin "super.__getattribute__") (.ref so) >>= _) _ _ _
  refine wpAny_bind (wpAny_of_eq (F.ks_slot_super_ga.bind _) ?_)
  refine wpAny_mono (Q := fun v s' => v = .ref h.objs.size ∧ s' = ⟨h.push (boundB kd id x), g, d, t + 1, os⟩) (E := fun _ _ => False)
    (wpAny_call_entry F.ks_slot_super_ga (hT _) F.ks_entry_super_ga (su_ga hn hty hsl hen har hgt hso hno hC hl X hf hxC ⟨_, rfl, rfl, rfl⟩) (F.ks_gaArgs_super _ _)) (fun v s' hv => ?_) fun _ _ z => z.elim
  obtain ⟨rfl, rfl⟩ := hv
  exact wpAny_pure (wpAny_pure hq)

theorem sp_meth {so D : Addr} {l₀ l : List Value} {K : Frag} {pl : Sem Bool} {Q : Value × List Value → Shared → Prop}
    (hso : h.get? so = some { cls := .type "super", dict := none, data := .fields #[.ref D, .ref x, .ref C], slots := #[] }) (hno : Looks (model prog w) h (opaqueClassAbove (.ref C)) none)
    (hC : Looks (model prog w) h (mroOf (.ref C)) l₀) (hl : (l₀.dropWhile (· != .ref D)).drop 1 = l) (X : K.In h)
    (hf : alongIn K "pop" l = some (some (.builtin "list.pop"))) (L4 : Looks (model prog w) h (isInstance (.ref x) (.type "list")) true) (hxC : x ≠ C)
    (hq : Q (.ref h.objs.size, []) ⟨h.push (boundB "builtin_function_or_method" "list.pop" x), g, d, t + 1, os⟩) :
    wpAny (model prog w) A (getMethod (.ref so) "pop" pl) Q E ⟨h, g, d, t, os⟩ :=
  su_meth (by decide) sp_type slot_method_descriptor_get entry_method_descriptor_get (sp_args C x) (fun hq => sp_get L4 hq) hso hno hC hl X hf hxC hq
theorem sl_get {Q : Fin → Shared → Prop} (L4 : Looks (model prog w) h (isInstance (.ref x) (.type "list")) true)
    (hq : Q (.done (.ret (.ref h.objs.size))) ⟨h.push (boundB "method-wrapper" "list.__len__" x), g, d, t, os⟩) :
    wpAny (model prog w) A (Builtin.«wrapper_descriptor.__get__» ⟨[.builtin "list.__len__", .ref x, .ref C], []⟩) Q E ⟨h, g, d, t, os⟩ := by
  unfold Builtin.«wrapper_descriptor.__get__»
  refine wpAny_bind (wpAny_pure (a := (Value.builtin "list.__len__", some (Value.ref x), some (Value.ref C))) ?_)
  refine wpAny_bind ?_
  show wpAny _ _ (isInstance (.ref x) (.type "list") >>= _) _ _ _
  refine wpAny_bind (L4.at ?_)
  refine wpAny_pure ?_
  refine wpAny_bind (wpAny_newObj_type ?_)
  exact wpAny_pure hq
theorem sl_type : typeOf (.builtin "list.__len__") = pure (.type "wrapper_descriptor") := by show builtinType _ = _; rw [builtinType_eq_fast]; kernel_rfl
theorem sl_args (C x : Addr) : argsOk "wrapper_descriptor.__get__" ⟨[.builtin "list.__len__", .ref x, .ref C], []⟩ := by unfold argsOk; kernel_rfl
theorem sl_meth {so D : Addr} {l₀ l : List Value} {K : Frag} {pl : Sem Bool} {Q : Value × List Value → Shared → Prop}
    (hso : h.get? so = some { cls := .type "super", dict := none, data := .fields #[.ref D, .ref x, .ref C], slots := #[] }) (hno : Looks (model prog w) h (opaqueClassAbove (.ref C)) none)
    (hC : Looks (model prog w) h (mroOf (.ref C)) l₀) (hl : (l₀.dropWhile (· != .ref D)).drop 1 = l) (X : K.In h)
    (hf : alongIn K "__len__" l = some (some (.builtin "list.__len__"))) (L4 : Looks (model prog w) h (isInstance (.ref x) (.type "list")) true) (hxC : x ≠ C)
    (hq : Q (.ref h.objs.size, []) ⟨h.push (boundB "method-wrapper" "list.__len__" x), g, d, t + 1, os⟩) :
    wpAny (model prog w) A (getMethod (.ref so) "__len__" pl) Q E ⟨h, g, d, t, os⟩ :=
  su_meth (by decide) sl_type slot_wrapper_descriptor_get entry_wrapper_descriptor_get (sl_args C x) (fun hq => sl_get L4 hq) hso hno hC hl X hf hxC hq
theorem si_get {Q : Fin → Shared → Prop} (L4 : Looks (model prog w) h (isInstance (.ref x) (.type "list")) true)
    (hq : Q (.done (.ret (.ref h.objs.size))) ⟨h.push (boundB "method-wrapper" "list.__init__" x), g, d, t, os⟩) :
    wpAny (model prog w) A (Builtin.«wrapper_descriptor.__get__» ⟨[.builtin "list.__init__", .ref x, .ref C], []⟩) Q E ⟨h, g, d, t, os⟩ := by
  unfold Builtin.«wrapper_descriptor.__get__»
  refine wpAny_bind (wpAny_pure (a := (Value.builtin "list.__init__", some (Value.ref x), some (Value.ref C))) ?_)
  refine wpAny_bind ?_
  show wpAny _ _ (isInstance (.ref x) (.type "list") >>= _) _ _ _
  refine wpAny_bind (L4.at ?_)
  refine wpAny_pure ?_
  refine wpAny_bind (wpAny_newObj_type ?_)
  exact wpAny_pure hq
theorem si_type : typeOf (.builtin "list.__init__") = pure (.type "wrapper_descriptor") := by show builtinType _ = _; rw [builtinType_eq_fast]; kernel_rfl
theorem si_args (C x : Addr) : argsOk "wrapper_descriptor.__get__" ⟨[.builtin "list.__init__", .ref x, .ref C], []⟩ := by unfold argsOk; kernel_rfl
theorem si_meth {so D : Addr} {l₀ l : List Value} {K : Frag} {pl : Sem Bool} {Q : Value × List Value → Shared → Prop}
    (hso : h.get? so = some { cls := .type "super", dict := none, data := .fields #[.ref D, .ref x, .ref C], slots := #[] }) (hno : Looks (model prog w) h (opaqueClassAbove (.ref C)) none)
    (hC : Looks (model prog w) h (mroOf (.ref C)) l₀) (hl : (l₀.dropWhile (· != .ref D)).drop 1 = l) (X : K.In h)
    (hf : alongIn K "__init__" l = some (some (.builtin "list.__init__"))) (L4 : Looks (model prog w) h (isInstance (.ref x) (.type "list")) true) (hxC : x ≠ C)
    (hq : Q (.ref h.objs.size, []) ⟨h.push (boundB "method-wrapper" "list.__init__" x), g, d, t + 1, os⟩) :
    wpAny (model prog w) A (getMethod (.ref so) "__init__" pl) Q E ⟨h, g, d, t, os⟩ :=
  su_meth (by decide) si_type slot_wrapper_descriptor_get entry_wrapper_descriptor_get (si_args C x) (fun hq => si_get L4 hq) hso hno hC hl X hf hxC hq
end
end

section
open PySem PySem.W PySem.Spec PySem.Calls PyProof.Rows PyProof.V PySem.SeqAt

theorem sig_pop : Manifest.signature? "list.pop" = some { machinery := .positional, full := "list.pop", short := "pop", receiver := .self, params := [{ name := "index", kind := .posOnly, required := false }] } := by kernel_rfl
theorem ck_pop (x : Addr) : Bind.checkArgs "list.pop" { machinery := .positional, full := "_Accumulator.pop", short := "pop", receiver := .self, params := [{ name := "index", kind := .posOnly, required := false }] } ⟨[.ref x], []⟩ = pure () := by kernel_rfl
theorem kind_pop : builtinKind "list.pop" = some .method := by kernel_rfl
section
variable {prog : Program} {w : World} {A : Around} {E : Value → Shared → Prop} {s : Shared} {K : Frag} {x u : Addr} {ox : Obj} {od : Option Obj}

theorem bcheck_pop (X : K.In s.heap) (I : InstAt s.heap x ox 199 od) (hm : subIn K (.ref 199) (.type "module") = some false) {Q : Unit → Shared → Prop} {cd : ClassData} (hc : clsIn K 199 = some cd) (hq : cd.qualname = "_Accumulator") (ht : typeIn K (.ref 199) = some (.type "type"))
    (h : Q () s) : wpAny (model prog w) A (checkBoundCall "list.pop" ⟨[.ref x], []⟩) Q E s := by
  obtain ⟨hp, g, d, t, os⟩ := s
  have L0 := I.type (M := model prog w)
  have L1 : Looks (model prog w) hp (isInstance (.ref x) (.type "module")) false := L0.andThen (looks_subIn X hm)
  have L2 := looks_clsIn (M := model prog w) X hc
  have L3 := looks_typeIn (M := model prog w) X ht
  unfold checkBoundCall
  rw [sig_pop, kind_pop]
  dsimp only
  rw [if_neg (by decide)]
  refine wpAny_bind (L1.at ?_)
  rw [if_neg (by decide +kernel)]
  refine wpAny_bind (ks_wpAny_isType_inst I.at_ (fun c e => by have := I.no; unfold notCls at this; rw [e] at this; exact Bool.noConfusion this) ?_)
  rw [if_neg (by decide)]
  refine wpAny_bind (L0.at ?_)
  refine wpAny_bind (L2.at ?_)
  refine wpAny_bind (L3.at ?_)
  rw [if_pos (by decide), hq]
  have e : wpAny (model prog w) A (Bind.checkArgs "list.pop" { machinery := .positional, full := "_Accumulator.pop", short := "pop", receiver := .self, params := [{ name := "index", kind := .posOnly, required := false }] } ⟨[.ref x], []⟩) Q E ⟨hp, g, d, t, os⟩ := by
    rw [ck_pop]; exact wpAny_pure h
  have q : ∀ f : String, f = "_Accumulator.pop" → wpAny (model prog w) A (Bind.checkArgs "list.pop" { machinery := .positional, full := f, short := "pop", receiver := .self, params := [{ name := "index", kind := .posOnly, required := false }] } ⟨[.ref x], []⟩) Q E ⟨hp, g, d, t, os⟩ := by
    rintro f rfl; exact e
  exact q _ (by decide +kernel)

theorem quiet_pop (a : Args) : (Code.builtin "list.pop" a).quiet = true := Code.quiet_builtin _ (by decide +kernel)
theorem quiet_len (a : Args) : (Code.builtin "list.__len__" a).quiet = true := Code.quiet_builtin _ (by decide +kernel)
theorem quiet_init (a : Args) : (Code.builtin "list.__init__" a).quiet = true := Code.quiet_builtin _ (by decide +kernel)
theorem bcheck_len (x : Addr) : checkBoundCall "list.__len__" ⟨[.ref x], []⟩ = pure () := by kernel_rfl
theorem bcheck_init (x : Addr) : checkBoundCall "list.__init__" ⟨[.ref x], []⟩ = pure () := by kernel_rfl
theorem if_so {α : Type} {c : Bool} {t e : Sem α} {Q : α → Shared → Prop} (hc : c = true) (h : wpAny (model prog w) A t Q E s) : wpAny (model prog w) A (if c = true then t else e) Q E s := by rw [if_pos hc]; exact h
theorem bcall {id bt : String} {R : Result → Shared → Prop} (ho : s.heap.get? u = some (boundB bt id x)) (hbt : bt = "builtin_function_or_method" ∨ bt = "method-wrapper") (hqt : (Code.builtin id ⟨[.ref x], []⟩).quiet = true)
    (h : wpAny (model prog w) A.in1 (checkBoundCall id ⟨[.ref x], []⟩) (fun _ s' => codeAny (model prog w) A (.builtin id ⟨[.ref x], []⟩) R s') (fun e s' => R (.error e) s') s) :
    codeAny (model prog w) A (.call (.ref u) ⟨[], []⟩) R s := by
  refine codeAny_of_tree ?_
  show wpAny _ A.in1 (callAny (.ref u) ⟨[], []⟩) _ _ s
  unfold callAny
  refine wpAny_bind (wpAny_load ho ?_)
  rcases hbt with rfl | rfl
  all_goals
    dsimp only [boundB]
    refine if_so (by decide) ?_
    refine if_so (by decide) ?_
    refine wpAny_bind (wpAny_mono h (fun _ s' h' => ?_) fun _ _ y => y)
    refine wpAny_bind (wpAny_pure (wpAny_pure ?_))
    exact ⟨hqt, h'⟩
end
end

section
open PySem PySem.W PySem.Spec PySem.Calls PyProof.Rows PyProof.V PySem.SeqAt
section
variable {prog : Program} {w : World} {A : Around} {E : Value → Shared → Prop} {s : Shared} {h₀ : Heap} {L : Addr} {m : Str → Option Value} {news : List (Addr × Obj)} {gg : Obj → List (Addr × Obj)} {K : Frag} {x C D so u dc : Addr} {ox : Obj} {odx : Option Obj} {ps : List Value} {n : Nat}

theorem sp_methK {pl : Sem Bool} {Q : Value × List Value → Shared → Prop} (F : autoParam (Fr h₀ L s.heap m) au4._auto_1) (X₀ : autoParam (K.In h₀) au4._auto_1) (N : autoParam (News h₀ L s.heap news) au4._auto_1) (hso : autoParam ((so, ks_superObj D x C) ∈ news) au5._auto_1) (I : autoParam (InstAt s.heap x ox C odx) au6._auto_1) (ho : autoParam (nsIn K cStatics "thirdparty.any" = some none) au7._auto_1)
    (hm : autoParam (ks_superIn K C D "pop" = some (some (.builtin "list.pop"))) au13._auto_1) (hs : autoParam (subIn K (.ref C) (.type "list") = some true) au7._auto_1)
    (h : ∀ q h', Fr h₀ L h' m → News h₀ L h' ((q, boundB "builtin_function_or_method" "list.pop" x) :: news) → (∀ p ∈ news, p.1 < q) → Q (.ref q, []) { s with heap := h', toks := s.toks + 1 }) : wpAny (model prog w) A (getMethod (.ref so) "pop" pl) Q E s := by
  have X : K.In s.heap := X₀.keeps F.keep
  obtain ⟨hh, g, d, t, os⟩ := s
  cases hc : clsIn K C with
  | none => unfold ks_superIn at hm; rw [hc] at hm; cases hm
  | some cd =>
    unfold ks_superIn at hm
    rw [hc] at hm
    refine sp_meth (N _ hso).1 (looks_opaque X ho) (l₀ := cd.mro) ?_ rfl X hm (I.type.andThen (looks_subIn X hs)) (ks_ne X I hc) ?_
    · exact fun A Q E s k q => wpAny_bind ((looks_clsIn X hc) A _ E s k (wpAny_pure q))
    · obtain ⟨F', N', l'⟩ := ks_newsPush (s := ⟨hh, g, d, t, os⟩) (o := boundB "builtin_function_or_method" "list.pop" x) F N rfl (Heap.get?_push_at rfl rfl) (fun b o e => Heap.get?_push_of_some _ e)
      exact h _ _ F' N' l'

theorem sl_methK {pl : Sem Bool} {Q : Value × List Value → Shared → Prop} (F : autoParam (Fr h₀ L s.heap m) au4._auto_1) (X₀ : autoParam (K.In h₀) au4._auto_1) (N : autoParam (News h₀ L s.heap news) au4._auto_1) (hso : autoParam ((so, ks_superObj D x C) ∈ news) au5._auto_1) (I : autoParam (InstAt s.heap x ox C odx) au6._auto_1) (ho : autoParam (nsIn K cStatics "thirdparty.any" = some none) au7._auto_1)
    (hm : autoParam (ks_superIn K C D "__len__" = some (some (.builtin "list.__len__"))) au13._auto_1) (hs : autoParam (subIn K (.ref C) (.type "list") = some true) au7._auto_1)
    (h : ∀ q h', Fr h₀ L h' m → News h₀ L h' ((q, boundB "method-wrapper" "list.__len__" x) :: news) → (∀ p ∈ news, p.1 < q) → Q (.ref q, []) { s with heap := h', toks := s.toks + 1 }) : wpAny (model prog w) A (getMethod (.ref so) "__len__" pl) Q E s := by
  have X : K.In s.heap := X₀.keeps F.keep
  obtain ⟨hh, g, d, t, os⟩ := s
  cases hc : clsIn K C with
  | none => unfold ks_superIn at hm; rw [hc] at hm; cases hm
  | some cd =>
    unfold ks_superIn at hm
    rw [hc] at hm
    refine sl_meth (N _ hso).1 (looks_opaque X ho) (l₀ := cd.mro) ?_ rfl X hm (I.type.andThen (looks_subIn X hs)) (ks_ne X I hc) ?_
    · exact fun A Q E s k q => wpAny_bind ((looks_clsIn X hc) A _ E s k (wpAny_pure q))
    · obtain ⟨F', N', l'⟩ := ks_newsPush (s := ⟨hh, g, d, t, os⟩) (o := boundB "method-wrapper" "list.__len__" x) F N rfl (Heap.get?_push_at rfl rfl) (fun b o e => Heap.get?_push_of_some _ e)
      exact h _ _ F' N' l'

theorem si_methK {pl : Sem Bool} {Q : Value × List Value → Shared → Prop} (F : autoParam (Fr h₀ L s.heap m) au4._auto_1) (X₀ : autoParam (K.In h₀) au4._auto_1) (N : autoParam (News h₀ L s.heap news) au4._auto_1) (hso : autoParam ((so, ks_superObj D x C) ∈ news) au5._auto_1) (I : autoParam (InstAt s.heap x ox C odx) au6._auto_1) (ho : autoParam (nsIn K cStatics "thirdparty.any" = some none) au7._auto_1)
    (hm : autoParam (ks_superIn K C D "__init__" = some (some (.builtin "list.__init__"))) au13._auto_1) (hs : autoParam (subIn K (.ref C) (.type "list") = some true) au7._auto_1)
    (h : ∀ q h', Fr h₀ L h' m → News h₀ L h' ((q, boundB "method-wrapper" "list.__init__" x) :: news) → (∀ p ∈ news, p.1 < q) → Q (.ref q, []) { s with heap := h', toks := s.toks + 1 }) : wpAny (model prog w) A (getMethod (.ref so) "__init__" pl) Q E s := by
  have X : K.In s.heap := X₀.keeps F.keep
  obtain ⟨hh, g, d, t, os⟩ := s
  cases hc : clsIn K C with
  | none => unfold ks_superIn at hm; rw [hc] at hm; cases hm
  | some cd =>
    unfold ks_superIn at hm
    rw [hc] at hm
    refine si_meth (N _ hso).1 (looks_opaque X ho) (l₀ := cd.mro) ?_ rfl X hm (I.type.andThen (looks_subIn X hs)) (ks_ne X I hc) ?_
    · exact fun A Q E s k q => wpAny_bind ((looks_clsIn X hc) A _ E s k (wpAny_pure q))
    · obtain ⟨F', N', l'⟩ := ks_newsPush (s := ⟨hh, g, d, t, os⟩) (o := boundB "method-wrapper" "list.__init__" x) F N rfl (Heap.get?_push_at rfl rfl) (fun b o e => Heap.get?_push_of_some _ e)
      exact h _ _ F' N' l'

theorem inst_acc {h : Heap} {od : Obj} {pa : Array Value} (N : autoParam (News h₀ L h news) au4._auto_1) (h1 : autoParam ((x, accObj dc pa n) ∈ news) au5._auto_1) (h2 : autoParam ((dc, od) ∈ news) au5._auto_1) : InstAt h x (accObj dc pa n) 199 (some od) := ⟨(N _ h1).1, rfl, rfl, (N _ h2).1⟩
inductive BoundT : String → Prop
  | f : BoundT "builtin_function_or_method"
  | w : BoundT "method-wrapper"
theorem callB {bt id : String} {pos : Pos} {Q : Value → Shared → Prop} (N : autoParam (News h₀ L s.heap news) au4._auto_1) (hu : autoParam ((u, boundB bt id x) ∈ news) au5._auto_1) (hbt : autoParam (BoundT bt) au22._auto_1)
    (h : wpAny (model prog w) A (call (.ref u) []) Q E s) : wpAny (model prog w) A (callWith pos (.ref u) [] [] []) Q E s := by
  have ho := (N _ hu).1
  unfold callWith
  refine wpAny_bind (wpAny_holding (wpAny_mono (Q := fun (a : Args) s' => a = ⟨[], []⟩ ∧ s' = s) (E := fun _ _ => False) ?_ (fun a s₁ h₁ => ?_) fun _ _ z => z.elim))
  · show wpAny _ _ (pure (⟨[], []⟩ : Args)) _ _ _
    refine wpAny_pure ?_
    exact ⟨rfl, rfl⟩
  obtain ⟨rfl, rfl⟩ := h₁
  refine wpAny_bind (wpAny_standAt ?_)
  refine wpAny_bind (m := keeperOf (.ref u)) ?_
  unfold keeperOf
  refine wpAny_bind (wpAny_load ho ?_)
  rcases (show BoundT bt from hbt) with _ | _
  all_goals
    dsimp only [boundB]
    refine if_so (by decide) ?_
    refine wpAny_pure ?_
    exact wpAny_bind (wpAny_mono h (fun r s₂ hr => wpAny_bind (wpAny_holding (wpAny_point (wpAny_pure hr)))) fun _ _ x => x)

theorem call_bpop {y : Value} {cd : ClassData} {Q : Value → Shared → Prop} (F : autoParam (Fr h₀ L s.heap m) au4._auto_1) (X₀ : autoParam (K.In h₀) au4._auto_1) (N : autoParam (News h₀ L s.heap news) au4._auto_1) (hu : autoParam ((u, boundB "builtin_function_or_method" "list.pop" x) ∈ news) au5._auto_1) (I : autoParam (InstAt s.heap x (accObj dc (ps ++ [y]).toArray n) 199 odx) au6._auto_1)
    (U : autoParam (UpdF x (accObj dc (ps ++ [y]).toArray n) news gg) au9._auto_1) (hsz : autoParam ((ps ++ [y]).length ≤ sizeLine) au10._auto_1) (hm : autoParam (subIn K (.ref 199) (.type "module") = some false) au7._auto_1) (hc : autoParam (clsIn K 199 = some cd) au7._auto_1) (hq : autoParam (cd.qualname = "_Accumulator") au1._auto_1) (ht : autoParam (typeIn K (.ref 199) = some (.type "type")) au7._auto_1)
    (h : ∀ h' n', Fr h₀ L h' m → News h₀ L h' (gg (accObj dc ps.toArray n')) → Q y { s with heap := h' }) :
    wpAny (model prog w) A (call (.ref u) []) Q E s := by
  refine wpAny_call (bcall (N _ hu).1 (.inl rfl) (quiet_pop _) (bcheck_pop (X₀.keeps F.keep) I hm hc hq ht ?_))
  refine codeAny_builtin _root_.PySem.F.entry_list_pop ?_
  refine wpAny_mono (acc_pop_b (Q := Q) I.at_ hsz ?_) (fun fin s' h' => ?_) fun _ _ z => z
  · have q : (ps ++ [y]).eraseIdx ps.length = ps := by rw [List.eraseIdx_append_of_length_le (Nat.le_refl _)]; simp
    obtain ⟨F', N'⟩ := updK (o' := accObj dc ps.toArray (n + 1)) (f := Obj.mapSeq fun xs => xs.eraseIdxIfInBounds ps.length) F N U (by simp [Obj.mapSeq, Array.eraseIdxIfInBounds, q]) rfl
    exact h _ _ F' N'
  · obtain ⟨v, rfl, hv⟩ := h'; exact hv
theorem call_blen {Q : Value → Shared → Prop} (N : autoParam (News h₀ L s.heap news) au4._auto_1) (hu : autoParam ((u, boundB "method-wrapper" "list.__len__" x) ∈ news) au5._auto_1) (I : autoParam (InstAt s.heap x (accObj dc ps.toArray n) 199 odx) au6._auto_1)
    (h : Q (.int ps.length s.toks) { s with toks := s.toks + 1 }) :
    wpAny (model prog w) A (call (.ref u) []) Q E s := by
  refine wpAny_call (bcall (N _ hu).1 (.inr rfl) (quiet_len _) ?_)
  rw [bcheck_len]
  refine wpAny_pure (codeAny_builtin _root_.PySem.F.entry_list_len ?_)
  refine wpAny_mono (acc_len_b (Q := Q) I.at_ h) (fun fin s' h' => ?_) fun _ _ z => z
  obtain ⟨v, rfl, hv⟩ := h'; exact hv
theorem call_binit {Q : Value → Shared → Prop} (F : autoParam (Fr h₀ L s.heap m) au4._auto_1) (N : autoParam (News h₀ L s.heap news) au4._auto_1) (hu : autoParam ((u, boundB "method-wrapper" "list.__init__" x) ∈ news) au5._auto_1) (I : autoParam (InstAt s.heap x (accObj dc ps.toArray n) 199 odx) au6._auto_1) (U : autoParam (UpdF x (accObj dc ps.toArray n) news gg) au9._auto_1) (hsz : autoParam (ps.length ≤ sizeLine) au10._auto_1)
    (h : ∀ h' n', Fr h₀ L h' m → News h₀ L h' (gg (accObj dc #[] n')) → Q .none { s with heap := h' }) :
    wpAny (model prog w) A (call (.ref u) []) Q E s := by
  refine wpAny_call (bcall (N _ hu).1 (.inr rfl) (quiet_init _) ?_)
  rw [bcheck_init]
  refine wpAny_pure (codeAny_builtin _root_.PySem.F.entry_list_init ?_)
  refine wpAny_mono (acc_init_b (Q := Q) I.at_ hsz ?_) (fun fin s' h' => ?_) fun _ _ z => z
  · cases ps with
    | nil =>
      obtain ⟨F', N'⟩ := updK (o' := accObj dc #[] n) (f := Obj.mapSeq fun _ => #[]) F N U (by simp [Obj.mapSeq]) rfl
      exact h _ _ F' N'
    | cons p r =>
      obtain ⟨F', N'⟩ := updK (o' := accObj dc #[] (n + 1)) (f := Obj.mapSeq fun _ => #[]) F N U (by simp [Obj.mapSeq]) rfl
      exact h _ _ F' N'
  · obtain ⟨v, rfl, hv⟩ := h'; exact hv
end
theorem keep_hid {s : Shared} {g h' : Heap} {L : Addr} {m : Str → Option Value} {hid : List Addr} (hg : ∀ b o, s.heap.get? b = some o → b ∉ hid → g.get? b = some o) (F : Fr g L h' m)
    (hk : ∀ b ∈ hid, ∀ o, s.heap.get? b = some o → h'.get? b = some o) : Keeps s.heap h' := fun b o e => by
  by_cases q : b ∈ hid
  · exact hk b q o e
  · exact keepbut_end hg F b o q e
theorem keep_two {s : Shared} {g h' : Heap} {L : Addr} {m : Str → Option Value} {a b : Addr} {oa ob : Obj} {news : List (Addr × Obj)} (hg : ∀ b' o, s.heap.get? b' = some o → b' ∉ [a, b] → g.get? b' = some o) (F : Fr g L h' m) (N : News g L h' news)
    (h1 : (a, oa) ∈ news) (h2 : (b, ob) ∈ news) (ha : s.heap.get? a = some oa) (hb : s.heap.get? b = some ob) : Keeps s.heap h' :=
  keep_hid hg F fun x hx o e => by
    first | (rcases List.mem_cons.mp hx with rfl | hx) | (rcases List.mem_append.mp hx with hx | hx)
    · rw [ha] at e; cases e; exact (N _ h1).1
    rcases List.mem_singleton.mp hx with rfl
    rw [hb] at e; cases e; exact (N _ h2).1
theorem keepbut_one {s : Shared} {g h' : Heap} {L : Addr} {m : Str → Option Value} {a b : Addr} {ob : Obj} {news : List (Addr × Obj)} (hg : ∀ b' o, s.heap.get? b' = some o → b' ∉ [a, b] → g.get? b' = some o) (F : Fr g L h' m) (N : News g L h' news)
    (h2 : (b, ob) ∈ news) (hb : s.heap.get? b = some ob) : KeepsBut [a] s.heap h' := fun x o hx e => by
  by_cases q : x = b
  · subst q; rw [hb] at e; cases e; exact (N _ h2).1
  · refine keepbut_end hg F x o ?_ e
    simp only [List.mem_cons, List.not_mem_nil, or_false] at hx ⊢
    exact fun z => z.elim hx q
end

section
open PySem PySem.W PySem.Spec PySem.Calls PyProof.Rows PyProof.V PySem.SeqAt

noncomputable abbrev accDict (hs : Int) (tk : Tok) (v : Value) : Obj := { cls := .type "dict", data := .dict #[⟨hs, .str "_initial_size" tk, v⟩] 1 }
theorem acc_ne {h : Heap} {c dc : Addr} {pa : Array Value} {n : Nat} {hs : Int} {tk : Tok} {iv : Value} (hc : h.get? c = some (accObj dc pa n)) (hdc : h.get? dc = some (accDict hs tk iv)) : c ≠ dc := by
  intro q
  subst q
  rw [hc] at hdc; cases hdc
theorem fr_but {h₀ h h' : Heap} {L : Addr} {m : Str → Option Value} {hid : List Addr} (F : Fr h₀ L h m) (k : KeepsBut hid h h') (hn : ∀ b ∈ hid, h₀.get? b = none) (hL : L ∉ hid) : Fr h₀ L h' m := by
  obtain ⟨oL, es, ep, e, r⟩ := F.ns
  refine ⟨⟨oL, es, ep, k _ _ hL e, r⟩, fun b o q => k b o (fun z => ?_) (F.keep b o q), F.above⟩
  rw [hn b z] at q; cases q
theorem news_but {h₀ h h' : Heap} {L : Addr} {news : List (Addr × Obj)} {hid : List Addr} (N : News h₀ L h news) (k : KeepsBut hid h h') (hd : ∀ p ∈ news, p.1 ∉ hid) : News h₀ L h' news := fun p hp => ⟨k _ _ (hd p hp) (N p hp).1, (N p hp).2⟩
theorem news_upd1 {h₀ h h' : Heap} {L c : Addr} {news : List (Addr × Obj)} {gg : Obj → List (Addr × Obj)} {o o' : Obj} (N : News h₀ L h news) (U : UpdF c o news gg) (k : KeepsBut [c] h h') (hc : h'.get? c = some o') : News h₀ L h' (gg o') := by
  obtain ⟨pre, post, hl', hg, a, b⟩ := U.split
  rw [hl'] at N
  rw [hg]
  intro p hp
  rcases List.mem_append.mp hp with q | q
  · have P := N p (List.mem_append_left _ q)
    exact ⟨k _ _ (by simpa using a p q) P.1, P.2⟩
  · rcases List.mem_cons.mp q with rfl | q
    · exact ⟨hc, (N (c, o) (by simp)).2⟩
    · have P := N p (List.mem_append_right _ (.tail _ q))
      exact ⟨k _ _ (by simpa using b p q) P.1, P.2⟩
theorem not_two {h₀ h : Heap} {L a b : Addr} {oa ob : Obj} {news : List (Addr × Obj)} (N : News h₀ L h news) (h1 : (a, oa) ∈ news) (h2 : (b, ob) ∈ news) : L ∉ [a, b] := by
  simp only [List.mem_cons, List.not_mem_nil, or_false]
  rintro (rfl | rfl)
  · exact (N _ h1).2.1 rfl
  · exact (N _ h2).2.1 rfl
theorem none_two {h₀ h : Heap} {L a b : Addr} {oa ob : Obj} {news : List (Addr × Obj)} (N : News h₀ L h news) (h1 : (a, oa) ∈ news) (h2 : (b, ob) ∈ news) : ∀ x ∈ [a, b], h₀.get? x = none := by
  simp only [List.mem_cons, List.not_mem_nil, or_false]
  rintro x (rfl | rfl)
  · exact (N _ h1).2.2
  · exact (N _ h2).2.2
theorem none_one {h₀ h : Heap} {L a : Addr} {oa : Obj} {news : List (Addr × Obj)} (N : News h₀ L h news) (h1 : (a, oa) ∈ news) : ∀ x ∈ [a], h₀.get? x = none := by
  simp only [List.mem_cons, List.not_mem_nil, or_false]
  rintro x rfl
  exact (N _ h1).2.2
theorem not_one {h₀ h : Heap} {L a : Addr} {oa : Obj} {news : List (Addr × Obj)} (N : News h₀ L h news) (h1 : (a, oa) ∈ news) : L ∉ [a] := by
  simp only [List.mem_cons, List.not_mem_nil, or_false]
  rintro rfl
  exact (N _ h1).2.1 rfl
theorem new_two {s : Shared} {g : Heap} {T a b : Addr} (hg : ∀ b' o, s.heap.get? b' = some o → b' ∉ [a, b] → g.get? b' = some o) (hn : g.get? T = none) (h1 : T ≠ a) (h2 : T ≠ b) : s.heap.get? T = none := by
  cases e : s.heap.get? T with
  | none => rfl
  | some o =>
    rw [hg T o e (by simp [h1, h2])] at hn; cases hn
theorem wpAt_id {α : Type} {M : Model} {A : Around} {c : Code} {t : Sem α} {Q : α → Shared → Prop} {E : Value → Shared → Prop} {s : Shared} (h : _root_.PySem.wpAt M A c t Q E s) : _root_.PySem.wpAt M A c t Q E s := h
end

section
open PySem PySem.W PySem.Spec PySem.Calls PyProof.Rows PyProof.V PySem.SeqAt

/-- an object of any class that holds a row of values -/
noncomputable def IsSq (h : Heap) (l : Addr) (items : Array Value) : Prop := ∃ o, h.get? l = some o ∧ ∃ n, o.data = .seq items n
theorem IsSq.at {h h' : Heap} {l : Addr} {items : Array Value} (x : IsSq h l items) (e : ∀ o, h.get? l = some o → h'.get? l = some o) : IsSq h' l items := let ⟨o, ho, r⟩ := x; ⟨o, e o ho, r⟩

section
variable {prog : Program} {w : World} {A : Around} {E : Value → Shared → Prop} {s : Shared}
theorem sq_next {it l : Addr} {i : Nat} {items : Array Value} {x : Value} {Q : Option Value → Shared → Prop} (hit : s.heap.IsListIter it l i)
    (hl : IsSq s.heap l items) (hx : items[i]? = some x)
    (hQ : ∀ h', h'.IsListIter it l (i + 1) → Heap.SameBut it s.heap h' → Q (some x) { s with heap := h' }) :
    wpAny (model prog w) A (pyNext (.ref it)) Q E s := by
  obtain ⟨o, ho, hc, hd⟩ := id hit
  obtain ⟨ol, hol, nl, hdl⟩ := hl
  unfold pyNext
  refine wpAny_bind (wpAny_attempt (wpAny_callSpecial?_slot (name := Str.ofString "__next__") hit.typeIs slot_listiter_next
    (wpAny_call_entry slot_listiter_next hit.typeIs entry_listiter_next ?_ (args_listiter_next _))))
  show wpAny _ _ (field (.ref it) 0 >>= _) _ _ s
  refine wpAny_bind (wpAny_field ho hd (x := .ref l) rfl ?_)
  show wpAny _ _ (if (Value.ref l == Value.none) = true then _ else _) _ _ s
  rw [if_neg (show ¬ ((Value.ref l == Value.none) = true) from Bool.false_ne_true)]
  show wpAny _ _ (field (.ref it) 1 >>= _) _ _ s
  refine wpAny_bind (wpAny_field ho hd (x := .int i 0) rfl ?_)
  show wpAny _ _ (seqItems? (.ref l) >>= _) _ _ s
  refine wpAny_bind (wpAny_seqItems hol hdl ?_)
  simp only [Int.toNat_natCast, hx]
  refine wpAny_bind (wpAny_setField ho hd (by simp) (wpAny_pure ⟨x, rfl, wpAny_pure (hQ _ ?_ (Heap.SameBut.update ..))⟩))
  exact ⟨_, Heap.get?_update_self _ ho (Obj.isFreed_of_fields (Obj.data_mapFields hd _)), (Obj.cls_mapFields ..).trans hc, by
    rw [Obj.data_mapFields hd]; simp [rawInt]⟩
theorem sq_end {it l : Addr} {i : Nat} {items : Array Value} {Q : Option Value → Shared → Prop} (hh : A.handled = none) (hit : s.heap.IsListIter it l i)
    (hl : IsSq s.heap l items) (hx : items[i]? = none)
    (hQ : ∀ h', Heap.ExtBut it s.heap h' → Q none { s with heap := h' }) :
    wpAny (model prog w) A (pyNext (.ref it)) Q E s := by
  obtain ⟨o, ho, hc, hd⟩ := id hit
  obtain ⟨ol, hol, nl, hdl⟩ := hl
  unfold pyNext
  refine wpAny_bind (wpAny_attempt (wpAny_callSpecial?_slot (name := Str.ofString "__next__") hit.typeIs slot_listiter_next
    (wpAny_call_entry slot_listiter_next hit.typeIs entry_listiter_next ?_ (args_listiter_next _))))
  show wpAny _ _ (field (.ref it) 0 >>= _) _ _ s
  refine wpAny_bind (wpAny_field ho hd (x := .ref l) rfl ?_)
  show wpAny _ _ (if (Value.ref l == Value.none) = true then _ else _) _ _ s
  rw [if_neg (show ¬ ((Value.ref l == Value.none) = true) from Bool.false_ne_true)]
  show wpAny _ _ (field (.ref it) 1 >>= _) _ _ s
  refine wpAny_bind (wpAny_field ho hd (x := .int i 0) rfl ?_)
  show wpAny _ _ (seqItems? (.ref l) >>= _) _ _ s
  refine wpAny_bind (wpAny_seqItems hol hdl ?_)
  simp only [Int.toNat_natCast, hx]
  refine wpAny_bind (wpAny_rule (wpAny_bind (wpAny_setField ho hd (by simp) ?_)))
  show wpAny _ _ (newExc (.type "StopIteration") [] >>= _) _ _ _
  refine wpAny_bind ?_
  simp only [newExc, newTuple]
  refine wpAny_bind (wpAny_newObj_type ?_ (by size_fits))
  refine wpAny_bind (m := firstArgMember _ _) (wpAny_of_eq (a := Value.none) (by first | rfl | (simp only [firstArgMember]; rfl)) ?_)
  refine wpAny_newObj_type ?_ (by size_fits)
  dsimp only
  refine wpAny_bind (wpAny_handled ?_)
  rw [show A.in1.handled = none from hh]
  refine wpAny_bind (wpAny_pure (wpAny_throw ?_))
  refine wpAny_bind (wpAny_isInstance (T := "StopIteration") (b := true) ⟨_, Heap.get?_push_size _ rfl, rfl⟩ isSubtype_stop ?_)
  exact wpAny_pure (hQ _ (((Heap.SameBut.update ..).extBut.push _).push _))
theorem sq_walksU (hh : A.handled = none) (I ax : Addr) (hne : ax ≠ I) (items : Array Value) (Ts : Nat → Addr) (vals : Nat → Array Value)
    (hit : ∀ j, j < items.size → items[j]? = some (.ref (Ts j))) (hTI : ∀ j, j < items.size → Ts j ≠ I) :
    WalksU prog w A I (I :: ax :: (List.range items.size).map Ts) [I] items.size (fun j v => v = vals j)
      (fun j h => h.IsListIter I ax j ∧ IsSq h ax items ∧ ∀ k, k < items.size → h.IsTuple (Ts k) (vals k))
      (fun j T h => (j < items.size ∧ T = Ts j) ∧ h.IsListIter I ax (j + 1) ∧ IsSq h ax items ∧ ∀ k, k < items.size → h.IsTuple (Ts k) (vals k)) where
  sub := fun b hb => by simp at hb; simp [hb]
  frame := fun _ _ _ st hk => ⟨st.1.at fun o e => hk I (by simp) o e, st.2.1.at fun o e => hk ax (.tail _ (.head _)) o e,
    fun k hk' => (st.2.2 k hk').at fun o e => hk (Ts k) (List.mem_cons_of_mem _ (List.mem_cons_of_mem _ (List.mem_map.mpr ⟨k, List.mem_range.mpr hk', rfl⟩))) o e⟩
  item := fun i s Q E hi st hQ => by
    refine sq_next st.1 st.2.1 (x := .ref (Ts i)) (hit i hi) fun h' hit' hs' => ?_
    have tup : ∀ k, k < items.size → h'.IsTuple (Ts k) (vals k) := fun k hk' => (st.2.2 k hk').extBut hs'.extBut (hTI k hk')
    exact hQ (Ts i) (vals i) h' s.toks rfl (tup i hi) ⟨⟨hi, rfl⟩, hit', st.2.1.at (fun o e => hs'.extBut ax o hne e), tup⟩ fun b o hb e => hs'.extBut b o (fun h => hb (by simp [h])) e
  go := fun _ _ _ _ _ s Q _ hm hQ => wpAny_letOwnedTupleGo_listiter hm.2.1 (hQ s.heap hm.2 fun _ _ _ e => e)
  apart := fun j T _ hm hmem => by
    rcases List.mem_cons.mp hmem with e | e
    · exact hTI j hm.1.1 (hm.1.2 ▸ e)
    · cases e
  done := fun s Q E st hQ => sq_end hh st.1 st.2.1 (by simp) fun h' he' => hQ h' s.toks fun b o hb e => he' b o (fun h => hb (by simp [h])) e
  self := fun _ _ _ _ st hQ => wpAny_pyIter_listiter st.1 hQ
end
end

section
open PySem PySem.W PySem.Spec PySem.Calls PyProof.Rows PyProof.V PySem.SeqAt
section
variable {prog : Program} {w : World} {A : Around} {E : Value → Shared → Prop} {s : Shared} {K : Frag} {x : Addr} {od : Option Obj} {ox : Obj}
theorem pyIter_acc {items : Array Value} {n : Nat} {Q : Value → Shared → Prop} (X : K.In s.heap) (I : InstAt s.heap x ox 199 od) (hd : ox.data = .seq items n) (hi : findIn K (.ref 199) "__iter__" = some (some (.builtin "list.__iter__"))) (hs : subIn K (.ref 199) (.type "list") = some true)
    (hQ : Q (.ref s.heap.objs.size) { s with heap := s.heap.push { cls := .type "list_iterator", data := .fields #[.ref x, .int 0 0] } }) :
    wpAny (model prog w) A (pyIter (.ref x)) Q E s := by
  have L1 : Looks (model prog w) s.heap (specialOf (.ref x) "__iter__") (some (.builtin "list.__iter__")) := I.type.andThen (looks_findIn X hi)
  have L4 : Looks (model prog w) s.heap (isInstance (.ref x) (.type "list")) true := I.type.andThen (looks_subIn X hs)
  unfold pyIter
  refine wpAny_bind (L1.here ?_)
  refine wpAny_bind ?_
  have hc : wpAny (model prog w) A (call (.builtin "list.__iter__") [.ref x]) (fun v s' => v = .ref s.heap.objs.size ∧ s' = { s with heap := s.heap.push { cls := .type "list_iterator", data := .fields #[.ref x, .int 0 0] } }) E s := by
    refine acc_call (n := "__iter__") (.inl (by kernel_rfl)) (by kernel_rfl) (by decide +kernel) _root_.PySem.F.entry_list_iter (by unfold argsOk; kernel_rfl) L4 ?_
    show wpAny _ _ (do ret (← newFields "list_iterator" [.ref x, rawInt 0])) _ _ s
    exact wpAny_bind (wpAny_newObj_type (wpAny_pure ⟨_, rfl, rfl, rfl⟩))
  simp only [callSpecialIfBoundUnlessNone?]
  refine wpAny_holding (wpAny_bind (wpAny_bind (L1.here ?_)))
  dsimp only [_root_.PySem.F.slot_list_iter.bind]
  refine wpAny_bind (wpAny_askSetting (wpAny_ite ?_))
  have fin : ∀ (refuse : Sem Value) (f : Option Value → Sem Value), wpAny (model prog w) A (f (some (.ref s.heap.objs.size))) Q E { s with heap := s.heap.push { cls := .type "list_iterator", data := .fields #[.ref x, .int 0 0] } } →
      wpAny (model prog w) A (if (Value.builtin "list.__iter__" == Value.none) = true then (refuse >>= fun v => pure (some v)) else (call (.builtin "list.__iter__") [.ref x] >>= fun v => pure (some v))) (fun a s' => wpAny (model prog w) A (f a) Q E s') E s := by
    intro refuse f hf
    rw [if_neg (by decide)]
    refine wpAny_bind (wpAny_mono hc (fun v s' h' => ?_) fun _ _ z => z)
    obtain ⟨rfl, rfl⟩ := h'
    exact wpAny_pure hf
  have end' : ∀ (z : Sem Value), wpAny (model prog w) A (specialOf (.ref s.heap.objs.size) "__next__" >>= fun r => match r with | none => z | some _ => pure (.ref s.heap.objs.size)) Q E { s with heap := s.heap.push { cls := .type "list_iterator", data := .fields #[.ref x, .int 0 0] } } :=
    fun z => wpAny_bind (wpAny_specialOf (T := "list_iterator") ⟨_, Heap.get?_push_size _ rfl, rfl⟩ slot_listiter_next.lookup (wpAny_pure hQ))
  split
  · refine wpAny_bind (wpAny_pure (wpAny_pure ?_))
    refine fin _ _ ?_
    exact end' _
  · refine wpAny_tryCatch (wpAny_bind (wpAny_pure (wpAny_pure ?_)))
    refine fin _ _ ?_
    exact end' _
end
end

section
open PySem PySem.W PySem.Spec PySem.Calls PyProof.Rows PyProof.V PySem.SeqAt

noncomputable def valUp (z : Int) (val : Nat → Int) : Nat → Int | 0 => z | j + 1 => val j
theorem preSum_up (z : Int) (val : Nat → Int) : ∀ n, preSum (valUp z val) (n + 1) = z + preSum val n
  | 0 => by simp [preSum, valUp]
  | n + 1 => by rw [preSum, preSum_up z val n, preSum]; simp only [valUp]; (first | lia | omega)
theorem walks_up {prog : Program} {w : World} {A : Around} {I : Addr} {fp wr : List Addr} {G : Array GenState → Array GenState → Prop} {n : Nat} {P : Nat → Value → Prop} {St : Nat → Shared → Prop} (W : WalksS prog w A I fp wr G n P St) :
    WalksS prog w A I fp wr G (n + 1) (fun j v => match j with | 0 => False | j + 1 => P j v) (fun j s => match j with | 0 => False | j + 1 => St j s) where
  sub := W.sub
  grefl := W.grefl
  gtrans := W.gtrans
  frame := fun i s h' tk st ht hk => by
    cases i with
    | zero => exact st
    | succ i => exact W.frame i s h' tk st ht hk
  item := fun i s Q E hi st hQ => by
    cases i with
    | zero => exact st.elim
    | succ i => exact W.item i s Q E (by (first | lia | omega)) st fun v s' hp hs hm => hQ v s' hp hs hm
  done := fun s Q E st hQ => W.done s Q E st hQ
  self := fun i s Q E st hQ => by
    cases i with
    | zero => exact st.elim
    | succ i => exact W.self i s Q E st hQ

section
variable {prog : Program} {w : World} {A : Around} {E : Value → Shared → Prop} {s : Shared} {h₀ : Heap} {L K a : Addr} {m : Str → Option Value} {n : Nat} {F : Nat → Value → Prop}
theorem sum_start {z : Int} {tz : Tok} {Q : Value → Shared → Prop} (Fh : Fr h₀ L s.heap m) (G : AllBare s.gens) (X : Gen prog w A K a n F s) (hLK : L ≤ K) (val : Nat → Int) (hval : ∀ j v, F j v → ∃ t, v = .int (val j) t) (hz : InLong z) (hfit : ∀ j, j < n → InLong (val j) ∧ InLong (z + preSum val (j + 1)))
    (hQ : ∀ s' t', Fr h₀ L s'.heap m → AllBare s'.gens → s'.os = s.os → s'.drawn = s.drawn → (∀ b o, b ≤ K → s.heap.get? b = some o → s'.heap.get? b = some o) → Q (.int (z + preSum val n) t') s') : wpAny (model prog w) A (call (.builtin "sum") [.ref a, .int z tz]) Q E s := by
  obtain ⟨fp, wr, g, St, W, hst, _, _, hfp, hwr⟩ := X
  have W := W.in4_1
  refine call_function_tree _root_.PySem.F.kind_sum _root_.PySem.F.plain_sum _root_.PySem.F.entry_sum (by unfold argsOk; kernel_rfl) ?_
  unfold Builtin.«sum»
  dsimp only [List.length_cons, List.length_nil]
  rw [if_neg (by decide)]
  refine wpAny_bind (wpAny_of_eq (show Builtin.Builtins.bindParams "sum" ["start"] 0 { pos := [.int z tz], kw := [] } = pure [some (.int z tz)] from rfl) ?_)
  refine wpAny_bind (W.self 0 _ _ _ hst ?_)
  have hfit2 : (decide (-(2 ^ 63) ≤ z) && decide (z < 2 ^ 63)) = true := by
    simp only [Bool.and_eq_true, decide_eq_true_eq]; exact hz
  show wpAny _ _ (if (decide (-(2 ^ 63) ≤ z) && decide (z < 2 ^ 63)) = true then _ else _) _ _ _
  rw [if_pos hfit2]
  refine wpAny_bind (wpAny_rule (wpAny_bind (wpAny_mkInt ?_)))
  refine wpAny_bind (wpAny_pure ?_)
  dsimp only [List.forIn_cons, List.forIn_nil]
  refine wpAny_bind (wpAny_bind (wpAny_bind (wpAny_isInstance (T := "int") (b := false) (typeIs_int _ _ _) _root_.PySem.sub_int_str ?_)))
  simp only [Bool.false_eq_true, if_false]
  refine wpAny_pure (wpAny_bind (wpAny_bind (wpAny_isInstance (T := "int") (b := false) (typeIs_int _ _ _) _root_.PySem.sub_int_bytes ?_)))
  simp only [Bool.false_eq_true, if_false]
  refine wpAny_pure (wpAny_bind (wpAny_bind (wpAny_isInstance (T := "int") (b := false) (typeIs_int _ _ _) _root_.PySem.sub_int_bytearray ?_)))
  simp only [Bool.false_eq_true, if_false]
  refine wpAny_pure (wpAny_pure ?_)
  refine wpAny_bind (wpAny_newObj_type ?_)
  have hSf : s.heap.objs.size ∉ fp := fun hm => Nat.lt_irrefl _ (hfp _ hm)
  have WU := walks_up W
  refine wpAny_pure ⟨plainId_quiet _root_.PySem.F.plain_sum_loop _, codeAny_sum_loopS WU (valUp z val) (fun i v hp => ?_) (fun j hj => ?_) s.heap.objs.size hSf n 1 _ s.toks 0 (by (first | lia | omega)) (by (first | lia | omega))
    (WU.frame 1 s _ _ hst (by first | exact Nat.le_refl _ | exact Nat.le_succ _ | (first | lia | omega)) fun b _ o e => Heap.get?_push_of_some _ e) (by rw [show preSum (valUp z val) 1 = z by simp [preSum, valUp]]; exact Heap.get?_push_at rfl rfl) fun s' t' hm => ?_⟩
  · cases i with
    | zero => exact hp.elim
    | succ i => exact hval i v hp
  · cases j with
    | zero => exact ⟨hz, by simpa [preSum, valUp] using hz⟩
    | succ j => rw [preSum_up]; exact hfit j (by (first | lia | omega))
  · rw [preSum_up]
    have hm := hm.drop_new (by first | exact Nat.le_refl _ | exact Nat.le_succ _ | (first | lia | omega))
    exact hQ s' t' (Fh.moved hm fun b hb => Nat.lt_of_le_of_lt hLK (hwr b hb)) (G.movedS hm) hm.os hm.drawn fun b o hb e => hm.heap b o (fun hmem => Nat.lt_irrefl _ (Nat.lt_of_lt_of_le (hwr b hmem) hb)) e
end
end

section
open PySem PySem.W PySem.Spec PySem.Calls PyProof.Rows PyProof.V PySem.SeqAt

theorem passing_all (n : Nat) : passing (fun _ => true) n 0 = List.range n := by
  unfold passing; simp
theorem passing_all_at {n j i : Nat} (h : (passing (fun _ => true) n 0)[j]? = some i) : i = j := by
  rw [passing_all] at h
  obtain ⟨hj, e⟩ := List.getElem?_eq_some_iff.mp h
  simpa using e.symm

theorem WalksS.mono_P {prog : Program} {w : World} {A : Around} {I : Addr} {fp wr : List Addr} {G : Array GenState → Array GenState → Prop} {n : Nat} {P P' : Nat → Value → Prop} {St : Nat → Shared → Prop} (W : WalksS prog w A I fp wr G n P St) (hp : ∀ j v, P j v → P' j v) :
    WalksS prog w A I fp wr G n P' St where
  sub := W.sub
  grefl := W.grefl
  gtrans := W.gtrans
  frame := W.frame
  item := fun i s Q E hi st hQ => W.item i s Q E hi st fun v s' h hs hm => hQ v s' (hp _ _ h) hs hm
  done := W.done
  self := W.self
section
variable {prog : Program} {w : World} {A : Around} {E : Value → Shared → Prop} {s : Shared} {g : Heap} {L x cc P bm : Addr} {m mg : Str → Option Value} {K : Frag} {ps : Array Value} {ob ox : Obj} {od : Option Obj} {n : Nat}
/-- a generator over an object of the list class whose items are pairs; its code may lie in the table already -/
theorem genexp_acc {env : Env} {elt iter : Expr} {xa xb : Str} {pa pb pt : Pos} {kt : Nat} {scope : Scope} {cl : List (Str × Addr)} {pos : Pos} {Q : Value → Shared → Prop} {tvs : List (Addr × Value × Value)}
    (F : Fr g L s.heap m) (G : AllBare s.gens) (X : K.In g) (M : BMod g env.globals mg bm ob) (hcode : env.code = .ref cc) (hIs : s.heap.IsCode cc P ps) (hTab : s.heap.TableAt cc P ps) (hP : g.get? P = none) (hPL : P ≠ L)
    (hh : A.handled = none) (hco : scope.isCoroutine = false) (hclos : closureFor scope env = pure cl) (hcell : ∀ y ∈ scope.names, y.2 ≠ .cell) (h0 : scope.names.lookup (".0" : Str) = some NameKind.local)
    (hxa : scope.names.lookup xa = some .local) (hxb : scope.names.lookup xb = some .local) (hab : xa ≠ xb) (hkind : scope.kind = .function) (hroom : A.depth < recursionLimit)
    (hiter : ∀ Q E, Q (.ref x) s → wpAny (model prog w) A (eval iter env) Q E s)
    (I : InstAt s.heap x ox 199 od) (hd : ox.data = .seq (tvs.map fun t => Value.ref t.1).toArray n) (hi : findIn K (.ref 199) "__iter__" = some (some (.builtin "list.__iter__"))) (hs : subIn K (.ref 199) (.type "list") = some true)
    (ht : ∀ t ∈ tvs, s.heap.IsTuple t.1 #[t.2.1, t.2.2]) (hlim : s.heap.NoLimit) (Fy : Nat → Value → Prop)
    (hps : codeAmong pos ps.toList = none ∨ ∃ c', codeAmong pos ps.toList = some (.ref c'))
    (hel : ∀ (c' C : Addr) (A' : Around) E' i va vb (t : Shared) m₂, A'.handled = none → A'.depth ≤ A.depth + 1 → A'.units ≤ A.units + 8 → (∃ T, tvs[i]? = some (T, va, vb)) → Fr g C t.heap m₂ → m₂ xa = some va → m₂ xb = some vb →
      wpAny (model prog w) A' (eval elt (genEnv scope cl C (.ref c') builtinsNs env)) (fun y s₃ => Fy i y ∧ PySem.Keeps t s₃) E' t)
    (post : ∀ a s₅ ps', s₅.heap.IsCode cc P ps' → s₅.heap.TableAt cc P ps' → (ps' = ps ∧ (∃ c', codeAmong pos ps.toList = some (.ref c')) ∨ codeAmong pos ps.toList = none ∧ ∃ c', ps' = ps ++ #[rawInt pos.line, rawInt pos.col, .ref c']) → Fr g L s₅.heap m → AllBare s₅.gens → s₅.os = s.os → s₅.drawn = s.drawn →
      (∀ b o, b ≠ P → s.heap.get? b = some o → s₅.heap.get? b = some o) → Gen prog w A L a tvs.length Fy s₅ → Q (.ref a) s₅)
    (hsf : ∀ x, genFold iter env x = pure x) :
    wpAny (model prog w) A (eval (.GeneratorExp elt [⟨.Tuple [.Name xa pa, .Name xb pb] kt pt, iter, [], 0⟩] scope pos) env) Q E s := by
  refine wpAny_GeneratorExp_walksQTD hh hco hclos hcell h0 hxa hxb hab hkind hroom (hiter _ _ (pyIter_acc (X.keeps F.keep) I hd hi hs ⟨hlim.push _, ?_⟩)) hsf
  -- the state behind iter()
  have up : ∀ b o, s.heap.get? b = some o → (s.heap.push { cls := .type "list_iterator", data := .fields #[.ref x, .int 0 0] }).get? b = some o := fun b o e => Heap.get?_push_of_some _ e
  have hPlt : P < s.heap.objs.size := Heap.lt_size hTab.2
  -- the code is found or made
  refine wpAny_mono (Q := fun code s₃ => ∃ (c' : Addr) (h₃ : Heap) (tk₃ : Nat) (ps' : Array Value), code = .ref c' ∧ s₃ = { s with heap := h₃, toks := tk₃ } ∧
      (∀ b o, b ≠ P → (s.heap.push { cls := .type "list_iterator", data := .fields #[.ref x, .int 0 0] }).get? b = some o → h₃.get? b = some o) ∧ s.heap.objs.size + 1 ≤ h₃.objs.size ∧ h₃.IsCode cc P ps' ∧ h₃.TableAt cc P ps' ∧
      (ps' = ps ∧ (∃ c', codeAmong pos ps.toList = some (.ref c')) ∨ codeAmong pos ps.toList = none ∧ ∃ c', ps' = ps ++ #[rawInt pos.line, rawInt pos.col, .ref c'])) (E := E) ?_ (fun code s₃ hc => ?_) fun _ _ e => e
  · rcases hps with hnf | ⟨c', hf⟩
    · refine wpAny_genexprCodeX hcode (hIs.keeps up) (hTab.push _) hnf fun c' h₃ tk₃ hx₃ hge hlt hcode₃ _ htab₃ _ => ?_
      refine ⟨c', h₃, tk₃, _, rfl, rfl, fun b o hb e => hx₃ b o hb e, ?_, hcode₃, htab₃, .inr ⟨hnf, c', rfl⟩⟩
      rw [← Heap.size_push]; exact Nat.le_trans hge (Nat.le_of_lt hlt)
    · refine wpAny_genexprCode_hit hcode (hIs.keeps up) hf ?_
      exact ⟨c', _, s.toks, ps, rfl, rfl, fun b o _ e => e, Nat.le_of_eq (Heap.size_push ..).symm, hIs.keeps up, hTab.push _, .inl ⟨rfl, c', hf⟩⟩
  obtain ⟨c', h₃, tk₃, ps', rfl, rfl, hx₃, hsz, hcode₃, htab₃, hps'⟩ := hc
  have hold : ∀ b o, b ≠ P → s.heap.get? b = some o → h₃.get? b = some o := fun b o hb e => hx₃ b o hb (up b o e)
  have gK : ∀ b o, g.get? b = some o → h₃.get? b = some o := fun b o e => hold b o (fun q => by rw [q, hP] at e; cases e) (F.keep b o e)
  have F₃ : Fr g L h₃ m := by
    obtain ⟨oL, es, ep, e, r⟩ := F.ns
    exact ⟨⟨oL, es, ep, hold _ _ (Ne.symm hPL) e, r⟩, gK, F.above⟩
  have M₃ : BMod h₃ env.globals mg bm ob := M.keeps gK
  have hcP : cStatics ≠ P := fun e => by
    obtain ⟨_, hns, _⟩ := hlim
    obtain ⟨o, es, ep, ho, hd, _⟩ := hns
    rw [e, hTab.2] at ho; cases ho; cases hd
  have hl₃ : h₃.NoLimit := by
    obtain ⟨a, hns, r⟩ := hlim
    exact ⟨a, hns.at fun o e => hold _ o hcP e, r⟩
  let Ts : Nat → Addr := fun j => (tvs[j]?.map fun t => t.1).getD 0
  let vals : Nat → Array Value := fun j => (tvs[j]?.map fun t => (#[t.2.1, t.2.2] : Array Value)).getD #[.none, .none]
  have hsize : (tvs.map fun t => Value.ref t.1).toArray.size = tvs.length := by simp
  have at' : ∀ j, j < tvs.length → ∃ t, tvs[j]? = some t ∧ t ∈ tvs := fun j hj => ⟨tvs[j], by simp [hj], List.getElem_mem hj⟩
  have hTs : ∀ j, j < (tvs.map fun t => Value.ref t.1).toArray.size → s.heap.IsTuple (Ts j) (vals j) := fun j hj => by
    obtain ⟨t, e, hm⟩ := at' j (hsize ▸ hj)
    simp only [Ts, vals, e, Option.map_some, Option.getD_some]; exact ht t hm
  have hTlt : ∀ j, j < (tvs.map fun t => Value.ref t.1).toArray.size → Ts j < s.heap.objs.size := fun j hj => by obtain ⟨_, e, _⟩ := hTs j hj; exact Heap.lt_size e
  have hit : ∀ j, j < (tvs.map fun t => Value.ref t.1).toArray.size → (tvs.map fun t => Value.ref t.1).toArray[j]? = some (.ref (Ts j)) := fun j hj => by
    obtain ⟨t, e, _⟩ := at' j (hsize ▸ hj)
    simp [Ts, e]
  have hxlt : x < s.heap.objs.size := Heap.lt_size I.at_
  have hTP : ∀ j, j < (tvs.map fun t => Value.ref t.1).toArray.size → Ts j ≠ P := fun j hj e => by
    obtain ⟨o, ho, hc, _⟩ := hTs j hj
    rw [e, hTab.2] at ho; cases ho; exact absurd hc (by simp)
  have hxP : x ≠ P := fun e => by
    have q := I.at_
    rw [e, hTab.2] at q; cases q; cases hd
  have W := fun (A' : Around) (hA : A'.handled = none) => (sq_walksU (prog := prog) (w := w) hA s.heap.objs.size x (Nat.ne_of_lt hxlt) (tvs.map fun t => Value.ref t.1).toArray Ts vals hit fun j hj => Nat.ne_of_lt (hTlt j hj)).bound
  have hLlt : L < s.heap.objs.size := F.ns.lt
  have hcw : cStatics ∉ [s.heap.objs.size] := fun hm => by
    obtain ⟨_, hns, _⟩ := hlim
    have := hns.lt
    rw [List.mem_singleton] at hm
    exact Nat.lt_irrefl _ (hm ▸ this)
  refine wpAny_builtinsFor M₃.ns M₃.name M₃.ne M₃.obj M₃.cls M₃.dict M₃.data ?_
  refine ⟨s.heap.objs.size, _, _, _, _, _, _, fun _ => true, Fy, rfl, W, (fun i v hv => ?_), ⟨?_, ?_, ?_⟩, ?_, hl₃, hcw, fun href hhref => ?_, fun a h₅ tk gs hgb hag hsz₅ hk₅ W' hat => ?_⟩
  · rcases hv with ⟨hi', rfl⟩
    obtain ⟨t, et, _⟩ := at' i (hsize ▸ hi')
    exact ⟨t.2.1, t.2.2, by simp [vals, et]⟩
  · refine ⟨_, hx₃ _ _ (fun e => Nat.lt_irrefl _ (e ▸ hPlt)) (Heap.get?_push_size _ rfl), rfl, rfl⟩
  · exact ⟨_, hold _ _ hxP I.at_, _, hd⟩
  · exact fun k hk => (hTs k hk).at fun o e => hold _ o (hTP k hk) e
  · intro b hb
    refine Nat.lt_of_lt_of_le ?_ hsz
    rcases List.mem_cons.mp hb with rfl | hb
    · exact Nat.lt_succ_self _
    · rcases List.mem_cons.mp hb with rfl | hb
      · exact Nat.lt_succ_of_lt hxlt
      · obtain ⟨k, hk, rfl⟩ := List.mem_map.mp hb
        exact Nat.lt_succ_of_lt (hTlt k (List.mem_range.mp hk))
  · refine ⟨fun A' E' i va vb t m₂ hA hD hU hP' hn hma hmb hkp => wpAny_pure ⟨rfl, ⟨t.heap, t.toks, rfl, fun _ _ e => e⟩⟩, fun A' E' i va vb t m₂ hA hD hU hP' hp hn hma hmb hkp => ?_⟩
    obtain ⟨hi', hv⟩ := hP'
    obtain ⟨T, et, _⟩ := at' i (hsize ▸ hi')
    have hv' : va = T.2.1 ∧ vb = T.2.2 := by
      simp only [vals, et, Option.map_some, Option.getD_some] at hv
      simpa using congrArg Array.toList hv
    obtain ⟨rfl, rfl⟩ := hv'
    refine hel c' h₃.objs.size A' E' i _ _ t m₂ hA hD hU ⟨T.1, et⟩ ⟨hn, fun b o e => ?_, Nat.le_trans F.above (Nat.le_of_lt (Nat.lt_of_lt_of_le hLlt (Nat.le_trans (Nat.le_succ _) hsz)))⟩ hma hmb
    refine hkp b (List.mem_range.mpr (Heap.lt_size (gK b o e))) (fun hm => ?_) o (hhref b o (gK b o e))
    rw [List.mem_singleton] at hm
    have q := Heap.lt_size (F.keep b o e)
    rw [hm] at q
    exact Nat.lt_irrefl _ q
  · have hn : (passing (fun _ => true) (tvs.map fun t => Value.ref t.1).toArray.size 0).length = tvs.length := by rw [passing_all, List.length_range, hsize]
    rw [hn] at W'
    refine post a _ ps' (hcode₃.keeps hk₅) (htab₃.keeps hk₅) hps' (F₃.keeps hk₅) (G.push hgb) rfl rfl (fun b o hb e => hk₅ b o (hold b o hb e)) ?_
    refine ⟨_, _, _, _, WalksS.mono_P W' ?_, hat, (fun i s' st => st.1.typeIs), List.mem_cons_self, ?_, ?_⟩
    · rintro j v ⟨i, hi', hf⟩
      rw [passing_all_at hi'] at hf; exact hf
    · intro b hb
      show b < h₅.objs.size
      rw [hsz₅]
      rcases List.mem_cons.mp hb with rfl | hb
      · exact Nat.lt_succ_self _
      · rcases List.mem_cons.mp hb with rfl | hb
        · exact Nat.lt_succ_of_lt hag
        · exact Nat.lt_succ_of_lt (Nat.lt_trans (List.mem_range.mp hb) hag)
    · intro b hb
      rcases List.mem_cons.mp hb with rfl | hb
      · exact Nat.lt_of_lt_of_le hLlt (Nat.le_trans (Nat.le_succ _) hsz)
      · rw [List.mem_singleton] at hb
        rw [hb]; exact hLlt
end
end

section
open PySem PySem.W PySem.Spec PySem.Calls PyProof.Rows PyProof.V PySem.SeqAt

/-- the parts of a row: pairs of texts -/
inductive PartsAt (h : Heap) : List Value → List (Str × Str) → Prop
  | nil : PartsAt h [] []
  | cons {T : Addr} {a b : Str} {ta tb : Tok} {ps : List Value} {qs : List (Str × Str)} : IsTup h T #[.str a ta, .str b tb] → PartsAt h ps qs → PartsAt h (.ref T :: ps) ((a, b) :: qs)
theorem PartsAt.keep {h h' : Heap} {ps : List Value} {qs : List (Str × Str)} (x : PartsAt h ps qs) (k : ∀ T o, h.get? T = some o → o.cls = .type "tuple" → h'.get? T = some o) : PartsAt h' ps qs := by
  induction x with
  | nil => exact .nil
  | cons ht _ ih => obtain ⟨o, ho, hc, r⟩ := ht; exact .cons ⟨o, k _ _ ho hc, hc, r⟩ ih
theorem PartsAt.snoc {h : Heap} {ps : List Value} {qs : List (Str × Str)} {T : Addr} {a b : Str} {ta tb : Tok} (x : PartsAt h ps qs) (ht : IsTup h T #[.str a ta, .str b tb]) : PartsAt h (ps ++ [.ref T]) (qs ++ [(a, b)]) := by
  induction x with
  | nil => exact .cons ht .nil
  | cons ht' _ ih => exact .cons ht' ih
theorem PartsAt.length {h : Heap} {ps : List Value} {qs : List (Str × Str)} (x : PartsAt h ps qs) : ps.length = qs.length := by
  induction x with
  | nil => rfl
  | cons _ _ ih => simp [ih]
theorem PartsAt.tvs {h : Heap} {ps : List Value} {qs : List (Str × Str)} (x : PartsAt h ps qs) : ∃ tvs : List (Addr × Value × Value), ps = tvs.map (fun t => Value.ref t.1) ∧ tvs.length = qs.length ∧ (∀ t ∈ tvs, h.IsTuple t.1 #[t.2.1, t.2.2]) ∧
    (∀ (i : Nat) (T : Addr) (va vb : Value), tvs[i]? = some (T, va, vb) → ∃ (a b : Str) (ta tb : Tok), qs[i]? = some (a, b) ∧ va = Value.str a ta ∧ vb = Value.str b tb) := by
  induction x with
  | nil => exact ⟨[], rfl, rfl, (fun _ h => nomatch h), (fun i T va vb e => nomatch e)⟩
  | @cons T a b ta tb ps qs ht _ ih =>
    obtain ⟨tvs, e1, e2, e3, e4⟩ := ih
    refine ⟨(T, Value.str a ta, Value.str b tb) :: tvs, by simp [e1], by simp [e2], fun t hm => ?_, fun i T' va vb e => ?_⟩
    · rcases List.mem_cons.mp hm with rfl | hm
      · exact ht
      · exact e3 t hm
    · cases i with
      | zero => simp at e; obtain ⟨rfl, rfl, rfl⟩ := e; exact ⟨a, b, ta, tb, rfl, rfl, rfl⟩
      | succ i => exact e4 i T' va vb (by simpa using e)
noncomputable def partLen (qs : List (Str × Str)) : Int := (qs.map fun q => ((q.1.length : Int) + q.2.length)).sum

theorem news3 {s : Shared} {g h₁ : Heap} {L' : Addr} {a b c : Addr} {oa ob oc : Obj} (ha : s.heap.get? a = some oa) (hb : s.heap.get? b = some ob) (hc : s.heap.get? c = some oc) (k : Keeps s.heap h₁) (hn : ∀ x ∈ [a, b, c], g.get? x = none) (hL : L' = s.heap.objs.size) : News g L' h₁ [(a, oa), (b, ob), (c, oc)] := by
  intro p hp
  first | (rcases List.mem_cons.mp hp with rfl | hp) | (rcases List.mem_append.mp hp with hp | hp)
  · exact ⟨k _ _ ha, by rw [hL]; exact Nat.ne_of_lt (Heap.lt_size ha), hn _ (.head _)⟩
  first | (rcases List.mem_cons.mp hp with rfl | hp) | (rcases List.mem_append.mp hp with hp | hp)
  · exact ⟨k _ _ hb, by rw [hL]; exact Nat.ne_of_lt (Heap.lt_size hb), hn _ (.tail _ (.head _))⟩
  rcases List.mem_singleton.mp hp with rfl
  exact ⟨k _ _ hc, by rw [hL]; exact Nat.ne_of_lt (Heap.lt_size hc), hn _ (.tail _ (.tail _ (.head _)))⟩
/-- a table of nested code with at most one place -/
noncomputable abbrev tabObj (ps : Array Value) : Obj := { cls := .none, data := .fields ps }
noncomputable def TabSt (h : Heap) (P : Addr) (line col : Nat) : Prop := ∃ ps, h.get? P = some (tabObj ps) ∧ (ps = #[] ∨ ∃ c' : Addr, ps = #[rawInt line, rawInt col, .ref c'])
theorem code_tab {h : Heap} {cc P : Addr} {o : Obj} {vs ps : Array Value} {file : Str} {tf tg tt : Tok} {flags text : Int} {inF : Bool} {line col : Nat} (ho : h.get? cc = some o) (hc : o.cls = .type "code") (hd : o.data = .fields vs) (h11 : vs[11]? = some (.ref P)) (h18 : vs.getD 18 .none = .str file tf)
    (h7 : vs.getD 7 .none = .int flags tg) (h9 : vs.getD 9 .none = .bool inF) (h10 : vs.getD 10 .none = .int text tt) (hP : h.get? P = some (tabObj ps)) (hps : ps = #[] ∨ ∃ c' : Addr, ps = #[rawInt line, rawInt col, .ref c']) (hne : cc ≠ P) : h.IsCode cc P ps ∧ h.TableAt cc P ps := by
  have h11' : vs.getD 11 .none = .ref P := by rw [Array.getD_eq_getD_getElem?, h11]; rfl
  refine ⟨⟨o, vs, file, tf, flags, tg, inF, text, tt, _, ho, hd, h11', h18, h7, h9, h10, hP, rfl, ?_, hne⟩, ⟨o, vs, ho, hc, hd, h11⟩, hP⟩
  rcases hps with rfl | ⟨c', rfl⟩
  · trivial
  · simp [TriplesOk, rawInt]
theorem among_tab {ps : Array Value} {pos : Pos} (hps : ps = #[] ∨ ∃ c' : Addr, ps = #[rawInt pos.line, rawInt pos.col, .ref c']) : codeAmong pos ps.toList = none ∨ ∃ c' : Addr, codeAmong pos ps.toList = some (.ref c') := by
  rcases hps with rfl | ⟨c', rfl⟩
  · exact .inl rfl
  · refine .inr ⟨c', ?_⟩
    simp [codeAmong, rawInt]
theorem tab_after {ps ps' : Array Value} {pos : Pos} (hps : ps = #[] ∨ ∃ c' : Addr, ps = #[rawInt pos.line, rawInt pos.col, .ref c'])
    (h : ps' = ps ∧ (∃ c', codeAmong pos ps.toList = some (.ref c')) ∨ codeAmong pos ps.toList = none ∧ ∃ c', ps' = ps ++ #[rawInt pos.line, rawInt pos.col, .ref c']) : ps' = #[] ∨ ∃ c' : Addr, ps' = #[rawInt pos.line, rawInt pos.col, .ref c'] := by
  rcases h with ⟨rfl, _⟩ | ⟨hn, c', rfl⟩
  · exact hps
  · rcases hps with rfl | ⟨c'', rfl⟩
    · exact .inr ⟨c', rfl⟩
    · simp [codeAmong, rawInt] at hn
end

section
open PySem PySem.W PySem.Spec PySem.Calls PyProof.Rows PyProof.V PySem.SeqAt
section
variable {prog : Program} {w : World} {A : Around} {E : Value → Shared → Prop} {t : Shared} {g : Heap} {C : Addr} {m₂ mg mb : Str → Option Value} {K : Frag} {p : Program} {loose : List Str} {mean : ExcName → Option Value} {env : Env}
theorem gen_len {y a : Str} {ta : Tok} {p1 p2 pos : Pos} {Q : Value → Shared → Prop} (F : Fr g C t.heap m₂) (X : K.In g) (T : Top p loose mean mg mb g) (hn : nsIn K mainGlobals "len" = some none) (hk : env.scope.kind = .function) (hx : env.kindOf "len" = some .globalImplicit)
    (hg : env.globals = mainGlobals) (hbi : env.builtins = builtinsNs) (hy : env.kindOf y = some .local) (hlo : env.locals = C) (hm : m₂ y = some (.str a ta)) (hyd : (y == ("__debug__" : Str)) = false) (hboot : bootBuiltins "len" = some (.builtin "len")) (hfit : (a.length : Int) < 2 ^ 40) (h : ∀ k k', Q (.int a.length k) { t with toks := k' }) :
    wpAny (model prog w) A (eval (.Call (.Name "len" p1) [.Name y p2] [] pos) env) Q E t := by
  refine wpAny_Call_NameR ?_
  refine wpAny_Name ?_
  refine ks_loadName_global hk hx (loadGlobal_builtin (by rw [hg]; exact T.g.keeps F.keep) (mg_none_of X T.g hn) (by rw [hbi]; exact T.b.keeps F.keep) ((T.builtins _ (by decide +kernel)).trans hboot) ?_)
  refine PyProof.Rows.callWith_builtin1 ?_
  refine spliced_more ?_
  refine wpAny_Name ?_ hyd
  refine wpAny_loadName_local hk hy (by rw [hlo]; exact F.ns) hm ?_
  refine spliced_none ?_
  refine len_str (by (first | lia | omega)) ?_
  exact h _ _
end
theorem findObj_ini {K : Frag} {cd : ClassData} {hs : Int} {tk : Tok} {v : Value} (h1 : clsIn K 199 = some cd) (h3 : cd.hasDict = true) (h2 : findIn K (.ref 199) "_initial_size" = some none) : findObj K 199 (some (accDict hs tk v)) "_initial_size" = some (.value v) := by
  have e : W.ownOf cd (some (accDict hs tk v)) "_initial_size" = some (some v) := by
    unfold W.ownOf; rw [if_pos h3]; rfl
  unfold findObj
  rw [h1, Option.bind_some, h2, Option.bind_some]
  rw [e]; rfl
theorem geta_ini {prog : Program} {w : World} {A : Around} {E : Value → Shared → Prop} {s : Shared} {K : Frag} {x : Addr} {ox : Obj} {cd : ClassData} {hs : Int} {tk : Tok} {v : Value} {expr : Bool} {Q : Value → Shared → Prop} (h : Q v { s with toks := s.toks + 1 }) (X : autoParam (K.In s.heap) au8._auto_1) (I : autoParam (InstAt s.heap x ox 199 (some (accDict hs tk v))) au6._auto_1)
    (hga : autoParam (findIn K (.ref 199) "__getattribute__" = some (some (.builtin "list.__getattribute__"))) au7._auto_1) (hk : autoParam (findIn K (.ref 199) "__getattr__" = some none) au7._auto_1) (hsub : autoParam (subIn K (.ref 199) (.type "list") = some true) au7._auto_1)
    (h1 : autoParam (clsIn K 199 = some cd) au7._auto_1) (h3 : autoParam (cd.hasDict = true) au14._auto_1) (h2 : autoParam (findIn K (.ref 199) "_initial_size" = some none) au7._auto_1) (hh : autoParam (handedIn v = true) au1._auto_1) :
    wpAny (model prog w) A (getAttr (.ref x) "_initial_size" expr) Q E s := geta_acc X I hga hk hsub (findObj_ini h1 h3 h2) hh h
theorem partLen_cons (q : Str × Str) (qs : List (Str × Str)) : partLen (q :: qs) = ((q.1.length : Int) + q.2.length) + partLen qs := by simp [partLen]
theorem partLen_nonneg : ∀ qs : List (Str × Str), 0 ≤ partLen qs
  | [] => by simp [partLen]
  | q :: qs => by rw [partLen_cons]; have := partLen_nonneg qs; (first | lia | omega)
theorem partLen_mem : ∀ (qs : List (Str × Str)) (i : Nat) (a b : Str), qs[i]? = some (a, b) → (a.length : Int) + b.length ≤ partLen qs
  | [], i, a, b, h => nomatch h
  | q :: qs, 0, a, b, h => by simp at h; subst h; rw [partLen_cons]; have := partLen_nonneg qs; simp only; (first | lia | omega)
  | q :: qs, i + 1, a, b, h => by rw [partLen_cons]; have := partLen_mem qs i a b (by simpa using h); (first | lia | omega)
theorem gen_toks {prog : Program} {w : World} {A : Around} {K a : Addr} {n : Nat} {F : Nat → Value → Prop} {s : Shared} {tk : Tok} (X : Gen prog w A K a n F s) (h : s.toks ≤ tk) : Gen prog w A K a n F { s with toks := tk } := by
  obtain ⟨fp, wr, g, St, W, hst, ht, ha, hfp, hwr⟩ := X
  exact ⟨fp, wr, g, St, W, W.frame 0 s s.heap tk hst h (fun _ _ _ e => e), ht, ha, hfp, hwr⟩
noncomputable def lensOf (qs : List (Str × Str)) : List Int := qs.map fun q => ((q.1.length : Int) + q.2.length)
theorem lens_at {qs : List (Str × Str)} {i : Nat} {a b : Str} (h : qs[i]? = some (a, b)) : (lensOf qs).getD i 0 = (a.length : Int) + b.length := by
  simp [lensOf, List.getD_eq_getElem?_getD, h]
theorem lens_take (qs : List (Str × Str)) : ∀ j, 0 ≤ ((lensOf qs).take j).sum ∧ ((lensOf qs).take j).sum ≤ partLen qs := by
  induction qs with
  | nil => intro j; simp [lensOf, partLen]
  | cons q qs ih =>
    intro j
    rw [partLen_cons]
    have h0 := partLen_nonneg qs
    cases j with
    | zero => simp; (first | lia | omega)
    | succ j => have h := ih j; simp only [lensOf, List.map_cons, List.take_succ_cons, List.sum_cons] at h ⊢; (first | lia | omega)
theorem lens_getD (qs : List (Str × Str)) (j : Nat) : 0 ≤ (lensOf qs).getD j 0 ∧ (lensOf qs).getD j 0 ≤ partLen qs := by
  cases e : qs[j]? with
  | none => simp [lensOf, List.getD_eq_getElem?_getD, e]; exact partLen_nonneg qs
  | some q => obtain ⟨a, b⟩ := q; rw [lens_at e]; have := partLen_mem _ _ _ _ e; (first | lia | omega)
end

section
open PySem PySem.W PySem.Spec PySem.Calls PyProof.Rows PyProof.V PySem.SeqAt
section
variable {prog : Program} {w : World} {A : Around} {E : Value → Shared → Prop} {s : Shared} {h₀ : Heap} {L K a : Addr} {m : Str → Option Value} {n : Nat} {F : Nat → Value → Prop}
theorem join_drawn {sep : Str} {t : Tok} {Q : Value → Shared → Prop} (Fh : Fr h₀ L s.heap m) (G : AllBare s.gens) (X : Gen prog w A K a n F s) (hLK : L ≤ K) (tx : Nat → Str) (htx : ∀ j v, F j v → ∃ u, v = .str (tx j) u)
    (hok : JoinOk sep ((List.range n).map tx) = true)
    (hQ : ∀ s' t', Fr h₀ L s'.heap m → AllBare s'.gens → s'.os = s.os → s'.drawn = s.drawn → (∀ b o, b ≤ K → s.heap.get? b = some o → s'.heap.get? b = some o) → Q (.str (Txt.join sep ((List.range n).map tx)) t') s')
    (hsz : n ≤ sizeLine) : wpAny (model prog w) A (call (.builtin "str.join") [.str sep t, .ref a]) Q E s := by
  obtain ⟨fp, wr, g, St, W, hst, hT, ha, hfp, hwr⟩ := X
  have W := W.in4_2
  refine SC.joinGen W hT hst hfp ha (fun j v hv => let ⟨u, e⟩ := htx j v hv; ⟨_, u, e⟩) (fun s' lt hm hacc => ?_) hsz
  have hl : lt.map (·.1) = (List.range n).map tx := by
    have hlen : lt.length = n := by simpa [strValues] using hacc.1
    refine List.ext_getElem (by simp [hlen]) fun j h1 h2 => ?_
    have hj' : j < lt.length := by simpa using h1
    obtain ⟨u, hv⟩ := htx j _ (hacc.2 j (.str lt[j].1 lt[j].2) (by simp [strValues, List.getElem?_eq_getElem hj']))
    injection hv with e1 _
    simp [e1]
  rw [hl]
  have g1 := G.movedS hm
  have f1 := Fh.moved hm fun b hb => Nat.lt_of_le_of_lt hLK (hwr b hb)
  exact ⟨hok, fun t' k => hQ { s' with toks := k } t' f1 g1 hm.os hm.drawn
    (fun b o hb e => hm.heap b o (fun hmem => Nat.lt_irrefl _ (Nat.lt_of_lt_of_le (hwr b hmem) hb)) e)⟩
end
end

section
open PySem PySem.W PySem.Spec PySem.Calls PyProof.Rows PyProof.V PySem.SeqAt
/-- the text of a row -/
noncomputable def pairText (q : Str × Str) : Str := Txt.join (Str.ofString "") [q.1, q.2]
noncomputable def partText (qs : List (Str × Str)) : Str := Txt.join (Str.ofString "") (qs.map pairText)
theorem range_getD {β : Type} (l : List β) (d : β) : (List.range l.length).map (fun i => l.getD i d) = l := by
  apply List.ext_getElem
  · simp
  · intro i h1 h2
    simp [List.getD_eq_getElem?_getD, List.getElem?_eq_getElem h2]
theorem pair_at {qs : List (Str × Str)} {i : Nat} {a b : Str} (h : qs[i]? = some (a, b)) : (qs.map pairText).getD i (Str.ofString "") = Txt.join (Str.ofString "") [a, b] := by
  simp [List.getD_eq_getElem?_getD, h, pairText]
theorem pair_len (q : Str × Str) : (pairText q).length ≤ q.1.length + q.2.length := by
  have h := StrLaws.join_length_le (Str.ofString "") [q.1, q.2]
  have hz : (Str.ofString "").length = 0 := by decide
  have h2 : (Str.join (Str.ofString "") [q.1, q.2]).length ≤ q.1.length + q.2.length := by simpa [hz] using h
  exact h2
theorem pairs_weight : ∀ qs : List (Str × Str), ((((qs.map pairText).map (·.length)).sum : Nat) : Int) ≤ partLen qs
  | [] => by simp [partLen]
  | q :: qs => by
    have := pairs_weight qs
    have h := pair_len q
    rw [partLen_cons]
    simp only [List.map_cons, List.sum_cons] at this ⊢
    (first | lia | omega)
end

section
open PySem PySem.W PySem.Spec PySem.Calls PyProof.Rows PyProof.V PySem.SeqAt
local macro_rules | `(tactic| walk_at "getMethod ref") => `(tactic| (k_here; with_unfolding_all refine getm_acc (h := ?_)))
local macro_rules | `(tactic| k_inst) => `(tactic| exact inst_acc)
local macro_rules | `(tactic| walk_at "call builtin:list.append") => `(tactic| (k_here; refine append_accK (h := ?_); intro h' n' F' N'))

section
open PySem PySem.W PySem.Spec PySem.Calls PyProof.Rows
local macro_rules | `(tactic| walk_at "eval GeneratorExp") => `(tactic| (k_here; refine hold ?_))

theorem str_call {w : World} {A : Around} {s : Shared} {c dc : Addr} {ps : List Value} {qs : List (Str × Str)} {ep : Nat} {hs : Int} {tkd : Tok} {iv : Value} {tp : Array Value} {Q E : Value → Shared → Prop} (S : Site w 380 1800 [c, dc, 168] A s) (hb : AllBare s.gens) (hc : s.heap.get? c = some (accObj dc ps.toArray ep)) (hdc : s.heap.get? dc = some (accDict hs tkd iv)) (hp : PartsAt s.heap ps qs) (htp : s.heap.get? 168 = some (tabObj tp)) (htp2 : tp = #[] ∨ ∃ c' : Addr, tp = #[rawInt 147, rawInt 32, .ref c']) (hfit : partLen qs < 2 ^ 20) (hqs : qs.length ≤ sizeLine)
  (hret : ∀ t' h' gs tk', AllBare gs → KeepsBut [168] s.heap h' → TabSt h' 168 147 32 → Q (.str (partText qs) t') ⟨h', gs, s.drawn, tk', s.os⟩) :
    wpAny (model PySem.Challenge.rw_ty0042_01.row.prog w) A (call (.ref 173) [.ref c]) Q E s := by
  w_top off
  refine wpAny_call ?_
  refine' enterN _ S ?k6 ?k7 ?k8 ?k9 ?kB ?_ ?c5 ?c2 ?c3 ?c4
  case k6 => k_is
  case k7 => k_is
  case k8 => decide
  case k9 => exact BindsTo.of_eq rfl
  case kB => exact locs rfl
  case c2 => exact rfl
  case c3 => exact rfl
  case c4 => exact rfl
  case c5 => decide
  intro L cn cs a ccd cl' outer base g L' h₁ mg mb mean hke F N B KX T hg hgn hk1 hL
  try dsimp only
  try k_fold
  try (with_reducible refine wp_letA ?_; intro A9)

  refine gen_goal fun G9 hG9 => ?_
  obtain ⟨bm, ob, M⟩ := bmod_of_top T
  refine hG9 ?_
  clear hG9 G9
  refine gen_goal fun G9 hG9 => ?_
  obtain ⟨tvs, e1, e2, e3, e4⟩ := hp.tvs
  refine hG9 ?_
  clear hG9 G9
  subst e1
  have N1 : News g L' h₁ [(c, accObj dc (tvs.map (fun t => Value.ref t.1)).toArray ep), (dc, accDict hs tkd iv), (168, tabObj tp)] := news3 hc hdc htp hk1 hgn hL
  clear N
  have hneC : c ≠ 168 := by rintro rfl; rw [hc] at htp; cases htp
  have hneD : dc ≠ 168 := by rintro rfl; rw [hdc] at htp; cases htp
  try (with_reducible refine wp_letQ ?_; intro Qz1)
  k_steps
  unfold Hold
  (with_reducible rename Fr _ _ _ _ => F1)
  refine fr_let F1 ?_
  clear F1
  intro mz1x F1
  have ct := code_tab (cc := 172) (P := 168) (KX.keeps F1.keep 172 _ (by k_is)) rfl rfl rfl rfl rfl rfl rfl (N1 (168, tabObj tp) (.tail _ (.tail _ (.head _)))).1 htp2 (by decide)
  refine' genexp_acc (K := hd.heap_1 w.params) (cc := 172) (P := 168) (x := c) (tvs := tvs) (ox := accObj dc (tvs.map (fun t => Value.ref t.1)).toArray ep) F1 hb KX M rfl ct.1 ct.2 (hgn _ (by simp)) (N1 (168, tabObj tp) (.tail _ (.tail _ (.head _)))).2.1 rfl rfl rfl (by decide) rfl rfl rfl (by decide) rfl ?kroom ?kiter ?kI rfl ?ki ?ks ?kt ?klim (fun i v => ∃ a b t, qs[i]? = some (a, b) ∧ v = .str (Txt.join (Str.ofString "") [a, b]) t) ?kps ?kel ?kpost ?ksf
  case kroom => exact (by decide : 381 < recursionLimit)
  case ki => k_is
  case ks => k_is
  case ksf => intro _; rfl
  case kI => exact inst_acc N1 (.head _) (.tail _ (.head _))
  case kt => exact fun t hm => (e3 t hm).at fun o e => hk1 _ _ e
  case klim => exact T.nolimit.keeps F1.keep
  case kps => exact among_tab (pos := { line := 147, col := 32, endLine := 147, endCol := 85 }) htp2
  case kiter =>
    intro Q E hq
    try (with_reducible refine wp_letQ ?_; intro Qz2)
    k_steps
    exact hq
  case kel =>
    intro c' C A' E' i va vb t m₂ hA hD hU hT Ft hm1 hm2
    obtain ⟨T₀, et⟩ := hT
    refine gen_goal fun G9 hG9 => ?_
    obtain ⟨xa, xb, ta, tb, eq, rfl, rfl⟩ := e4 _ _ _ _ et
    refine hG9 ?_
    clear hG9 G9
    have hle := partLen_mem _ _ _ _ eq
    refine MethodCall_ ?_
    refine wpAny_Name ?_
    refine ks_loadName_global rfl rfl (loadGlobal_global (T.g.keeps Ft.keep) (mg_of KX T.g (by k_is)) ?_)
    refine GM.join ?_
    refine PyProof.Rows.callWith_method1 ?_
    refine spliced_more ?_
    refine Tuple_ ?_
    refine spliced_more ?_
    refine wpAny_Name ?_
    refine wpAny_loadName_local rfl rfl Ft.ns hm1 ?_
    refine spliced_more ?_
    refine wpAny_Name ?_
    refine wpAny_loadName_local rfl rfl Ft.ns hm2 ?_
    refine spliced_none ?_
    refine wpAny_newTuple ?_
    refine spliced_none ?_
    refine PyProof.Rows.join_tuple (ys := [xa, xb]) ⟨_, Heap.get?_push_at rfl rfl, rfl, _, rfl⟩ (.cons _ _ (.cons _ _ .nil)) ?_ ?_
    · have hz : (Str.ofString "").length = 0 := by decide
      simp [hz]; (first | lia | omega)
    · intro t' k
      exact ⟨⟨xa, xb, _, eq, rfl⟩, ⟨_, _, rfl, fun b o e => Heap.get?_push_of_some _ e⟩⟩
  case kpost =>
    intro a₁ s₅ ps' hI hTb hcase F5 G5 hos hdr hk5 hX
    refine gen_goal fun G9 hG9 => ?_
    obtain ⟨h5, g5, d5, t5, os5⟩ := s₅
    refine hG9 ?_
    clear hG9 G9
    dsimp only at hos hdr hX G5 F5 hTb hk5
    subst hos hdr
    clear F1
    have N5 : News g L' h5 [(c, accObj dc (tvs.map (fun t => Value.ref t.1)).toArray ep), (dc, accDict hs tkd iv), (168, tabObj ps')] := by
      intro q hq
      revert q
      refine all_cons ?_ ?_
      · exact ⟨hk5 _ _ hneC (N1 _ (.head _)).1, (N1 _ (.head _)).2⟩
      refine all_cons ?_ ?_
      · exact ⟨hk5 _ _ hneD (N1 _ (.tail _ (.head _))).1, (N1 _ (.tail _ (.head _))).2⟩
      refine all_cons ?_ all_nil
      exact ⟨hTb.2, (N1 (168, tabObj tp) (.tail _ (.tail _ (.head _)))).2⟩
    clear N1
    try (with_reducible refine wp_letQ ?_; intro Qz3)
    k_steps
    (with_reducible rename Fr _ _ _ _ => F6)
    refine fr_let F6 ?_
    clear F6
    intro mz2x F6
    (with_reducible rename News _ _ _ _ => N6)
    have hw := pairs_weight qs
    have hz : (Str.ofString "").length = 0 := by decide
    have htx : (List.range tvs.length).map (fun i => (qs.map pairText).getD i (Str.ofString "")) = qs.map pairText := by
      rw [e2, ← List.length_map (f := pairText)]; exact range_getD _ _
    refine join_drawn F6 G5 (gen_toks hX (by first | exact Nat.le_refl _ | exact Nat.le_succ _ | (first | lia | omega))) (Nat.le_refl _) (fun i => (qs.map pairText).getD i (Str.ofString "")) ?_ ?_ ?_ ?_
    · intro j v hz26x
      refine gen_goal fun G9 hG9 => ?_
      obtain ⟨xa, xb, t', eq, rfl⟩ := hz26x
      refine hG9 ?_
      clear hG9 G9
      exact ⟨t', by simp only [pair_at eq]⟩
    · rw [htx]
      refine PyProof.Rows.joinOk_of ?_
      rw [hz]; (first | lia | omega)
    · intro s' t' F7 G7 hos hdr hk7
      refine gen_goal fun G9 hG9 => ?_
      obtain ⟨h8, g8, d8, t8, o8⟩ := s'
      refine hG9 ?_
      clear hG9 G9
      dsimp only at hos hdr G7 F7 hk7
      subst hos hdr
      rw [htx]
      have hcl : c ≤ L' := by rw [hL]; exact Nat.le_of_lt (Heap.lt_size hc)
      have hdl : dc ≤ L' := by rw [hL]; exact Nat.le_of_lt (Heap.lt_size hdc)
      have hPl : 168 ≤ L' := by rw [hL]; exact Nat.le_of_lt (Heap.lt_size htp)
      have b1 := hk7 _ _ hcl (N6 (c, _) (.head _)).1
      have b2 := hk7 _ _ hdl (N6 (dc, _) (.tail _ (.head _))).1
      have b3 := hk7 _ _ hPl (N6 (168, _) (.tail _ (.tail _ (.head _)))).1
      refine hret _ _ _ _ G7 (fun b o hb e => ?_) ⟨_, b3, tab_after (pos := { line := 147, col := 32, endLine := 147, endCol := 85 }) htp2 hcase⟩
      by_cases q1 : b = c
      · subst q1; rw [hc] at e; cases e; exact b1
      · by_cases q2 : b = dc
        · subst q2; rw [hdc] at e; cases e; exact b2
        · exact keepbut_end hg F7 b o (by simp only [List.mem_cons, List.not_mem_nil, or_false] at hb ⊢; exact fun z => z.elim q1 fun z => z.elim q2 hb) e
    · rw [e2]; exact hqs
end

section
open PySem PySem.W PySem.Spec PySem.Calls PyProof.Rows
local macro_rules | `(tactic| walk_at "getMethod ref") => `(tactic| (k_here; with_unfolding_all refine sl_methK (h := ?_); intro q' h' F' N' l1; (try k_lt l1)))
local macro_rules | `(tactic| walk_at "callWith ref nil nil") => `(tactic| (k_here; refine callB (h := ?_)))
local macro_rules | `(tactic| walk_at "call ref") => `(tactic| (k_here; refine call_blen (h := ?_)))

theorem pc_call {w : World} {A : Around} {s : Shared} {c dc : Addr} {ps : List Value} {ep : Nat} {hs : Int} {tk : Tok} {iv : Value} {Q E : Value → Shared → Prop} (S : Site w 400 2000 [c, dc] A s) (hc : s.heap.get? c = some (accObj dc ps.toArray ep)) (hdc : s.heap.get? dc = some (accDict hs tk iv))
  (hret : ∀ t' h' tk', Keeps s.heap h' → Q (.int ps.length t') ⟨h', s.gens, s.drawn, tk', s.os⟩) :
    wpAny (model PySem.Challenge.rw_ty0042_01.row.prog w) A (call (.ref 196) [.ref c]) Q E s := by
  w_top off
  refine wpAny_call ?_
  refine' enterS _ S ?k6 ?k7 ?k8 ?k9 ?kB ?_ ?c5 ?c2 ?c3 ?c4
  case k6 => k_is
  case k7 => k_is
  case k8 => decide
  case k9 => exact BindsTo.of_eq rfl
  case kB => exact locs rfl
  case c2 => exact rfl
  case c3 => exact rfl
  case c4 => exact rfl
  case c5 => decide
  intro L cn cs a ccd cl' outer base g L' h₁ mg mb mean hke F N B KX T hg hgn hk1 hL
  try dsimp only
  try k_fold
  try (with_reducible refine wp_letA ?_; intro A9)

  have N1 : News g L' h₁ [(c, accObj dc ps.toArray ep), (dc, accDict hs tk iv)] := news2 hc hdc hk1 hgn hL
  clear N
  have hne := neN (acc_ne hc hdc)
  try (with_reducible refine wp_letQ ?_; intro Qz1)
  k_steps
  exact hret _ _ _ (keep_two hg (by k_asm) (by k_asm) (by k_mem) (by k_mem) hc hdc)
end

section
open PySem PySem.W PySem.Spec PySem.Calls PyProof.Rows

theorem push_code {w : World} {A : Around} {s : Shared} {c dc : Addr} {ps : List Value} {ep : Nat} {hs : Int} {tk : Tok} {iv : Value} {x y : Str} {tx ty : Tok} {R : Result → Shared → Prop} (S : Site w 400 2000 [c, dc] A s) (hc : s.heap.get? c = some (accObj dc ps.toArray ep)) (hdc : s.heap.get? dc = some (accDict hs tk iv)) (hsz : ps.length ≤ sizeLine)
  (hret : ∀ T n' h' tk', IsTup h' T #[Value.str x tx, Value.str y ty] → s.heap.get? T = none → h'.get? c = some (accObj dc (ps ++ [Value.ref T]).toArray n') → KeepsBut [c] s.heap h' → R (.ok (.ret .none)) ⟨h', s.gens, s.drawn, tk', s.os⟩) :
    codeAny (model PySem.Challenge.rw_ty0042_01.row.prog w) A (.call (.ref 143) ⟨[.ref c, .str x tx, .str y ty], []⟩) R s := by
  w_top off
  refine' enterN _ S ?k6 ?k7 ?k8 ?k9 ?kB ?_ ?c5 ?c2 ?c3 ?c4
  case k6 => k_is
  case k7 => k_is
  case k8 => decide
  case k9 => exact BindsTo.of_eq rfl
  case kB => exact locs rfl
  case c2 => exact rfl
  case c3 => exact rfl
  case c4 => exact rfl
  case c5 => decide
  intro L cn cs a ccd cl' outer base g L' h₁ mg mb mean hke F N B KX T hg hgn hk1 hL
  try dsimp only
  try k_fold
  try (with_reducible refine wp_letA ?_; intro A9)

  have N1 : News g L' h₁ [(c, accObj dc ps.toArray ep), (dc, accDict hs tk iv)] := news2 hc hdc hk1 hgn hL
  clear N
  have hne := neN (acc_ne hc hdc)
  try (with_reducible refine wp_letQ ?_; intro Qz1)
  k_steps
  (with_reducible rename News _ _ _ _ => N9)
  (with_reducible rename Fr _ _ _ _ => F9)
  refine fr_let F9 ?_
  clear F9
  intro mz1x F9
  exact hret _ _ _ _ ⟨_, (N9 _ (.head _)).1, rfl, _, rfl⟩ (new_two hg (N9 _ (.head _)).2.2 (by k_ne) (by k_ne)) (N9 (c, _) (by k_mem)).1 (keepbut_one hg F9 N9 (by k_mem) hdc)


theorem push_call {w : World} {A : Around} {s : Shared} {c dc : Addr} {ps : List Value} {ep : Nat} {hs : Int} {tk : Tok} {iv : Value} {x y : Str} {tx ty : Tok} {Q E : Value → Shared → Prop} (S : Site w 400 2000 [c, dc] A s) (hc : s.heap.get? c = some (accObj dc ps.toArray ep)) (hdc : s.heap.get? dc = some (accDict hs tk iv)) (hsz : ps.length ≤ sizeLine)
  (hret : ∀ T n' h' tk', IsTup h' T #[Value.str x tx, Value.str y ty] → s.heap.get? T = none → h'.get? c = some (accObj dc (ps ++ [Value.ref T]).toArray n') → KeepsBut [c] s.heap h' → Q .none ⟨h', s.gens, s.drawn, tk', s.os⟩) :
    wpAny (model PySem.Challenge.rw_ty0042_01.row.prog w) A (call (.ref 143) [.ref c, .str x tx, .str y ty]) Q E s :=
  wpAny_call (push_code S hc hdc hsz hret)
end

section
open PySem PySem.W PySem.Spec PySem.Calls PyProof.Rows
local macro_rules | `(tactic| walk_at "getMethod ref") => `(tactic| (k_here; with_unfolding_all refine sp_methK (h := ?_); intro q' h' F' N' l1; (try k_lt l1)))
local macro_rules | `(tactic| walk_at "callWith ref nil nil") => `(tactic| (k_here; refine callB (h := ?_)))
local macro_rules | `(tactic| walk_at "call ref") => `(tactic| (k_here; refine call_bpop (h := ?_); intro h' n' F' N'))
local macro_rules | `(tactic| walk_at "wpAt") => `(tactic| ((with_reducible refine wpAt_id ?_); (ks_step "execs cons"); refine ks_wpAt_execs_cons ?_))
local macro_rules | `(tactic| walk_at "wpAt") => `(tactic| ((ks_step "eval Call"); refine hold ?_))
local macro_rules | `(tactic| walk_at "call ref") => `(tactic| (k_here; refine hold_196 ?_))

theorem pop_some {w : World} {A : Around} {s : Shared} {c dc : Addr} {ps : List Value} {y : Value} {ep : Nat} {hs : Int} {tk : Tok} {iv : Value} {Q E : Value → Shared → Prop} (S : Site w 390 1900 [c, dc] A s) (hc : s.heap.get? c = some (accObj dc (ps ++ [y]).toArray ep)) (hdc : s.heap.get? dc = some (accDict hs tk iv)) (hsz : (ps ++ [y]).length ≤ sizeLine)
  (hret : ∀ n' h' tk', h'.get? c = some (accObj dc ps.toArray n') → KeepsBut [c] s.heap h' → Q y ⟨h', s.gens, s.drawn, tk', s.os⟩) :
    wpAny (model PySem.Challenge.rw_ty0042_01.row.prog w) A (call (.ref 159) [.ref c]) Q E s := by
  w_top off
  refine wpAny_call ?_
  refine' enterS _ S ?k6 ?k7 ?k8 ?k9 ?kB ?_ ?c5 ?c2 ?c3 ?c4
  case k6 => k_is
  case k7 => k_is
  case k8 => decide
  case k9 => exact BindsTo.of_eq rfl
  case kB => exact locs rfl
  case c2 => exact rfl
  case c3 => exact rfl
  case c4 => exact rfl
  case c5 => decide
  intro L cn cs a ccd cl' outer base g L' h₁ mg mb mean hke F N B KX T hg hgn hk1 hL
  try dsimp only
  try k_fold
  try (with_reducible refine wp_letA ?_; intro A9)

  have N1 : News g L' h₁ [(c, accObj dc (ps ++ [y]).toArray ep), (dc, accDict hs tk iv)] := news2 hc hdc hk1 hgn hL
  clear N
  have hne := neN (acc_ne hc hdc)

  try (with_reducible refine wp_letQ ?_; intro Qz1)

  k_steps
  unfold Hold
  refine' pc_call (site_of rfl ?k1 ?k2 ?k3 ?k4 rfl ?k5 ?k6 rfl ?k7 ?k8) ?k9 ?kA ?_
  case k1 => k_asm
  case k2 => k_asm
  case k3 => k_asm
  case k4 => k_asm
  case k5 => exact Nat.le_of_ble_eq_true rfl
  case k6 => exact Nat.le_of_ble_eq_true rfl
  case k9 => exact News.get (by k_asm) (by k_mem)
  case kA => exact News.get (by k_asm) (by k_mem)
  case k7 => exact not_two (by k_asm) (by k_mem) (by k_mem)
  case k8 => exact none_two (by k_asm) (by k_mem) (by k_mem)
  intro t' h' tk' k'
  (with_reducible rename Fr _ _ _ _ => F0)
  refine fr_let F0 ?_
  clear F0
  intro mz1x F0
  (with_reducible rename News _ _ _ _ => N0)
  have F' := fr_keep F0 k'
  have N' := news_keep N0 k'
  clear k' F0 N0
  try (with_reducible refine wp_letQ ?_; intro Qz2)
  k_steps
  · exfalso; simp at *; (first | lia | omega)
  · unfold Hold
    refine ks_wpAt_MethodCall ?_
    try (with_reducible refine wp_letQ ?_; intro Qz3)
    k_steps
    (with_reducible rename Fr _ _ _ _ => F0)
    refine fr_let F0 ?_
    clear F0
    intro mz2x F0
    (with_reducible rename News _ _ _ _ => N0)
    exact hret _ _ _ (N0 (c, _) (by k_mem)).1 (keepbut_one hg F0 N0 (by k_mem) hdc)


theorem pop_nil {w : World} {A : Around} {s : Shared} {c dc : Addr} {ep : Nat} {hs : Int} {tk : Tok} {iv : Value} {Q E : Value → Shared → Prop} (S : Site w 390 1900 [c, dc] A s) (hc : s.heap.get? c = some (accObj dc #[] ep)) (hdc : s.heap.get? dc = some (accDict hs tk iv))
  (hret : ∀ T t1 t2 h' tk', IsTup h' T #[Value.str (Str.ofString "") t1, Value.str (Str.ofString "") t2] → s.heap.get? T = none → Keeps s.heap h' → Q (.ref T) ⟨h', s.gens, s.drawn, tk', s.os⟩) :
    wpAny (model PySem.Challenge.rw_ty0042_01.row.prog w) A (call (.ref 159) [.ref c]) Q E s := by
  w_top off
  refine wpAny_call ?_
  refine' enterS _ S ?k6 ?k7 ?k8 ?k9 ?kB ?_ ?c5 ?c2 ?c3 ?c4
  case k6 => k_is
  case k7 => k_is
  case k8 => decide
  case k9 => exact BindsTo.of_eq rfl
  case kB => exact locs rfl
  case c2 => exact rfl
  case c3 => exact rfl
  case c4 => exact rfl
  case c5 => decide
  intro L cn cs a ccd cl' outer base g L' h₁ mg mb mean hke F N B KX T hg hgn hk1 hL
  try dsimp only
  try k_fold
  try (with_reducible refine wp_letA ?_; intro A9)

  have N1 : News g L' h₁ [(c, accObj dc ([] : List Value).toArray ep), (dc, accDict hs tk iv)] := news2 hc hdc hk1 hgn hL
  clear N
  have hne := neN (acc_ne hc hdc)
  try (with_reducible refine wp_letQ ?_; intro Qz4)
  k_steps
  unfold Hold
  refine' pc_call (site_of rfl ?k1 ?k2 ?k3 ?k4 rfl ?k5 ?k6 rfl ?k7 ?k8) ?k9 ?kA ?_
  case k1 => k_asm
  case k2 => k_asm
  case k3 => k_asm
  case k4 => k_asm
  case k5 => exact Nat.le_of_ble_eq_true rfl
  case k6 => exact Nat.le_of_ble_eq_true rfl
  case k9 => exact News.get (by k_asm) (by k_mem)
  case kA => exact News.get (by k_asm) (by k_mem)
  case k7 => exact not_two (by k_asm) (by k_mem) (by k_mem)
  case k8 => exact none_two (by k_asm) (by k_mem) (by k_mem)
  intro t' h' tk' k'
  (with_reducible rename Fr _ _ _ _ => F0)
  refine fr_let F0 ?_
  clear F0
  intro mz3x F0
  (with_reducible rename News _ _ _ _ => N0)
  have F' := fr_keep F0 k'
  have N' := news_keep N0 k'
  clear k' F0 N0

  try (with_reducible refine wp_letQ ?_; intro Qz5)

  k_steps
  (with_reducible rename Fr _ _ _ _ => F0)
  refine fr_let F0 ?_
  clear F0
  intro mz4x F0
  (with_reducible rename News _ _ _ _ => N0)
  exact hret _ _ _ _ _ ⟨_, (N0 _ (.head _)).1, rfl, _, rfl⟩ (new_two hg (N0 _ (.head _)).2.2 (by k_ne) (by k_ne)) (keep_two hg F0 N0 (by k_mem) (by k_mem) hc hdc)
end

section
open PySem PySem.W PySem.Spec PySem.Calls PyProof.Rows PyProof.V PySem.SeqAt
open Builtin.ObjectAttr

theorem refuse_list (self : Value) : refuseLoop self "__setattr__" [.type "list", .type "object"] = pure () := by kernel_rfl
section
variable {prog : Program} {w : World} {A : Around} {E : Value → Shared → Prop} {s : Shared} {K : Frag} {x dx C D : Addr} {od : Option Obj} {ox : Obj} {h₀ : Heap} {L : Addr} {m : Str → Option Value} {news news' : List (Addr × Obj)}
theorem refuse_mine (self : Value) (c : Addr) : refuseLoop self "__setattr__" [.ref c, .type "list", .type "object"] = pure () := by rw [refuseLoop_ref]; exact refuse_list self
theorem mine_has (c : Addr) : ([.ref c, .type "list", .type "object"] : List Value).contains (.type "object") = true := by rw [List.contains_cons]; exact Bool.or_true _
noncomputable def plainMine (K : Frag) (C : Addr) : Prop := (clsIn K C).map (·.mro) = some [.ref C, .type "list", .type "object"]
theorem osa_openL {R : Result → Shared → Prop} {name : Str} {tk : Tok} {v : Value} {r : Option Value} (X : K.In s.heap) (I : InstAt s.heap x ox C od) (hp : plainMine K C) (ht : takerIn K C name = some r)
    (h : ∀ b, wpAny (model prog w) A.in1 (match r with | some a => setByDescriptor a (.ref x) v | none => storeInOwnDict (.ref x) (.ref C) (.str name tk) name v b)
      (fun fin s' => match fin with | .done f => R (.ok f) s' | .again c' => c'.quiet = true ∧ codeAny (model prog w) A c' R s') (fun e s' => R (.error e) s') s) :
    codeAny (model prog w) A (.call (.builtin "object.__setattr__") ⟨[.ref x, .str name tk, v], []⟩) R s := by
  have SF := PySem.F.store_object
  obtain ⟨cd, hc, ho⟩ := Option.map_eq_some_iff.mp hp
  have sub : Looks (model prog w) s.heap (isInstance (.ref x) (.type "object")) true := I.type.andThen (looks_mroIn X (by unfold mroIn; rw [hc, Option.bind_some, ho]; exact congrArg some (mine_has C)))
  refine codeAny_call_builtin SF.slot.plain SF.entry (@check_slot (model prog w) _ _ s "object.__setattr__" "object" "__setattr__" (.ref x) [.str name tk, v] [] _ SF.kind SF.split sub (SF.args (.ref x) (.str name tk) v) ?_)
  obtain ⟨attr, ha, hr⟩ := Option.bind_eq_some_iff.mp ht
  have hm : Looks (model prog w) s.heap (mroOf (.ref C)) cd.mro := (looks_clsIn X hc).andThen .now
  have L3 : Looks (model prog w) s.heap (storeTaker? attr) r := by
    cases attr with
    | none => cases hr; exact .now
    | some a =>
      obtain ⟨b, hb, rfl⟩ := Option.map_eq_some_iff.mp hr
      refine (looks_takesIn X hb).andThen ?_
      cases b <;> exact .now
  rw [osa_eq, refuse_eq]
  refine wpAny_bind (wpAny_bind (I.type.here (wpAny_bind (hm.here ?_))))
  rw [ho, refuse_mine]
  refine wpAny_pure (wpAny_bind (I.type.here (wpAny_bind ((looks_findIn X ha).here (wpAny_bind (L3.here ?_))))))
  exact h _
theorem osa_dictL {R : Result → Shared → Prop} {od od' : Obj} {name : Str} {tk : Tok} {v : Value} {pre post : List (Addr × Obj)} {es : List DictEntry} {n : Nat} (F : Fr h₀ L s.heap m) (N : News h₀ L s.heap (pre ++ (dx, od) :: post)) (X : K.In s.heap)
    (I : InstAt s.heap x ox C (some od)) (hd : ox.dict = some dx) (hp : plainMine K C) (ht : takerIn K C name = some none) (hh : (clsIn K C).any (·.hasDict) = true)
    (hl : (lookIn name od).isSome = true) (h1 : ∀ p ∈ pre, p.1 ≠ dx) (h2 : ∀ p ∈ post, p.1 ≠ dx)
    (e : Obj.putName name (PyData.keyHash w.params name) (.str name s.toks) v od = od') (e' : od'.data = .dict es.toArray n) (hz : es.length ≤ 1000)
    (h : ∀ h', Fr h₀ L h' m → News h₀ L h' (pre ++ (dx, od') :: post) → R (.ok (.ret .none)) { s with heap := h', toks := s.toks + 1 }) :
    codeAny (model prog w) A (.call (.builtin "object.__setattr__") ⟨[.ref x, .str name tk, v], []⟩) R s := by
  refine osa_openL X I hp ht fun b => ?_
  obtain ⟨cd, hc, hd'⟩ := any_some hh
  obtain ⟨U1, U2⟩ := news_upd (f := Obj.putName name (PyData.keyHash w.params name) (.str name s.toks) v) F N h1 h2 e (by obtain ⟨_, _, dd, _⟩ := od'; cases e'; rfl)
  have D := (N (dx, od) (by simp)).1
  have D' := (U2 (dx, od') (by simp)).1
  obtain ⟨hx, hcl, hn, -⟩ := I
  obtain ⟨oc, odi, oda, osl⟩ := ox
  dsimp only at hcl hd
  subst hcl hd
  refine wpAny_bind (wpAny_pure (wpAny_bind (wpAny_bind (wpAny_loadPart hx (wpAny_bind ((looks_clsIn X hc).here ?_))))))
  rw [hd']
  refine wpAny_pure (a := some dx) (wpAny_bind (wpAny_pure (wpAny_bind ?_)))
  unfold nsSet
  refine wpAny_bind (wpAny_bind (wpAny_askSetting (wpAny_pure (wpAny_bind (wpAny_mkText (wpAny_bind (wpAny_loadPart D ?_)))))))
  unfold lookIn at hl
  split at hl
  · rename_i es₀ n₀ q
    rw [q]
    dsimp only
    have c : (!es₀.any (·.key.isStr name) && es₀.any (·.refKey)) = false := by
      rw [← Array.any_toList, ← Array.any_toList]
      split at hl
      · rename_i en he
        rw [List.any_eq_true.mpr ⟨en, List.mem_of_find?_eq_some he, List.find?_some he⟩]; rfl
      · split at hl
        · cases hl
        · rename_i z; rw [Bool.not_eq_true] at z; rw [z, Bool.and_false]
    rw [aRefKeyMayBeTheName_at, c]
    refine wpAny_updatePart D ?_
    refine wpAny_bind (wpAny_lookBehind D' (by rw [e']; exact pastItsLine_dict (by rw [List.size_toArray, sizeLine_eq]; (first | lia | omega))) ?_)
    exact wpAny_pure (h _ U1 U2)
  · cases hl
theorem set_dictL {name : Str} {v : Value} {Q : Unit → Shared → Prop} {es es' : List DictEntry} {n n' : Nat} (F : autoParam (Fr h₀ L s.heap m) au4._auto_1) (X₀ : autoParam (K.In h₀) au4._auto_1) (N : autoParam (News h₀ L s.heap news) au4._auto_1) (I : autoParam (InstAt s.heap x ox C (some (dictOf es n))) au6._auto_1) (hd : autoParam (ox.dict = some dx) au14._auto_1)
    (hs : autoParam (findIn K (.ref C) "__setattr__" = some (some (.builtin "object.__setattr__"))) au7._auto_1)
    (hp : plainMine K C) (ht : autoParam (takerIn K C name = some none) au7._auto_1) (hh : autoParam (hasDictIn K C = true) au7._auto_1) (hl : autoParam ((getL name es).isSome = true) au15._auto_1)
    (e : autoParam ((putL name (PyData.keyHash w.params name) (.str name (s.toks + 1)) v es, putN name es n) = (es', n')) au16._auto_1) (U : autoParam (Upd dx (dictOf es n) (dictOf es' n') news news') au17._auto_1) (hz : autoParam (es'.length ≤ 1000) au18._auto_1)
    (h : ∀ h', Fr h₀ L h' m → News h₀ L h' news' → Q () { s with heap := h', toks := s.toks + 1 + 1 }) :
    wpAny (model prog w) A (setAttr (.ref x) name v) Q E s := by
  obtain ⟨pre, post, rfl, rfl, a, b⟩ := U.split
  obtain ⟨e1, e2⟩ := Prod.mk.inj e
  refine set_plain (X₀.keeps F.keep) I hs ?_
  exact osa_dictL (s := { s with toks := s.toks + 1 }) F N (X₀.keeps F.keep) I hd hp ht hh hl a b (by rw [putName_dict, e1, e2]) rfl hz fun h' F' N' => h h' F' N'

theorem max_nat {a n : Nat} (h : a ≤ n) : (max (a : Int) (n : Int)).toNat = n := by rw [Int.max_eq_right (Int.ofNat_le.mpr h)]; rfl
theorem sb_none (n : Nat) : sliceBounds none none none n = (((0 : Nat) : Int), (n : Int), 1) := sliceBounds_plain none none n
theorem sb_int {a n : Nat} (h : a ≤ n) : sliceBounds (some (a : Int)) none none n = ((a : Int), (n : Int), 1) := by
  have e := sliceBounds_plain (some (a : Int)) none n
  rw [show (some (a : Int)).elim 0 (clipAt n) = a from (clipAt_nat n a).trans (Nat.min_eq_left h)] at e
  exact e
/-- a slice of an object of a list class is given new items -/
theorem acc_setslice {dc l sl : Addr} {ps ns : List Value} {n : Nat} {lo : Option Int} {vl : Value} {a : Nat} {Q : Unit → Shared → Prop} (X : K.In s.heap) (I : InstAt s.heap x (accObj dc ps.toArray n) 199 od)
    (hf : findIn K (.ref 199) "__setitem__" = some (some (.builtin "list.__setitem__"))) (hs : subIn K (.ref 199) (.type "list") = some true) (hdq : subIn K (.ref 199) (.type "collections.deque") = some false)
    (hsl : s.heap.IsSliceOf sl vl .none .none) (hlo : (vl = .none ∧ lo = none ∧ a = 0) ∨ (∃ t, vl = .int a t ∧ lo = some a ∧ a ≤ ps.length)) (hl : s.heap.IsList l ns.toArray) (hsz : ps.length + ns.length ≤ sizeLine)
    (h : ∀ f : Array Value → Array Value, f ps.toArray = (ps.take a ++ ns).toArray → Q () { s with heap := s.heap.update x (Obj.mapSeq f) }) :
    wpAny (model prog w) A (setItem (.ref x) (.ref sl) (.ref l)) Q E s := by
  obtain ⟨o, ho, hc, ne, hd⟩ := id hl
  obtain ⟨os, hos, hcs, hds⟩ := id hsl
  have hTs : s.TypeIs (.ref sl) "slice" := ⟨os, hos, hcs⟩
  have L1 : Looks (model prog w) s.heap (specialOf (.ref x) "__setitem__") (some (.builtin "list.__setitem__")) := I.type.andThen (looks_findIn X hf)
  have L4 : Looks (model prog w) s.heap (isInstance (.ref x) (.type "list")) true := I.type.andThen (looks_subIn X hs)
  have L5 : Looks (model prog w) s.heap (isSubtype (.ref 199) (.type "collections.deque")) false := looks_subIn X hdq
  have pl : IsPart vl lo := by
    rcases hlo with ⟨rfl, rfl, rfl⟩ | ⟨t, rfl, rfl, _⟩
    · exact .none
    · exact .int _ _
  have sb : sliceBounds lo none none ps.toArray.size = ((a : Int), (ps.length : Int), 1) := by
    rcases hlo with ⟨rfl, rfl, rfl⟩ | ⟨t, rfl, rfl, hle⟩
    · exact sb_none _
    · exact sb_int hle
  unfold setItem
  try with_reducible refine wpAny_holding ?_
  unfold sequenceKey
  refine wpAny_bind (m := (typeOf (.ref x) >>= _)) ?_
  refine wpAny_bind (I.type.here ?_)
  refine wpAny_bind (m := (isSubtype (.ref 199) (.type "collections.deque") >>= _)) ?_
  refine wpAny_bind (L5.here ?_)
  refine wpAny_pure ?_
  refine wpAny_pure ?_
  unfold callSpecial?
  refine wpAny_bind (wpAny_bind (L1.here ?_))
  dsimp only
  rw [slot_list_setitem.bind]
  refine wpAny_holding (wpAny_bind (wpAny_pure (wpAny_bind ?_)))
  dsimp only [List.cons_append, List.nil_append]
  refine acc_call (n := "__setitem__") (.inl (by kernel_rfl)) (by kernel_rfl) (by decide +kernel) entry_list_setitem (by unfold argsOk; kernel_rfl) L4 ?_
  show wpAny _ _ (Builtin.List.listSubscript? (.ref sl) >>= _) _ _ s
  refine wpAny_bind ?_
  unfold Builtin.List.listSubscript?
  refine wpAny_bind (wpAny_specialOf hTs slice_no_index ?_)
  refine if_so rfl ?_
  refine wpAny_pure ?_
  refine wpAny_bind (wpAny_typeOf hTs ?_)
  rw [if_neg (by decide)]
  rw [listSliceParts_eq]
  have hstep : ¬ ((rawPart none == rawInt 0) = true) := Bool.false_ne_true
  refine wpAny_bind (wpAny_bind (wpAny_field hos hds (x := .none) rfl (wpAny_bind (wpAny_listPart .none ?_))))
  rw [if_neg hstep]
  refine wpAny_bind (wpAny_field hos hds (x := vl) rfl (wpAny_bind (wpAny_listPart pl ?_)))
  refine wpAny_bind (wpAny_field hos hds (x := .none) rfl (wpAny_bind (wpAny_listPart .none (wpAny_pure ?_))))
  dsimp only
  have items : ∀ (A' : Around) (Q' : Array Value → Shared → Prop), Q' ns.toArray s → wpAny (model prog w) A' (Builtin.List.listItems (.ref l)) Q' E s := by
    intro A' Q' hq
    unfold Builtin.List.listItems
    exact wpAny_bind (wpAny_seqItems ho hd (wpAny_pure hq))
  have all : ∀ (A' : Around) (Q' : Array Value → Shared → Prop) (msg : String), Q' ns.toArray s → wpAny (model prog w) A' (Builtin.List.listAllItems (.ref l) msg) Q' E s := by
    intro A' Q' msg hq
    unfold Builtin.List.listAllItems
    refine wpAny_bind (wpAny_typeOf hl.typeIs ?_)
    rw [if_pos (by decide)]
    exact items _ _ hq
  have own : ∀ (A' : Around) (Q' : Array Value → Shared → Prop), Q' ps.toArray s → wpAny (model prog w) A' (Builtin.List.listItems (.ref x)) Q' E s := by
    intro A' Q' hq
    unfold Builtin.List.listItems
    exact wpAny_bind (wpAny_seqItems I.at_ rfl (wpAny_pure hq))
  have e1 : (max (a : Int) (ps.length : Int)).toNat = ps.length := max_nat (by rcases hlo with ⟨_, _, q⟩ | ⟨_, _, _, hle⟩ <;> first | exact q ▸ Nat.zero_le _ | exact hle)
  have hz : (ps.toArray.extract 0 (a : Int).toNat ++ ns.toArray ++ ps.toArray.extract (max (a : Int) (ps.length : Int)).toNat).size ≤ sizeLine + 1 := by
    rw [e1, Array.size_append, Array.size_append, Array.size_extract, Array.size_extract, List.size_toArray, List.size_toArray, Nat.min_self, Nat.sub_self, Nat.add_zero, Nat.sub_zero]
    exact Nat.le_succ_of_le (Nat.le_trans (Nat.add_le_add_right (Nat.min_le_right _ _) _) hsz)
  split
  all_goals
    first | refine wpAny_bind (items _ _ ?_) | refine wpAny_bind (all _ _ _ ?_)
    refine wpAny_bind (own _ _ ?_)
    refine wpAny_bind (wpAny_of_eq (sliceIndices_raw lo none none ps.toArray.size (by simp)) ?_)
    rw [sb]
    dsimp only
    rw [if_pos (by decide)]
    refine wpAny_bind (wpAny_rule ?_)
    rw [if_neg (by simp [Builtin.List.listTooLong]; exact hsz)]
    refine wpAny_bind ?_
    unfold Builtin.List.listUpdate
    refine wpAny_updateSeq I.at_ rfl ?_ (show ps.length ≤ _ from Nat.le_trans (Nat.le_add_right _ _) hsz) hz
    refine wpAny_bind (wpAny_letGo ?_)
    refine wpAny_pure ⟨_, rfl, wpAny_pure (wpAny_pure (h _ ?_))⟩
    apply Array.toList_inj.mp
    simp [e1]
/-- a slice of an object of a list class is read -/
theorem acc_getslice {dc sl : Addr} {ps : List Value} {n a : Nat} {t : Tok} {Q : Value → Shared → Prop} (X : K.In s.heap) (I : InstAt s.heap x (accObj dc ps.toArray n) 199 od)
    (hf : findIn K (.ref 199) "__getitem__" = some (some (.builtin "list.__getitem__"))) (hs : subIn K (.ref 199) (.type "list") = some true) (hdq : subIn K (.ref 199) (.type "collections.deque") = some false)
    (hsl : s.heap.IsSliceOf sl (.int a t) .none .none) (hle : a ≤ ps.length) (hsz : ps.length ≤ sizeLine)
    (h : Q (.ref s.heap.objs.size) { s with heap := s.heap.push { cls := .type "list", data := .seq (ps.drop a).toArray } }) :
    wpAny (model prog w) A (getItem (.ref x) (.ref sl)) Q E s := by
  obtain ⟨os, hos, hcs, hds⟩ := id hsl
  have hTs : s.TypeIs (.ref sl) "slice" := ⟨os, hos, hcs⟩
  have L1 : Looks (model prog w) s.heap (specialOf (.ref x) "__getitem__") (some (.builtin "list.__getitem__")) := I.type.andThen (looks_findIn X hf)
  have L4 : Looks (model prog w) s.heap (isInstance (.ref x) (.type "list")) true := I.type.andThen (looks_subIn X hs)
  have L5 : Looks (model prog w) s.heap (isSubtype (.ref 199) (.type "collections.deque")) false := looks_subIn X hdq
  unfold getItem
  try with_reducible refine wpAny_holding ?_
  unfold sequenceKey
  refine wpAny_bind (m := (typeOf (.ref x) >>= _)) ?_
  refine wpAny_bind (I.type.here ?_)
  refine wpAny_bind (m := (isSubtype (.ref 199) (.type "collections.deque") >>= _)) ?_
  refine wpAny_bind (L5.here ?_)
  refine wpAny_pure ?_
  refine wpAny_pure ?_
  unfold callSpecial?
  refine wpAny_bind (wpAny_bind (L1.here ?_))
  dsimp only
  rw [slot_list_getitem.bind]
  refine wpAny_holding (wpAny_bind (wpAny_pure (wpAny_bind ?_)))
  dsimp only [List.cons_append, List.nil_append]
  refine acc_call (n := "__getitem__") (.inr (by kernel_rfl)) (by kernel_rfl) (by decide +kernel) entry_list_getitem (by unfold argsOk; kernel_rfl) L4 ?_
  show wpAny _ _ (Builtin.List.listSubscript? (.ref sl) >>= _) _ _ s
  refine wpAny_bind ?_
  unfold Builtin.List.listSubscript?
  refine wpAny_bind (wpAny_specialOf hTs slice_no_index ?_)
  refine if_so rfl ?_
  refine wpAny_pure ?_
  refine wpAny_bind (wpAny_typeOf hTs ?_)
  rw [if_neg (by decide)]
  rw [listSliceParts_eq]
  have hstep : ¬ ((rawPart none == rawInt 0) = true) := Bool.false_ne_true
  refine wpAny_bind (wpAny_bind (wpAny_field hos hds (x := .none) rfl (wpAny_bind (wpAny_listPart .none ?_))))
  rw [if_neg hstep]
  refine wpAny_bind (wpAny_field hos hds (x := .int a t) rfl (wpAny_bind (wpAny_listPart (.int _ _) ?_)))
  refine wpAny_bind (wpAny_field hos hds (x := .none) rfl (wpAny_bind (wpAny_listPart .none (wpAny_pure ?_))))
  dsimp only
  refine wpAny_bind (m := Builtin.List.listItems (.ref x)) ?_
  unfold Builtin.List.listItems
  refine wpAny_bind (wpAny_seqItems I.at_ rfl (wpAny_pure ?_))
  refine wpAny_bind (wpAny_of_eq (sliceIndices_raw (some (a : Int)) none none ps.toArray.size (by simp)) ?_)
  have e := slicePick_from ps.toArray a (hle)
  unfold slicePick at e
  have e2 : ps.toArray.toList = ps := by simp
  rw [e2] at e
  refine wpAny_bind (wpAny_newObj_type (wpAny_pure ⟨_, rfl, wpAny_pure (wpAny_pure ?_)⟩) ?_)
  · rw [e]; exact h
  · rw [e]; show (List.drop a ps).toArray.size ≤ sizeLine; rw [List.size_toArray, List.length_drop]; (first | lia | omega)
/-- an item of an object of a list class is read -/
theorem acc_getitem {dc : Addr} {ps : List Value} {n a : Nat} {t : Tok} {v : Value} {Q : Value → Shared → Prop} (X : K.In s.heap) (I : InstAt s.heap x (accObj dc ps.toArray n) 199 od)
    (hf : findIn K (.ref 199) "__getitem__" = some (some (.builtin "list.__getitem__"))) (hs : subIn K (.ref 199) (.type "list") = some true) (hdq : subIn K (.ref 199) (.type "collections.deque") = some false)
    (hv : ps[a]? = some v) (hfit : (a : Int) < 2 ^ 63) (h : Q v s) :
    wpAny (model prog w) A (getItem (.ref x) (.int a t)) Q E s := by
  have L1 : Looks (model prog w) s.heap (specialOf (.ref x) "__getitem__") (some (.builtin "list.__getitem__")) := I.type.andThen (looks_findIn X hf)
  have L4 : Looks (model prog w) s.heap (isInstance (.ref x) (.type "list")) true := I.type.andThen (looks_subIn X hs)
  have L5 : Looks (model prog w) s.heap (isSubtype (.ref 199) (.type "collections.deque")) false := looks_subIn X hdq
  have h0 : (0 : Int) ≤ a := Int.natCast_nonneg _
  obtain ⟨k, hk⟩ : ∃ k : Int, k = a := ⟨_, rfl⟩
  rw [← hk] at hfit h0 ⊢
  unfold getItem
  try with_reducible refine wpAny_holding ?_
  unfold sequenceKey
  refine wpAny_bind (m := (typeOf (.ref x) >>= _)) ?_
  refine wpAny_bind (I.type.here ?_)
  refine wpAny_bind (m := (isSubtype (.ref 199) (.type "collections.deque") >>= _)) ?_
  refine wpAny_bind (L5.here ?_)
  refine wpAny_pure ?_
  refine wpAny_pure ?_
  unfold callSpecial?
  refine wpAny_bind (wpAny_bind (L1.here ?_))
  dsimp only
  rw [slot_list_getitem.bind]
  refine wpAny_holding (wpAny_bind (wpAny_pure (wpAny_bind ?_)))
  dsimp only [List.cons_append, List.nil_append]
  refine acc_call (n := "__getitem__") (.inr (by kernel_rfl)) (by kernel_rfl) (by decide +kernel) entry_list_getitem (by unfold argsOk; kernel_rfl) L4 ?_
  show wpAny _ _ (Builtin.List.listSubscript? (.int k t) >>= _) _ _ s
  refine wpAny_bind (wpAny_listSubscript_int (fitsIndex_of h0 hfit) ?_)
  subst hk
  refine wpAny_bind (wpAny_bind (wpAny_seqItemAt I.at_ rfl (wpAny_pure ?_)))
  have hv' : ps.toArray[a]? = some v := by simpa using hv
  rw [hv']
  exact wpAny_pure ⟨_, rfl, wpAny_pure (wpAny_pure h)⟩
end
section
variable {prog : Program} {w : World} {A : Around} {E : Value → Shared → Prop} {s : Shared} {K : Frag} {x : Addr} {od : Option Obj} {h₀ : Heap} {L : Addr} {m : Str → Option Value} {news : List (Addr × Obj)} {gg : Obj → List (Addr × Obj)}
theorem acc_setsliceK {dc l sl : Addr} {ps ns : List Value} {n : Nat} {lo : Option Int} {vl : Value} {a : Nat} {Q : Unit → Shared → Prop} (F : Fr h₀ L s.heap m) (X₀ : K.In h₀) (N : News h₀ L s.heap news) (I : InstAt s.heap x (accObj dc ps.toArray n) 199 od)
    (hf : findIn K (.ref 199) "__setitem__" = some (some (.builtin "list.__setitem__"))) (hs : subIn K (.ref 199) (.type "list") = some true) (hdq : subIn K (.ref 199) (.type "collections.deque") = some false) (U : UpdF x (accObj dc ps.toArray n) news gg)
    (hsl : s.heap.IsSliceOf sl vl .none .none) (hlo : (vl = .none ∧ lo = none ∧ a = 0) ∨ (∃ t, vl = .int a t ∧ lo = some a ∧ a ≤ ps.length)) (hl : s.heap.IsList l ns.toArray) (hsz : ps.length + ns.length ≤ sizeLine)
    (h : ∀ h' n', Fr h₀ L h' m → News h₀ L h' (gg (accObj dc (ps.take a ++ ns).toArray n')) → Q () { s with heap := h' }) :
    wpAny (model prog w) A (setItem (.ref x) (.ref sl) (.ref l)) Q E s := by
  refine acc_setslice (X₀.keeps F.keep) I hf hs hdq hsl hlo hl hsz fun f hf' => ?_
  obtain ⟨F', N'⟩ := updK (o' := accObj dc (ps.take a ++ ns).toArray (if (ps.take a ++ ns).toArray.size == ps.toArray.size then n else n + 1)) (f := Obj.mapSeq f) F N U (by simp only [Obj.mapSeq]; rw [hf']) rfl
  exact h _ _ F' N'
end
end

section
open PySem PySem.W PySem.Spec PySem.Calls PyProof.Rows PyProof.V PySem.SeqAt
theorem Site.kx {w : World} {D U : Nat} {hid : List Addr} {A : Around} {s : Shared} (S : Site w D U hid A s) : (hd.heap_1 w.params).In s.heap := by
  obtain ⟨cn, cs, a, ccd, cl, outer, A₀, base, h₀, L, m, mg, mb, mean, hA, hk, B, F, X, T, hL, hhid⟩ := S.ex
  exact X.keeps F.keep
theorem list_apart {h : Heap} {c dc l : Addr} {pa ns : Array Value} {ep : Nat} {hs : Int} {tk : Tok} {iv : Value} (hc : h.get? c = some (accObj dc pa ep)) (hdc : h.get? dc = some (accDict hs tk iv)) (hl : h.IsList l ns) : l ∉ [c, dc] := by
  obtain ⟨o, ho, r, _⟩ := hl
  simp only [List.mem_cons, List.not_mem_nil, or_false]
  rintro (rfl | rfl)
  · rw [hc] at ho; cases ho; cases r
  · rw [hdc] at ho; cases ho
    have := Value.type.inj r
    exact absurd this (by decide)
theorem list_keep {h g : Heap} {hid : List Addr} {l : Addr} {ns : Array Value} (hg : ∀ b o, h.get? b = some o → b ∉ hid → g.get? b = some o) (hn : l ∉ hid) (hl : h.IsList l ns) : g.IsList l ns := by
  obtain ⟨o, ho, r⟩ := hl
  exact ⟨o, hg _ _ ho hn, r⟩
theorem plain199 (p : Params) : plainMine (hd.heap_1 p) 199 := by rfl
end

section
open PySem PySem.W PySem.Spec PySem.Calls PyProof.Rows PyProof.V PySem.SeqAt
local macro_rules | `(tactic| walk_at "setAttr ref") => `(tactic| (k_here; refine set_dictL (hp := plain199 _) (h := ?_); intro h' F' N'; (try k_sweep)))
local macro_rules | `(tactic| walk_at "setItem ref") => `(tactic| (k_here; refine hold_set ?_))

section
open PySem PySem.W PySem.Spec PySem.Calls PyProof.Rows

theorem reset_call {w : World} {A : Around} {s : Shared} {c dc l : Addr} {ps ns : List Value} {ep : Nat} {hs : Int} {tkd : Tok} {iv : Value} {Q E : Value → Shared → Prop} (S : Site w 390 1900 [c, dc] A s) (hc : s.heap.get? c = some (accObj dc ps.toArray ep)) (hdc : s.heap.get? dc = some (accDict hs tkd iv)) (hl : s.heap.IsList l ns.toArray) (hsz : ps.length + ns.length ≤ sizeLine)
  (hret : ∀ h' n' tk' t0, h'.get? c = some (accObj dc ns.toArray n') → h'.get? dc = some (accDict hs tkd (.int 0 t0)) → KeepsBut [c, dc] s.heap h' → Q .none ⟨h', s.gens, s.drawn, tk', s.os⟩) :
    wpAny (model PySem.Challenge.rw_ty0042_01.row.prog w) A (call (.ref 181) [.ref c, .ref l]) Q E s := by
  w_top off
  refine wpAny_call ?_
  refine' enterN _ S ?k6 ?k7 ?k8 ?k9 ?kB ?_ ?c5 ?c2 ?c3 ?c4
  case k6 => k_is
  case k7 => k_is
  case k8 => decide
  case k9 => exact BindsTo.of_defaults rfl (S.kx _ _ rfl) rfl rfl rfl
  case kB => exact locs rfl
  case c2 => exact rfl
  case c3 => exact rfl
  case c4 => exact rfl
  case c5 => decide
  intro L cn cs a ccd cl' outer base g L' h₁ mg mb mean hke F N B KX T hg hgn hk1 hL
  try dsimp only
  try k_fold
  try (with_reducible refine wp_letA ?_; intro A9)

  have N1 : News g L' h₁ [(c, accObj dc ps.toArray ep), (dc, accDict hs tkd iv)] := news2 hc hdc hk1 hgn hL
  clear N
  have hne := neN (acc_ne hc hdc)

  have hlg := list_keep hg (list_apart hc hdc hl) hl
  try (with_reducible refine wp_letQ ?_; intro Qz1)
  k_steps
  unfold Hold
  (with_reducible rename Fr _ _ _ _ => F1)
  refine fr_let F1 ?_
  clear F1
  intro mz1x F1
  (with_reducible rename News _ _ _ _ => N1)
  refine' acc_setsliceK (lo := none) (a := 0) (vl := .none) (ps := ps) (ns := ns) (F1.push _) KX (N1.pushKeep _) ?kI ?kf ?ks ?kq ?kU (Heap.IsSliceOf.new _ _ _ _) (.inl ⟨rfl, rfl, rfl⟩) ?kl hsz ?_
  case kI => exact inst_acc (N1.pushKeep _) (.head _) (.tail _ (.head _))
  case kf => k_is
  case ks => k_is
  case kq => k_is
  case kU => k_updF
  case kl => exact list_keep (hid := []) (fun b o e _ => (F1.push _).keep b o e) (by simp) hlg
  intro h' n' F2 N2
  simp only [List.take_zero, List.nil_append] at N2
  clear F1 N1
  try (with_reducible refine wp_letQ ?_; intro Qz2)
  k_steps
  (with_reducible rename Fr _ _ _ _ => F3)
  refine fr_let F3 ?_
  clear F3
  intro mz2x F3
  (with_reducible rename News _ _ _ _ => N3)
  exact hret _ _ _ _ (N3 (c, _) (.head _)).1 (N3 (dc, _) (.tail _ (.head _))).1 (keepbut_end hg F3)


theorem reset_none {w : World} {A : Around} {s : Shared} {c dc : Addr} {ps : List Value} {ep : Nat} {hs : Int} {tkd : Tok} {iv : Value} {Q E : Value → Shared → Prop} (S : Site w 390 1900 [c, dc] A s) (hc : s.heap.get? c = some (accObj dc ps.toArray ep)) (hdc : s.heap.get? dc = some (accDict hs tkd iv)) (hsz : ps.length ≤ sizeLine)
  (hret : ∀ h' n' tk' t0, h'.get? c = some (accObj dc #[] n') → h'.get? dc = some (accDict hs tkd (.int 0 t0)) → KeepsBut [c, dc] s.heap h' → Q .none ⟨h', s.gens, s.drawn, tk', s.os⟩) :
    wpAny (model PySem.Challenge.rw_ty0042_01.row.prog w) A (call (.ref 181) [.ref c]) Q E s := by
  w_top off
  refine wpAny_call ?_
  refine' enterN _ S ?k6 ?k7 ?k8 ?k9 ?kB ?_ ?c5 ?c2 ?c3 ?c4
  case k6 => k_is
  case k7 => k_is
  case k8 => decide
  case k9 => exact BindsTo.of_defaults rfl (S.kx _ _ rfl) rfl rfl rfl
  case kB => exact locs rfl
  case c2 => exact rfl
  case c3 => exact rfl
  case c4 => exact rfl
  case c5 => decide
  intro L cn cs a ccd cl' outer base g L' h₁ mg mb mean hke F N B KX T hg hgn hk1 hL
  try dsimp only
  try k_fold
  try (with_reducible refine wp_letA ?_; intro A9)

  have N1 : News g L' h₁ [(c, accObj dc ps.toArray ep), (dc, accDict hs tkd iv)] := news2 hc hdc hk1 hgn hL
  clear N
  have hne := neN (acc_ne hc hdc)

  try (with_reducible refine wp_letQ ?_; intro Qz3)

  k_steps
  unfold Hold
  (with_reducible rename Fr _ _ _ _ => F1)
  refine fr_let F1 ?_
  clear F1
  intro mz3x F1
  (with_reducible rename News _ _ _ _ => N1)
  refine' acc_setsliceK (lo := none) (a := 0) (vl := .none) (ps := ps) (ns := []) (F1.push _) KX (N1.pushKeep _) ?kI ?kf ?ks ?kq ?kU (Heap.IsSliceOf.new _ _ _ _) (.inl ⟨rfl, rfl, rfl⟩) ?kl hsz ?_
  case kI => exact inst_acc (N1.pushKeep _) (.tail _ (.head _)) (.tail _ (.tail _ (.head _)))
  case kf => k_is
  case ks => k_is
  case kq => k_is
  case kU => k_updF
  case kl => exact ⟨_, (N1.pushKeep _ _ (.head _)).1, rfl, _, rfl⟩
  intro h' n' F2 N2
  simp only [List.take_zero, List.nil_append] at N2
  clear F1 N1
  try (with_reducible refine wp_letQ ?_; intro Qz4)
  k_steps
  (with_reducible rename Fr _ _ _ _ => F3)
  refine fr_let F3 ?_
  clear F3
  intro mz4x F3
  (with_reducible rename News _ _ _ _ => N3)
  exact hret _ _ _ _ (N3 (c, _) (.tail _ (.head _))).1 (N3 (dc, _) (.tail _ (.tail _ (.head _)))).1 (keepbut_end hg F3)
end

section
open PySem PySem.W PySem.Spec PySem.Calls PyProof.Rows PyProof.V PySem.SeqAt
section
variable {prog : Program} {w : World} {A : Around} {E : Value → Shared → Prop} {s : Shared} {K : Frag} {x : Addr} {od : Option Obj} {ox : Obj} {h₀ : Heap} {L : Addr} {m : Str → Option Value} {news : List (Addr × Obj)}
theorem acc_tail {value slice : Expr} {i : Value} {ops : List Value} {id : String} {Q : Value → Shared → Prop} (X : K.In s.heap) (I : InstAt s.heap x ox 199 od)
    (hf : findIn K (.ref 199) "__getitem__" = some (some (.builtin id))) (hg : wpAny (model prog w) A (getItem (.ref x) i) Q E s)
    (hs : subscripted slice false (.ref x) i = operate ops (getItem (.ref x) i)) : wpAny (model prog w) A (subscriptTail value slice (.ref x) i) Q E s := by
  have L1 : Looks (model prog w) s.heap (specialOf (.ref x) "__getitem__") (some (.builtin id)) := I.type.andThen (looks_findIn X hf)
  unfold subscriptTail
  refine wpAny_bind ?_
  rw [getitemInPython_of_ne (by intro h; cases h)]
  refine wpAny_bind (L1.here ?_)
  have fin : wpAny (model prog w) A (subscripted slice false (.ref x) i) (fun r s₃ => wpAny (model prog w) A (letTemporaryGo value (.ref x) r >>= fun _ => pure r) Q E s₃) E s := by
    rw [hs]
    exact wpAny_operating (wpAny_mono hg (fun r s₃ h₃ => wpAny_bind (wpAny_letTemporaryGo (wpAny_pure h₃))) fun _ _ x => x)
  first
    | exact wpAny_pure (wpAny_bind fin)
    | exact wpAny_bind (wpAny_pure (wpAny_bind fin))
    | exact wpAny_bind fin
theorem acc_slice_tail {value : Expr} {lw : Option Expr} {pp : Pos} {dc sl : Addr} {ps : List Value} {n a : Nat} {t : Tok} {Q : Value → Shared → Prop} (F : Fr h₀ L s.heap m) (X₀ : K.In h₀) (N : News h₀ L s.heap news) (I : InstAt s.heap x (accObj dc ps.toArray n) 199 od)
    (hf : findIn K (.ref 199) "__getitem__" = some (some (.builtin "list.__getitem__"))) (hs : subIn K (.ref 199) (.type "list") = some true) (hdq : subIn K (.ref 199) (.type "collections.deque") = some false)
    (hsl : s.heap.IsSliceOf sl (.int a t) .none .none) (hle : a ≤ ps.length) (hsz : ps.length ≤ sizeLine)
    (h : ∀ P h', Fr h₀ L h' m → News h₀ L h' ((P, { cls := .type "list", data := .seq (ps.drop a).toArray }) :: news) → (∀ p ∈ news, p.1 < P) → s.heap.get? P = none → Q (.ref P) { s with heap := h' }) :
    wpAny (model prog w) A (subscriptTail value (.Slice lw none none pp) (.ref x) (.ref sl)) Q E s := by
  refine acc_tail (ops := [.ref sl, .ref x]) (X₀.keeps F.keep) I hf (acc_getslice (X₀.keeps F.keep) I hf hs hdq hsl hle hsz ?_) rfl
  obtain ⟨hh, g, d, tk, os⟩ := s
  obtain ⟨F', N', l'⟩ := ks_newsPush (s := ⟨hh, g, d, tk, os⟩) (o := { cls := .type "list", data := .seq (ps.drop a).toArray }) F N rfl (Heap.get?_push_at rfl rfl) (fun b o e => Heap.get?_push_of_some _ e)
  refine h _ _ F' N' l' ?_
  cases e : hh.get? hh.objs.size with
  | none => rfl
  | some o => exact absurd (Heap.lt_size e) (Nat.lt_irrefl _)
theorem acc_int_tail {value slice : Expr} {dc : Addr} {ps : List Value} {n a : Nat} {t : Tok} {v : Value} {Q : Value → Shared → Prop} (F : Fr h₀ L s.heap m) (X₀ : K.In h₀) (I : InstAt s.heap x (accObj dc ps.toArray n) 199 od)
    (hf : findIn K (.ref 199) "__getitem__" = some (some (.builtin "list.__getitem__"))) (hs : subIn K (.ref 199) (.type "list") = some true) (hdq : subIn K (.ref 199) (.type "collections.deque") = some false)
    (hv : ps[a]? = some v) (hfit : (a : Int) < 2 ^ 63) (h : Q v s)
    (hsb : autoParam (subscripted slice false (.ref x) (.int a t) = operate [.ref x, .int a t] (getItem (.ref x) (.int a t))) au3._auto_1) :
    wpAny (model prog w) A (subscriptTail value slice (.ref x) (.int a t)) Q E s :=
  acc_tail (X₀.keeps F.keep) I hf (acc_getitem (X₀.keeps F.keep) I hf hs hdq hv hfit h) hsb
end
end

section
open PySem PySem.W PySem.Spec PySem.Calls PyProof.Rows
local macro_rules | `(tactic| walk_at "subscriptTail") => `(tactic| (k_here; refine hold_sub ?_))

theorem popfrom_call {w : World} {A : Around} {s : Shared} {c dc : Addr} {ps : List Value} {ep i : Nat} {hs : Int} {ti tkd : Tok} {iv : Value} {Q E : Value → Shared → Prop} (S : Site w 390 1900 [c, dc] A s) (hc : s.heap.get? c = some (accObj dc ps.toArray ep)) (hdc : s.heap.get? dc = some (accDict hs tkd iv)) (hi : i ≤ ps.length) (hsz : ps.length ≤ sizeLine)
  (hret : ∀ P h' n' tk', h'.IsList P (ps.drop i).toArray → s.heap.get? P = none → h'.get? c = some (accObj dc (ps.take i).toArray n') → KeepsBut [c] s.heap h' → Q (.ref P) ⟨h', s.gens, s.drawn, tk', s.os⟩) :
    wpAny (model PySem.Challenge.rw_ty0042_01.row.prog w) A (call (.ref 151) [.ref c, .int (i : Int) ti]) Q E s := by
  w_top off
  refine wpAny_call ?_
  refine' enterN _ S ?k6 ?k7 ?k8 ?k9 ?kB ?_ ?c5 ?c2 ?c3 ?c4
  case k6 => k_is
  case k7 => k_is
  case k8 => decide
  case k9 => exact BindsTo.of_defaults rfl (S.kx _ _ rfl) rfl rfl rfl
  case kB => exact locs rfl
  case c2 => exact rfl
  case c3 => exact rfl
  case c4 => exact rfl
  case c5 => decide
  intro L cn cs a ccd cl' outer base g L' h₁ mg mb mean hke F N B KX T hg hgn hk1 hL
  try dsimp only
  try k_fold
  try (with_reducible refine wp_letA ?_; intro A9)

  have N1 : News g L' h₁ [(c, accObj dc ps.toArray ep), (dc, accDict hs tkd iv)] := news2 hc hdc hk1 hgn hL
  clear N
  have hne := neN (acc_ne hc hdc)
  try (with_reducible refine wp_letQ ?_; intro Qz1)
  k_steps
  unfold Hold
  (with_reducible rename Fr _ _ _ _ => F1)
  refine fr_let F1 ?_
  clear F1
  intro mz1x F1
  (with_reducible rename News _ _ _ _ => N1)
  refine' acc_slice_tail (ps := ps) (a := i) (F1.push _) KX (N1.pushKeep _) ?kI ?kf ?ks ?kq (Heap.IsSliceOf.new _ _ _ _) hi hsz ?_
  case kI => exact inst_acc (N1.pushKeep _) (.head _) (.tail _ (.head _))
  case kf => k_is
  case ks => k_is
  case kq => k_is
  intro P h' F2 N2 l1 hPn
  have hPc : c ≠ P := Nat.ne_of_lt (l1 _ (.head _))
  have hPd : dc ≠ P := Nat.ne_of_lt (l1 _ (.tail _ (.head _)))
  have hPc' := neN hPc
  have hPd' := neN hPd
  clear F1 N1 hPn
  try (with_reducible refine wp_letQ ?_; intro Qz2)
  k_steps
  unfold Hold
  (with_reducible rename Fr _ _ _ _ => F1)
  refine fr_let F1 ?_
  clear F1
  intro mz2x F1
  (with_reducible rename News _ _ _ _ => N1)
  refine' acc_setsliceK (lo := some (i : Int)) (a := i) (vl := .int i ti) (ps := ps) (ns := []) (F1.push _) KX (N1.pushKeep _) ?kI ?kf ?ks ?kq ?kU (Heap.IsSliceOf.new _ _ _ _) (.inr ⟨_, rfl, rfl, hi⟩) ?kl hsz ?_
  case kI => exact inst_acc (N1.pushKeep _) (.tail _ (.tail _ (.head _))) (.tail _ (.tail _ (.tail _ (.head _))))
  case kf => k_is
  case ks => k_is
  case kq => k_is
  case kU => k_updF
  case kl => exact ⟨_, (N1.pushKeep _ _ (.head _)).1, rfl, _, rfl⟩
  intro h' n' F2 N2
  simp only [List.append_nil] at N2
  clear F1 N1
  try (with_reducible refine wp_letQ ?_; intro Qz3)
  k_steps
  (with_reducible rename Fr _ _ _ _ => F3)
  refine fr_let F3 ?_
  clear F3
  intro mz3x F3
  (with_reducible rename News _ _ _ _ => N3)
  exact hret _ _ _ _ ⟨_, (N3 _ (.tail _ (.head _))).1, rfl, _, rfl⟩ (new_two hg (N3 _ (.tail _ (.head _))).2.2 hPc.symm hPd.symm) (N3 (c, _) (.tail _ (.tail _ (.head _)))).1 (keepbut_one hg F3 N3 (.tail _ (.tail _ (.tail _ (.head _)))) hdc)
end

section
open PySem PySem.W PySem.Spec PySem.Calls PyProof.Rows PyProof.V PySem.SeqAt

theorem ln_kind : builtinKind "list.__new__" = some .builtinFn := by decide +kernel
theorem ln_split : splitId "list.__new__" = some ("list", "__new__") := by decide +kernel
theorem ln_row : Manifest.signature? "list.__new__" = some ⟨.any, "list", "list", .cls, [⟨"args", .varPos, false⟩, ⟨"kwargs", .varKw, false⟩]⟩ := by kernel_rfl
theorem ln_args (a b : Value) : Bind.checkArgs "list.__new__" ⟨.any, "list", "list", .cls, [⟨"args", .varPos, false⟩, ⟨"kwargs", .varKw, false⟩]⟩ ⟨[a, b], []⟩ = pure () := by kernel_rfl
noncomputable def dCls : Data → Option ClassData
  | .cls c => some c
  | _ => none
theorem dCls_of {d : Data} {c : ClassData} (h : dCls d = some c) : d = .cls c := by
  cases d <;> first | exact congrArg Data.cls (Option.some.inj h) | exact nomatch h
noncomputable def makesL (K : Frag) (C : Addr) : Bool := (K.lookup C).any fun o => (dCls o.data).any fun cd =>
  !cd.hasDel && (o.slots.toList[4]?).join == some (.builtin "list.__new__") && !cd.mro.isEmpty && cd.mro.contains (.ref C) && cd.mro.contains (.type "list") &&
      specialIn K (.ref C) "__call__" == some (some (.builtin "type.__call__")) && instIn K (.ref C) (.type "type") == some true
structure MakesL (M : Model) (h : Heap) (C : Addr) : Prop where
  obj : ∃ oc od cd sl, h.get? C = some ⟨oc, od, .cls cd, sl⟩ ∧ cd.hasDel = false ∧ cd.mro.isEmpty = false
  made : Looks M h (Bind.madeBy (.ref C)) (some "list.__new__")
  base : Looks M h (Bind.staticBase (.ref C)) (.ref C)
  self : Looks M h (isSubtype (.ref C) (.ref C)) true
  top : Looks M h (isSubtype (.ref C) (.type "list")) true
  call : Looks M h (specialOf (.ref C) "__call__") (some (.builtin "type.__call__"))
  typ : Looks M h (isInstance (.ref C) (.type "type")) true
theorem makesL_of {K : Frag} {M : Model} {h : Heap} (X : K.In h) {C : Addr} (e : makesL K C = true) : MakesL M h C := by
  obtain ⟨⟨oc, od, dt, sl⟩, ho, e⟩ := any_some e
  obtain ⟨cd, hcd, e⟩ := any_some e
  have hcd := dCls_of hcd
  dsimp only at hcd
  subst hcd
  · obtain ⟨e, e8⟩ := Bool.and_eq_true_iff.mp e
    obtain ⟨e, e7⟩ := Bool.and_eq_true_iff.mp e
    obtain ⟨e, e6⟩ := Bool.and_eq_true_iff.mp e
    obtain ⟨e, e5⟩ := Bool.and_eq_true_iff.mp e
    obtain ⟨e, e4⟩ := Bool.and_eq_true_iff.mp e
    obtain ⟨e2, e3⟩ := Bool.and_eq_true_iff.mp e
    have e2 := (Bool.not_eq_true' _).mp e2
    have e3 := eq_of_beq e3
    have e4 := (Bool.not_eq_true' _).mp e4
    have e7 := eq_of_beq e7
    have e8 := eq_of_beq e8
    have hc : clsIn K C = some cd := by unfold clsIn; rw [ho]
    have hm : Looks M h (mroOf (.ref C)) cd.mro := (looks_clsIn X hc).andThen .now
    obtain ⟨c, l, hl⟩ : ∃ c l, cd.mro = c :: l := by cases q : cd.mro with | nil => rw [q] at e4; cases e4 | cons c l => exact ⟨c, l, rfl⟩
    have made : Looks M h (Bind.madeBy (.ref C)) (some "list.__new__") := by
      intro A Q E s k q
      unfold Bind.madeBy
      refine wpAny_bind (hm A _ E s k ?_)
      rw [hl, List.forIn_cons]
      refine wpAny_bind (wpAny_bind (wpAny_bind (wpAny_bind (wpAny_loadPart (k _ _ (X _ _ ho)) (wpAny_pure ?_)))))
      rw [← Array.getElem?_toList, e3]
      exact wpAny_pure (wpAny_pure (wpAny_pure q))
    refine ⟨⟨oc, od, cd, sl, X _ _ ho, e2, e4⟩, made, ?_, looks_mroIn X ?_, looks_mroIn X ?_, looks_specialIn X e7, looks_instIn X e8⟩
    · intro A Q E s k q
      unfold Bind.staticBase
      refine wpAny_bind (hm A _ E s k ?_)
      rw [hl, List.forIn_cons]
      exact wpAny_bind (wpAny_bind (wpAny_bind (made A _ E s k (wpAny_pure (wpAny_pure (wpAny_pure q))))))
    · unfold mroIn; rw [hc, Option.bind_some, if_neg (by rw [e4]; decide), e5]
    · unfold mroIn; rw [hc, Option.bind_some, if_neg (by rw [e4]; decide), e6]
noncomputable abbrev instL (C dx : Addr) : Obj := { cls := .ref C, dict := some dx, data := .seq #[] }
section
variable {prog : Program} {w : World} {A : Around} {K : Frag} {C : Addr} {R : Result → Shared → Prop} {h : Heap} {g : Array GenState} {d : Drawn} {t : Nat} {os : OsState}
theorem newL {y : Value} (Y : MakesL (model prog w) h C)
    (hq : R (.ok (.ret (.ref (h.objs.size + 1)))) ⟨(h.push emptyDict).push (instL C h.objs.size), g, d, t, os⟩) :
    codeAny (model prog w) A (.call (.builtin "list.__new__") ⟨[.ref C, y], []⟩) R ⟨h, g, d, t, os⟩ := by
  obtain ⟨⟨oc, od, cd, sl, hC, e2, e4⟩, made, base, self, top, call, typ⟩ := Y
  refine codeAny_call_builtin_code (Code.quiet_builtin _ (by decide +kernel)) ?_
  simp only [checkBuiltinCall, ln_kind, ln_split, ln_row]
  rw [ln_args]
  repeat (first | refine wpAny_ite_false (Eq.refl false) ?_ | lk | simp only [bne_self_eq_false, Bool.false_eq_true, if_false])
  refine codeAny_builtin_stack F.entry_list_new rfl fun p st => ?_
  have hown := owner_list_new
  simp only [hown]
  repeat (first | refine wpAny_ite_false (Eq.refl false) ?_ | lk | simp only [bne_self_eq_false, Bool.false_eq_true, if_false, Bool.not_true])
  refine wpAny_load (Heap.get?_push_of_some _ (Heap.get?_push_of_some _ hC)) (wpAny_pure ?_)
  rw [e2]
  refine wpAny_pure (wpAny_pure ?_)
  show R _ _
  rw [Heap.size_push]
  exact hq
theorem makeL_core {y : Value} {fI : Addr} (Y : MakesL (model prog w) h C) (hi : Looks (model prog w) h (typeLookup (.ref C) "__init__") (some (.ref fI)))
    (hb : ∀ self, Looks (model prog w) h (bindSpecial (.ref fI) self) (.ref fI, [self]))
    (hq : codeAny (model prog w) (A.under (.builtin "type.__call__" ⟨[.ref C, y], []⟩)) (.call (.ref fI) ⟨[.ref (h.objs.size + 1), y], []⟩) (InitBack (h.objs.size + 1) R) ⟨(h.push emptyDict).push (instL C h.objs.size), g, d, t, os⟩) :
    codeAny (model prog w) A (.call (.ref C) ⟨[y], []⟩) R ⟨h, g, d, t, os⟩ := by
  have Y' := Y
  obtain ⟨⟨oc, od, cd, sl, hC, e2, e4⟩, made, base, self, top, call, typ⟩ := Y
  refine codeAny_of_tree ?_
  refine nd_load hC ?_
  show wpAny _ _ (callAny.viaDunder (.ref C) _) _ _ _
  unfold callAny.viaDunder
  refine wpAny_bind (call.at ?_)
  dsimp only
  rw [tc_bind]
  refine wpAny_bind (wpAny_pure (wpAny_bind (wpAny_pure ?_)))
  refine wpAny_pure (a := Fin.again (.call (.builtin "type.__call__") ⟨[.ref C, y], []⟩)) (And.intro rfl ?_)
  refine codeAny_call_builtin_at (Code.quiet_builtin _ (by decide +kernel)) entry_typeCall (check_slot tc_kind tc_split typ (tc_args _ _ _) ?_)
  unfold Builtin.«type.__call__»
  have hm : Looks (model prog w) h (mroOf (.ref C)) cd.mro := ((Looks.ld (part := none) hC).andThen .now).andThen .now
  repeat (first | refine wpAny_ite_false (Eq.refl false) ?_ | with_reducible refine wpAny_call ?_ | lk | simp only [e4, Bool.false_eq_true])
  refine newL Y' ?_
  have k : ∀ b o, h.get? b = some o → ((h.push emptyDict).push (instL C h.objs.size)).get? b = some o := fun b o e => Heap.get?_push_of_some _ (Heap.get?_push_of_some _ e)
  have hx : ((h.push emptyDict).push (instL C h.objs.size)).get? (h.objs.size + 1) = some (instL C h.objs.size) := by heap_get
  have t1 : Looks (model prog w) ((h.push emptyDict).push (instL C h.objs.size)) (typeOf (.ref (h.objs.size + 1))) (.ref C) := (Looks.ld hx).andThen .now
  have s1 := self.keeps k
  have i1 := hi.keeps k
  have b1 := (hb (.ref (h.objs.size + 1))).keeps k
  unfold isInstance callSpecial? specialOf
  repeat (first | with_reducible refine wpAny_call ?_ | lk)
  refine codeAny_mono hq fun r s' z => ?_
  rcases r with e | (v | _ | _ | _) <;> first | exact z | exact z.elim | skip
  obtain ⟨rfl, z⟩ := z
  exact wpAny_pure (wpAny_pure z)
end
section
variable {prog : Program} {w : World} {A : Around} {K : Frag} {C x : Addr} {s : Shared} {h₀ : Heap} {L : Addr} {m : Str → Option Value} {news : List (Addr × Obj)} {R : Result → Shared → Prop}
theorem makeL_K {y : Value} {fI : Addr} (F : Fr h₀ L s.heap m) (N : News h₀ L s.heap news) (X : K.In s.heap) (hm : makesL K C = true)
    (hi : findIn K (.ref C) "__init__" = some (some (.ref fI))) (hf : typeIn K (.ref fI) = some (.type "function"))
    (h : ∀ x dx h', Fr h₀ L h' m → News h₀ L h' ((x, instL C dx) :: (dx, emptyDict) :: news) → (∀ p ∈ news, p.1 < dx) → dx < x →
      codeAny (model prog w) (A.under (.builtin "type.__call__" ⟨[.ref C, y], []⟩)) (.call (.ref fI) ⟨[.ref x, y], []⟩) (InitBack x R) { s with heap := h' }) :
    codeAny (model prog w) A (.call (.ref C) ⟨[y], []⟩) R s := by
  obtain ⟨hh, g, d, t, os⟩ := s
  refine makeL_core (makesL_of X hm) (looks_findIn X hi) (fun self => bind_fn X self hf) (h _ hh.objs.size _ ((F.push _).push _) ?_ (fun p hp => Heap.lt_size (N p hp).1) (Nat.lt_succ_self _))
  have := (N.push F emptyDict).push (F.push _) (instL C hh.objs.size)
  rwa [Heap.size_push] at this
theorem makes199 (p : Params) : makesL (hd.heap_1 p) 199 = true := by rfl
end
end

section
open PySem PySem.W PySem.Spec PySem.Calls PyProof.Rows
local macro_rules | `(tactic| walk_at "getMethod ref") => `(tactic| (k_here; with_unfolding_all refine si_methK (h := ?_); intro q' h' F' N' l1; (try k_lt l1)))
local macro_rules | `(tactic| walk_at "callWith ref nil nil") => `(tactic| (k_here; refine callB (h := ?_)))
local macro_rules | `(tactic| walk_at "call ref") => `(tactic| (k_here; refine call_binit (h := ?_); intro h' n' F' N'))
local macro_rules | `(tactic| walk_at "wpAt") => `(tactic| ((with_reducible refine wpAt_id ?_); (ks_step "execs cons"); refine ks_wpAt_execs_cons ?_))
local macro_rules | `(tactic| walk_at "wpAt") => `(tactic| ((with_reducible refine wpAt_id ?_); (ks_step "exec Expr"); refine hold ?_))
local macro_rules | `(tactic| walk_at "wpAt") => `(tactic| ((with_reducible refine wpAt_id ?_); (ks_step "eval Call"); refine hold ?_))

theorem init_call {w : World} {A : Around} {s : Shared} {c dc : Addr} {ep : Nat} {k : Int} {t : Tok} {R : Result → Shared → Prop} (S : Site w 390 1900 [c, dc] A s) (hc : s.heap.get? c = some (accObj dc #[] ep)) (hdc : s.heap.get? dc = some (dictOf [] 0)) (hne0 : c ≠ dc)
  (hret : ∀ hs tkd h' n' tk', h'.get? c = some (accObj dc #[] n') → h'.get? dc = some (accDict hs tkd (.int k t)) → KeepsBut [c, dc] s.heap h' → R (.ok (.ret .none)) ⟨h', s.gens, s.drawn, tk', s.os⟩) :
    codeAny (model PySem.Challenge.rw_ty0042_01.row.prog w) A (.call (.ref 136) ⟨[.ref c, .int k t], []⟩) R s := by
  w_top off
  refine' enterS _ S ?k6 ?k7 ?k8 ?k9 ?kB ?_ ?c5 ?c2 ?c3 ?c4
  case k6 => k_is
  case k7 => k_is
  case k8 => decide
  case k9 => exact BindsTo.of_defaults rfl (S.kx _ _ rfl) rfl rfl rfl
  case kB => exact locs rfl
  case c2 => exact rfl
  case c3 => exact rfl
  case c4 => exact rfl
  case c5 => decide
  intro L cn cs a ccd cl' outer base g L' h₁ mg mb mean hke F N B KX T hg hgn hk1 hL
  try dsimp only
  try k_fold
  try (with_reducible refine wp_letA ?_; intro A9)

  have N1 : News g L' h₁ [(c, accObj dc ([] : List Value).toArray ep), (dc, dictOf [] 0)] := news2 hc hdc hk1 hgn hL
  clear N
  have hne := neN hne0
  try (with_reducible refine wp_letQ ?_; intro Qz1)
  k_steps
  unfold Hold
  refine ks_wpAt_Expr_any ?_
  refine ks_wpAt_MethodCall ?_
  try (with_reducible refine wp_letQ ?_; intro Qz2)
  k_steps
  (with_reducible rename Fr _ _ _ _ => F3)
  refine fr_let F3 ?_
  clear F3
  intro mz1x F3
  (with_reducible rename News _ _ _ _ => N3)
  refine' call_binit (ps := []) F3 N3 (.head _) ?kI ?kU (Nat.zero_le _) ?_
  case kI => exact inst_acc N3 (.tail _ (.tail _ (.head _))) (.tail _ (.tail _ (.tail _ (.head _))))
  case kU => k_updF
  intro h4 n4 F4 N4
  clear F3 N3
  try (with_reducible refine wp_letQ ?_; intro Qz3)
  k_steps
  exact hret _ _ _ _ _ (N4 (c, _) (.tail _ (.tail _ (.head _)))).1 (N4 (dc, _) (.tail _ (.tail _ (.tail _ (.head _))))).1 (keepbut_end hg F4)
end

section
open PySem PySem.W PySem.Spec PySem.Calls PyProof.Rows PyProof.V PySem.SeqAt
section
variable {prog : Program} {w : World} {A : Around} {E : Value → Shared → Prop} {s : Shared} {K : Frag} {x C L f : Addr} {h₀ : Heap} {m : Str → Option Value} {ox : Obj} {od : Option Obj}
theorem truthyL {Q : Bool → Shared → Prop} (F : autoParam (Fr h₀ L s.heap m) au4._auto_1) (X₀ : autoParam (K.In h₀) au4._auto_1) (I : autoParam (InstAt s.heap x ox C od) au6._auto_1) (hb : autoParam (findIn K (.ref C) "__bool__" = some none) au7._auto_1) (hs : autoParam (findIn K (.ref C) "__len__" = some (some (.ref f))) au7._auto_1) (hf : autoParam (isFn K (.ref f) = true) au7._auto_1)
    (h : wpAny (model prog w) (A.under (.builtin "len" ⟨[.ref x], []⟩)) (call (.ref f) [.ref x]) (W.LenBack fun v s' => match v with | .int n _ => Q (n != 0) s' | _ => False) E s) : wpAny (model prog w) A (truthy (.ref x)) Q E s := by
  have X := X₀.keeps F.keep
  unfold truthy
  refine wpAny_bind (m := callSpecial? (.ref x) (Str.ofString "__bool__")) (wpAny_bind (wpAny_bind (I.type.here ((looks_findIn X hb).here (wpAny_pure ?_)))))
  refine wpAny_bind (wpAny_bind (I.type.here ((looks_findIn X hs).here ?_)))
  refine wpAny_bind (wpAny_runValue (codeAny_builtin entry_len ?_))
  unfold Builtin.«len»
  refine wpAny_bind (m := oneArg "len" _) (wpAny_pure ?_)
  refine wpAny_bind (m := callSpecial? (.ref x) (Str.ofString "__len__")) (special_fn X I hs (beq_iff_eq.mp hf) (wpAny_mono h (fun r s' hr => ?_) fun _ _ y => y))
  cases r <;> first | exact hr.elim | skip
  rename_i n u
  obtain ⟨⟨h0, h1⟩, hq⟩ := hr
  refine wpAny_bind (wpAny_holding (wpAny_pure ?_))
  refine wpAny_bind (wpAny_letGo ?_)
  show wpAny _ _ (if n < 0 then _ else _) _ _ _
  rw [if_neg (by (first | lia | omega))]
  show wpAny _ _ (if n ≥ 2 ^ 63 then _ else _) _ _ _
  rw [if_neg (by (first | lia | omega))]
  exact wpAny_bind (wpAny_mkInt (wpAny_pure (wpAny_pure hq)))
end
end

section
open PySem PySem.W PySem.Spec PySem.Calls PyProof.Rows PyProof.V PySem.SeqAt
local macro_rules | `(tactic| walk_at "getAttr ref") => `(tactic| (k_here; refine geta_ini ?_))
local macro_rules | `(tactic| walk_at "truthy ref") => `(tactic| (k_here; refine truthyL (h := ?_)))
local macro_rules | `(tactic| walk_at "getAttr ref") => `(tactic| (k_here; refine hold_push ?_))

section
open PySem PySem.W PySem.Spec PySem.Calls PyProof.Rows
theorem kfill_C_len : PySem.Challenge.rw_ty0042_01 = PySem.Challenge.rw_ty0042_01 ∧ hd.heap_1 = hd.heap_1 := by
  k_fill
  exact ⟨rfl, rfl⟩
local macro_rules | `(tactic| walk_at "eval GeneratorExp") => `(tactic| (k_here; refine hold ?_))

theorem len_call {w : World} {A : Around} {s : Shared} {c dc : Addr} {ps : List Value} {qs : List (Str × Str)} {ep : Nat} {hs : Int} {tkd ti : Tok} {ini : Int} {tp : Array Value} {Q E : Value → Shared → Prop} (S : Site w 380 1800 [c, dc, 161] A s) (hb : AllBare s.gens) (hc : s.heap.get? c = some (accObj dc ps.toArray ep)) (hdc : s.heap.get? dc = some (accDict hs tkd (.int ini ti))) (hp : PartsAt s.heap ps qs) (htp : s.heap.get? 161 = some (tabObj tp)) (htp2 : tp = #[] ∨ ∃ c' : Addr, tp = #[rawInt 144, rawInt 19, .ref c']) (hfit : 0 ≤ ini ∧ ini + partLen qs < 2 ^ 40)
  (hret : ∀ t' h' gs tk', AllBare gs → KeepsBut [161] s.heap h' → TabSt h' 161 144 19 → Q (.int (ini + partLen qs) t') ⟨h', gs, s.drawn, tk', s.os⟩) :
    wpAny (model PySem.Challenge.rw_ty0042_01.row.prog w) A (call (.ref 166) [.ref c]) Q E s := by
  w_top off
  refine wpAny_call ?_
  refine' enterN _ S ?k6 ?k7 ?k8 ?k9 ?kB ?_ ?c5 ?c2 ?c3 ?c4
  case k6 => k_is
  case k7 => k_is
  case k8 => decide
  case k9 => exact BindsTo.of_eq rfl
  case kB => exact locs rfl
  case c2 => exact rfl
  case c3 => exact rfl
  case c4 => exact rfl
  case c5 => decide
  intro L cn cs a ccd cl' outer base g L' h₁ mg mb mean hke F N B KX T hg hgn hk1 hL
  try dsimp only
  try k_fold
  try (with_reducible refine wp_letA ?_; intro A9)

  refine gen_goal fun G9 hG9 => ?_
  obtain ⟨bm, ob, M⟩ := bmod_of_top T
  refine hG9 ?_
  clear hG9 G9
  refine gen_goal fun G9 hG9 => ?_
  obtain ⟨tvs, e1, e2, e3, e4⟩ := hp.tvs
  refine hG9 ?_
  clear hG9 G9
  subst e1
  have N1 : News g L' h₁ [(c, accObj dc (tvs.map (fun t => Value.ref t.1)).toArray ep), (dc, accDict hs tkd (.int ini ti)), (161, tabObj tp)] := news3 hc hdc htp hk1 hgn hL
  clear N
  have hneC : c ≠ 161 := by rintro rfl; rw [hc] at htp; cases htp
  have hneD : dc ≠ 161 := by rintro rfl; rw [hdc] at htp; cases htp
  try (with_reducible refine wp_letQ ?_; intro Qz1)
  k_steps
  unfold Hold
  (with_reducible rename Fr _ _ _ _ => F1)
  refine fr_let F1 ?_
  clear F1
  intro mz1x F1
  have ct := code_tab (cc := 165) (P := 161) (KX.keeps F1.keep 165 _ (by k_is)) rfl rfl rfl rfl rfl rfl rfl (N1 (161, tabObj tp) (.tail _ (.tail _ (.head _)))).1 htp2 (by decide)
  refine' genexp_acc (K := hd.heap_1 w.params) (cc := 165) (P := 161) (x := c) (tvs := tvs) (ox := accObj dc (tvs.map (fun t => Value.ref t.1)).toArray ep) F1 hb KX M rfl ct.1 ct.2 (hgn _ (by simp)) (N1 (161, tabObj tp) (.tail _ (.tail _ (.head _)))).2.1 rfl rfl rfl (by decide) rfl rfl rfl (by decide) rfl ?kroom ?kiter ?kI rfl ?ki ?ks ?kt ?klim (fun i v => ∃ a b t, qs[i]? = some (a, b) ∧ v = .int ((a.length : Int) + b.length) t) ?kps ?kel ?kpost ?ksf
  case kroom => exact (by decide : 381 < recursionLimit)
  case ki => k_is
  case ks => k_is
  case ksf => intro _; rfl
  case kI => exact inst_acc N1 (.head _) (.tail _ (.head _))
  case kt => exact fun t hm => (e3 t hm).at fun o e => hk1 _ _ e
  case klim => exact T.nolimit.keeps F1.keep
  case kps => exact among_tab (pos := { line := 144, col := 19, endLine := 144, endCol := 63 }) htp2
  case kiter =>
    intro Q E hq
    try (with_reducible refine wp_letQ ?_; intro Qz2)
    k_steps
    exact hq
  case kel =>
    intro c' C A' E' i va vb t m₂ hA hD hU hT Ft hm1 hm2
    obtain ⟨T₀, et⟩ := hT
    refine gen_goal fun G9 hG9 => ?_
    obtain ⟨xa, xb, ta, tb, eq, rfl, rfl⟩ := e4 _ _ _ _ et
    refine hG9 ?_
    clear hG9 G9
    have hle := partLen_mem _ _ _ _ eq
    refine wpAny_BinOp ?_
    refine gen_len Ft KX T (by k_is) rfl rfl rfl rfl rfl rfl hm1 (by decide) (by first | rfl | kernel_rfl) (by (first | lia | omega)) fun k1 k2 => ?_
    refine gen_len (t := { t with toks := k2 }) Ft KX T (by k_is) rfl rfl rfl rfl rfl rfl hm2 (by decide) (by first | rfl | kernel_rfl) (by (first | lia | omega)) fun k3 k4 => ?_
    refine add_int ?_
    exact ⟨⟨xa, xb, _, eq, rfl⟩, ⟨t.heap, _, rfl, fun _ _ e => e⟩⟩
  case kpost =>
    intro a₁ s₅ ps' hI hTb hcase F5 G5 hos hdr hk5 hX
    refine gen_goal fun G9 hG9 => ?_
    obtain ⟨h5, g5, d5, t5, os5⟩ := s₅
    refine hG9 ?_
    clear hG9 G9
    dsimp only at hos hdr hX G5 F5 hTb hk5
    subst hos hdr
    clear F1
    have N5 : News g L' h5 [(c, accObj dc (tvs.map (fun t => Value.ref t.1)).toArray ep), (dc, accDict hs tkd (.int ini ti)), (161, tabObj ps')] := by
      intro q hq
      revert q
      refine all_cons ?_ ?_
      · exact ⟨hk5 _ _ hneC (N1 _ (.head _)).1, (N1 _ (.head _)).2⟩
      refine all_cons ?_ ?_
      · exact ⟨hk5 _ _ hneD (N1 _ (.tail _ (.head _))).1, (N1 _ (.tail _ (.head _))).2⟩
      refine all_cons ?_ all_nil
      exact ⟨hTb.2, (N1 (161, tabObj tp) (.tail _ (.tail _ (.head _)))).2⟩
    clear N1
    try (with_reducible refine wp_letQ ?_; intro Qz3)
    k_steps
    (with_reducible rename Fr _ _ _ _ => F6)
    refine fr_let F6 ?_
    clear F6
    intro mz2x F6
    (with_reducible rename News _ _ _ _ => N6)
    have hpre : preSum (fun i => (lensOf qs).getD i 0) tvs.length = partLen qs := by
      rw [preSum_getD, e2, List.take_of_length_le (by simp [lensOf])]; rfl
    refine sum_start F6 G5 (gen_toks hX (by first | exact Nat.le_refl _ | exact Nat.le_succ _ | (first | lia | omega))) (Nat.le_refl _) (fun i => (lensOf qs).getD i 0) ?_ ?_ ?_ ?_
    · intro j v hz19x
      refine gen_goal fun G9 hG9 => ?_
      obtain ⟨xa, xb, t', eq, rfl⟩ := hz19x
      refine hG9 ?_
      clear hG9 G9
      exact ⟨t', by simp only [lens_at eq]⟩
    · have := partLen_nonneg qs
      exact ⟨by (first | lia | omega), by (first | lia | omega)⟩
    · intro j hj
      have h1 := lens_getD qs j
      have h2 := lens_take qs (j + 1)
      rw [preSum_getD]
      exact ⟨⟨by (first | lia | omega), by (first | lia | omega)⟩, ⟨by (first | lia | omega), by (first | lia | omega)⟩⟩
    · intro s' t' F7 G7 hos hdr hk7
      refine gen_goal fun G9 hG9 => ?_
      obtain ⟨h8, g8, d8, t8, o8⟩ := s'
      refine hG9 ?_
      clear hG9 G9
      dsimp only at hos hdr G7 F7 hk7
      subst hos hdr
      rw [hpre]
      have hcl : c ≤ L' := by rw [hL]; exact Nat.le_of_lt (Heap.lt_size hc)
      have hdl : dc ≤ L' := by rw [hL]; exact Nat.le_of_lt (Heap.lt_size hdc)
      have hPl : 161 ≤ L' := by rw [hL]; exact Nat.le_of_lt (Heap.lt_size htp)
      have b1 := hk7 _ _ hcl (N6 (c, _) (.head _)).1
      have b2 := hk7 _ _ hdl (N6 (dc, _) (.tail _ (.head _))).1
      have b3 := hk7 _ _ hPl (N6 (161, _) (.tail _ (.tail _ (.head _)))).1
      refine hret _ _ _ _ G7 (fun b o hb e => ?_) ⟨_, b3, tab_after (pos := { line := 144, col := 19, endLine := 144, endCol := 63 }) htp2 hcase⟩
      by_cases q1 : b = c
      · subst q1; rw [hc] at e; cases e; exact b1
      · by_cases q2 : b = dc
        · subst q2; rw [hdc] at e; cases e; exact b2
        · exact keepbut_end hg F7 b o (by simp only [List.mem_cons, List.not_mem_nil, or_false] at hb ⊢; exact fun z => z.elim q1 fun z => z.elim q2 hb) e
end

section
open PySem PySem.W PySem.Spec PySem.Calls PyProof.Rows PyProof.V PySem.SeqAt

inductive HidIn (news : List (Addr × Obj)) : List Addr → Prop
  | nil : HidIn news []
  | cons {a : Addr} {o : Obj} {l : List Addr} : (a, o) ∈ news → HidIn news l → HidIn news (a :: l)
theorem HidIn.mem {news : List (Addr × Obj)} {l : List Addr} (x : HidIn news l) : ∀ b ∈ l, ∃ o, (b, o) ∈ news := by
  induction x with
  | nil => intro b hb; cases hb
  | cons hm _ ih => intro b hb; cases hb with | head => exact ⟨_, hm⟩ | tail _ h => exact ih b h
theorem not_hid {h₀ h : Heap} {L : Addr} {news : List (Addr × Obj)} {hid : List Addr} (N : News h₀ L h news) (x : HidIn news hid) : L ∉ hid := fun q => by
  obtain ⟨o, hm⟩ := x.mem _ q
  exact (N _ hm).2.1 rfl
theorem none_hid {h₀ h : Heap} {L : Addr} {news : List (Addr × Obj)} {hid : List Addr} (N : News h₀ L h news) (x : HidIn news hid) : ∀ b ∈ hid, h₀.get? b = none := fun b q => by
  obtain ⟨o, hm⟩ := x.mem _ q
  exact (N _ hm).2.2
theorem parts_g {h g : Heap} {hid : List Addr} {ps : List Value} {qs : List (Str × Str)} (hp : PartsAt h ps qs) (hg : ∀ b o, h.get? b = some o → b ∉ hid → g.get? b = some o) (hn : ∀ b ∈ hid, ∀ o, h.get? b = some o → o.cls ≠ .type "tuple") : PartsAt g ps qs :=
  hp.keep fun T o e hc => hg T o e fun q => hn T q o e hc
/-- a ledger from a list of objects that lie in the heap -/
inductive AllAt (h : Heap) : List (Addr × Obj) → Prop
  | nil : AllAt h []
  | cons {a : Addr} {o : Obj} {l : List (Addr × Obj)} : h.get? a = some o → AllAt h l → AllAt h ((a, o) :: l)
theorem newsAll {s : Shared} {g h₁ : Heap} {L' : Addr} {l : List (Addr × Obj)} (x : AllAt s.heap l) (k : Keeps s.heap h₁) (hn : ∀ b ∈ l.map (·.1), g.get? b = none) (hL : L' = s.heap.objs.size) : News g L' h₁ l := by
  induction x with
  | nil => intro p hp; cases hp
  | cons ho _ ih =>
    intro p hp
    cases hp with
    | head => exact ⟨k _ _ ho, by rw [hL]; exact Nat.ne_of_lt (Heap.lt_size ho), hn _ (.head _)⟩
    | tail _ hm => exact ih (fun b hb => hn b (.tail _ hb)) p hm
theorem AllAt.cls {h : Heap} {l : List (Addr × Obj)} (x : AllAt h l) (hc : l.all (fun p => p.2.cls != .type "tuple") = true) : ∀ b ∈ l.map (·.1), ∀ o, h.get? b = some o → o.cls ≠ .type "tuple" := by
  induction x with
  | nil => intro b hb; cases hb
  | cons ho _ ih =>
    intro b hb o e
    simp only [List.all_cons, Bool.and_eq_true] at hc
    cases hb with
    | head => rw [ho] at e; cases e; simpa using hc.1
    | tail _ hm => exact ih hc.2 b hm o e
theorem news_updB {h₀ h h' : Heap} {L c : Addr} {news : List (Addr × Obj)} {gg : Obj → List (Addr × Obj)} {o o' : Obj} (N : News h₀ L h news) (U : UpdF c o news gg) (k : KeepsBut [c] h h') (hc : h'.get? c = some o') : News h₀ L h' (gg o') := news_upd1 N U k hc
theorem keepbut_hid {s : Shared} {g h' : Heap} {L : Addr} {m : Str → Option Value} {hid wr : List Addr} {news : List (Addr × Obj)} (hg : ∀ b o, s.heap.get? b = some o → b ∉ hid → g.get? b = some o) (F : Fr g L h' m) (N : News g L h' news)
    (hk : ∀ b ∈ hid, b ∉ wr → ∃ o, (b, o) ∈ news ∧ s.heap.get? b = some o) : KeepsBut wr s.heap h' := fun b o hb e => by
  by_cases q : b ∈ hid
  · obtain ⟨o', h1, h2⟩ := hk b q hb
    rw [e] at h2; cases h2
    exact (N _ h1).1
  · exact keepbut_end hg F b o q e
inductive KeptIn (news : List (Addr × Obj)) (h : Heap) (wr : List Addr) : List Addr → Prop
  | nil : KeptIn news h wr []
  | skip {a : Addr} {l : List Addr} : a ∈ wr → KeptIn news h wr l → KeptIn news h wr (a :: l)
  | keep {a : Addr} {o : Obj} {l : List Addr} : (a, o) ∈ news → h.get? a = some o → KeptIn news h wr l → KeptIn news h wr (a :: l)
theorem KeptIn.all {news : List (Addr × Obj)} {h : Heap} {wr l : List Addr} (x : KeptIn news h wr l) : ∀ b ∈ l, b ∉ wr → ∃ o, (b, o) ∈ news ∧ h.get? b = some o := by
  induction x with
  | nil => intro b hb; cases hb
  | skip hw _ ih => intro b hb hn; cases hb with | head => exact absurd hw hn | tail _ q => exact ih b q hn
  | keep hm ho _ ih => intro b hb hn; cases hb with | head => exact ⟨_, hm, ho⟩ | tail _ q => exact ih b q hn
theorem keepbut_wr {s : Shared} {g h' : Heap} {L : Addr} {m : Str → Option Value} {hid wr : List Addr} {news : List (Addr × Obj)} (hg : ∀ b o, s.heap.get? b = some o → b ∉ hid → g.get? b = some o) (F : Fr g L h' m) (N : News g L h' news)
    (hk : KeptIn news s.heap wr hid) : KeepsBut wr s.heap h' := keepbut_hid hg F N hk.all
end

section
open PySem PySem.W PySem.Spec PySem.Calls PyProof.Rows
local macro_rules | `(tactic| walk_at "z") => `(tactic| skip)
local macro_rules | `(tactic| walk_at "call ref") => `(tactic| (k_here; refine hold ?_))

theorem ows_size {w : World} {A : Around} {s : Shared} {c dc : Addr} {ps : List Value} {ep : Nat} {hs : Int} {tkd ti : Tok} {ini : Int} {Q E : Value → Shared → Prop} (S : Site w 370 1700 [c, dc] A s) (hc : s.heap.get? c = some (accObj dc ps.toArray ep)) (hdc : s.heap.get? dc = some (accDict hs tkd (.int ini ti))) (hi : 0 < ini)
  (hret : ∀ h' tk', Keeps s.heap h' → Q (.bool false) ⟨h', s.gens, s.drawn, tk', s.os⟩) :
    wpAny (model PySem.Challenge.rw_ty0042_01.row.prog w) A (call (.ref 188) [.ref c]) Q E s := by
  w_top off
  refine wpAny_call ?_
  refine' enterN _ S ?k6 ?k7 ?k8 ?k9 ?kB ?_ ?c5 ?c2 ?c3 ?c4
  case k6 => k_is
  case k7 => k_is
  case k8 => decide
  case k9 => exact BindsTo.of_eq rfl
  case kB => exact locs rfl
  case c2 => exact rfl
  case c3 => exact rfl
  case c4 => exact rfl
  case c5 => decide
  intro L cn cs a ccd cl' outer base g L' h₁ mg mb mean hke F N B KX T hg hgn hk1 hL
  try dsimp only
  try k_fold
  try (with_reducible refine wp_letA ?_; intro A9)

  have N1 : News g L' h₁ [(c, accObj dc ps.toArray ep), (dc, accDict hs tkd (.int ini ti))] := news2 hc hdc hk1 hgn hL
  clear N
  have hne := neN (acc_ne hc hdc)
  try (with_reducible refine wp_letQ ?_; intro Qz1)
  k_steps
  · exfalso; simp at *; (first | lia | omega)
  · have e : (ini == 0) = false := by simp; (first | lia | omega)
    rw [e]
    exact hret _ _ (keep_two hg (by k_asm) (by k_asm) (by k_mem) (by k_mem) hc hdc)


theorem ows_text {w : World} {A : Around} {s : Shared} {c dc : Addr} {ps : List Value} {qs : List (Str × Str)} {ep : Nat} {hs : Int} {tkd ti : Tok} {tp1 tp2 : Array Value} {Q E : Value → Shared → Prop} (S : Site w 370 1700 [c, dc, 161, 168] A s) (hb : AllBare s.gens) (hc : s.heap.get? c = some (accObj dc ps.toArray ep)) (hdc : s.heap.get? dc = some (accDict hs tkd (.int 0 ti))) (hp : PartsAt s.heap ps qs) (ht1 : s.heap.get? 161 = some (tabObj tp1)) (htp1 : tp1 = #[] ∨ ∃ c' : Addr, tp1 = #[rawInt 144, rawInt 19, .ref c']) (ht2 : s.heap.get? 168 = some (tabObj tp2)) (htp2 : tp2 = #[] ∨ ∃ c' : Addr, tp2 = #[rawInt 147, rawInt 32, .ref c']) (hpos : 0 < partLen qs) (hfit : partLen qs < 2 ^ 20) (hqs : qs.length ≤ sizeLine) (hsp : Txt.isspace (partText qs) = false)
  (hret : ∀ h' gs tk', AllBare gs → KeepsBut [161, 168] s.heap h' → TabSt h' 161 144 19 → TabSt h' 168 147 32 → Q (.bool false) ⟨h', gs, s.drawn, tk', s.os⟩) :
    wpAny (model PySem.Challenge.rw_ty0042_01.row.prog w) A (call (.ref 188) [.ref c]) Q E s := by
  w_top off
  refine wpAny_call ?_
  refine' enterN _ S ?k6 ?k7 ?k8 ?k9 ?kB ?_ ?c5 ?c2 ?c3 ?c4
  case k6 => k_is
  case k7 => k_is
  case k8 => decide
  case k9 => exact BindsTo.of_eq rfl
  case kB => exact locs rfl
  case c2 => exact rfl
  case c3 => exact rfl
  case c4 => exact rfl
  case c5 => decide
  intro L cn cs a ccd cl' outer base g L' h₁ mg mb mean hke F N B KX T hg hgn hk1 hL
  try dsimp only
  try k_fold
  try (with_reducible refine wp_letA ?_; intro A9)

  have al : AllAt s.heap [(c, accObj dc ps.toArray ep), (dc, accDict hs tkd (.int 0 ti)), (161, tabObj tp1), (168, tabObj tp2)] := .cons hc (.cons hdc (.cons ht1 (.cons ht2 .nil)))
  have N1 := newsAll al hk1 hgn hL
  have hpg := parts_g hp hg (al.cls rfl)
  have hneA := neN (show 161 ≠ c from by rintro rfl; rw [hc] at ht1; cases ht1)
  have hneB := neN (show 161 ≠ dc from by rintro rfl; rw [hdc] at ht1; cases ht1)
  have hneC := neN (show 168 ≠ c from by rintro rfl; rw [hc] at ht2; cases ht2)
  have hneD := neN (show 168 ≠ dc from by rintro rfl; rw [hdc] at ht2; cases ht2)
  clear N
  have hne := neN (acc_ne hc hdc)
  try (with_reducible refine wp_letQ ?_; intro Qz2)
  k_steps
  unfold Hold
  (with_reducible rename Fr _ _ _ _ => F1)
  refine fr_let F1 ?_
  clear F1
  intro mz1x F1
  (with_reducible rename News _ _ _ _ => N1)
  refine' len_call (ini := 0) (qs := qs) (site_of rfl ?k1 ?k2 ?k3 ?k4 rfl ?k5 ?k6 rfl ?k7 ?k8) ?kb ?kc ?kd ?kp ?kt ?ku ?kf ?_
  case k1 => k_asm
  case k2 => k_asm
  case k3 => k_asm
  case k4 => k_asm
  case k5 => exact Nat.le_of_ble_eq_true rfl
  case k6 => exact Nat.le_of_ble_eq_true rfl
  case kc => exact News.get N1 (by k_mem)
  case kd => exact News.get N1 (by k_mem)
  case kt => exact News.get N1 (by k_mem)
  case k7 => exact not_hid N1 (by repeat (first | exact HidIn.nil | refine HidIn.cons (by k_mem) ?_))
  case k8 => exact none_hid N1 (by repeat (first | exact HidIn.nil | refine HidIn.cons (by k_mem) ?_))
  case kb => exact hb
  case kp => exact (hpg.keep fun T o e _ => F1.keep T o e)
  case ku => assumption
  case kf => exact ⟨Int.le_refl _, by (first | lia | omega)⟩
  intro t' h' gs' tk' hb2 kb' ⟨tq2, ht', hq2⟩
  have F2 := fr_but F1 kb' (none_hid N1 (by repeat (first | exact HidIn.nil | refine HidIn.cons (by k_mem) ?_))) (not_hid N1 (by repeat (first | exact HidIn.nil | refine HidIn.cons (by k_mem) ?_)))
  have N2 := news_upd1 N1 (by k_updF) kb' ht'
  clear F1 N1 kb'

  refine ⟨⟨by (first | lia | omega), by (first | lia | omega)⟩, ?_⟩
  dsimp only
  have hnz : ((0 : Int) + partLen qs != 0) = true := by rw [Int.zero_add]; exact bne_iff_ne.mpr (by (first | lia | omega))
  rw [hnz]
  try (with_reducible refine wp_letQ ?_; intro Qz3)
  k_steps
  unfold Hold
  refine' str_call (qs := qs) (site_of rfl ?k1 ?k2 ?k3 ?k4 rfl ?k5 ?k6 rfl ?k7 ?k8) ?kb ?kc ?kd ?kp ?kt ?ku ?kf ?kg ?_
  case k1 => k_asm
  case k2 => k_asm
  case k3 => k_asm
  case k4 => k_asm
  case k5 => exact Nat.le_of_ble_eq_true rfl
  case k6 => exact Nat.le_of_ble_eq_true rfl
  case kc => exact News.get N2 (by k_mem)
  case kd => exact News.get N2 (by k_mem)
  case kt => exact News.get N2 (by k_mem)
  case k7 => exact not_hid N2 (by repeat (first | exact HidIn.nil | refine HidIn.cons (by k_mem) ?_))
  case k8 => exact none_hid N2 (by repeat (first | exact HidIn.nil | refine HidIn.cons (by k_mem) ?_))
  case kb => exact hb2
  case kp => exact (hpg.keep fun T o e _ => F2.keep T o e)
  case ku => assumption
  case kf => exact hfit
  case kg => exact hqs
  intro t' h' gs' tk' hb3 kb' ⟨tq3, ht', hq3⟩
  have F3 := fr_but F2 kb' (none_hid N2 (by repeat (first | exact HidIn.nil | refine HidIn.cons (by k_mem) ?_))) (not_hid N2 (by repeat (first | exact HidIn.nil | refine HidIn.cons (by k_mem) ?_)))
  have N3 := news_upd1 N2 (by k_updF) kb' ht'
  clear F2 N2 kb'

  unfold W.StrBack
  dsimp only
  try (with_reducible refine wp_letQ ?_; intro Qz4)
  k_steps
  rw [hsp]
  exact hret _ _ _ hb3 (keepbut_wr hg F3 N3 (by repeat (first | exact KeptIn.nil | refine KeptIn.skip (by first | exact .head _ | exact .tail _ (.head _) | exact .tail _ (.tail _ (.head _)) | exact .tail _ (.tail _ (.tail _ (.head _))) | exact .tail _ (.tail _ (.tail _ (.tail _ (.head _))))) ?_ | refine KeptIn.keep (by k_mem) (by assumption) ?_))) ⟨_, (N3 (161, _) (by k_mem)).1, hq2⟩ ⟨_, (N3 (168, _) (by k_mem)).1, hq3⟩
end

section
open PySem PySem.W PySem.Spec PySem.Calls PyProof.Rows PyProof.V PySem.SeqAt

structure PT where
  (a1 a2 a3 a4 a5 a6 : Int)
  (b1 b2 b3 b4 b5 b6 : Tok)
noncomputable abbrev pageDict (T : PT) (mx ws wl sc ln cl : Value) : Obj := dictOf [⟨T.a1, .str "_maxlen" T.b1, mx⟩, ⟨T.a2, .str "_continuation_ws" T.b2, ws⟩, ⟨T.a3, .str "_continuation_ws_len" T.b3, wl⟩, ⟨T.a4, .str "_splitchars" T.b4, sc⟩, ⟨T.a5, .str "_lines" T.b5, ln⟩, ⟨T.a6, .str "_current_line" T.b6, cl⟩] 6
theorem fresh_ne {h₀ h : Heap} {L T : Addr} {news : List (Addr × Obj)} (N : News h₀ L h news) (hT : h.get? T = none) : ∀ p ∈ news, p.1 ≠ T := fun p hp q => by
  have := (N p hp).1
  rw [q, hT] at this; cases this
theorem PartsAt.nil_inv {h : Heap} {ps : List Value} (x : PartsAt h ps []) : ps = [] := by cases x; rfl
theorem PartsAt.unsnocE {h : Heap} {zs : List (Str × Str)} {ps : List Value} (x : PartsAt h ps zs) : ∀ (a b : Str) (qs : List (Str × Str)), zs = qs ++ [(a, b)] → ∃ ps0 T ta tb, ps = ps0 ++ [Value.ref T] ∧ IsTup h T #[.str a ta, .str b tb] ∧ PartsAt h ps0 qs := by
  induction x with
  | nil => intro a b qs e; simp at e
  | @cons T x y tx ty ps zs ht hr ih =>
    intro a b qs e
    cases qs with
    | nil =>
      rw [List.nil_append, List.cons.injEq, Prod.mk.injEq] at e
      obtain ⟨⟨e1, e2⟩, e3⟩ := e
      subst e1 e2 e3
      refine ⟨[], T, tx, ty, ?_, ht, .nil⟩
      rw [hr.nil_inv]; rfl
    | cons q qs =>
      rw [List.cons_append, List.cons.injEq] at e
      obtain ⟨e1, e2⟩ := e
      subst e1
      obtain ⟨ps0, T', ta, tb, e3, h1, h2⟩ := ih a b qs e2
      exact ⟨.ref T :: ps0, T', ta, tb, by rw [e3]; rfl, h1, .cons ht h2⟩
theorem PartsAt.unsnoc {h : Heap} {a b : Str} {qs : List (Str × Str)} {ps : List Value} (x : PartsAt h ps (qs ++ [(a, b)])) : ∃ ps0 T ta tb, ps = ps0 ++ [Value.ref T] ∧ IsTup h T #[.str a ta, .str b tb] ∧ PartsAt h ps0 qs := x.unsnocE a b qs rfl
theorem news_freshI {h₀ h h' : Heap} {L T : Addr} {news : List (Addr × Obj)} {o : Obj} {m : Str → Option Value} (N : News h₀ L h' news) (F : Fr h₀ L h m) (hT : h.get? T = none) (ho : h'.get? T = some o) : News h₀ L h' ((T, o) :: news) := by
  intro p hp
  cases hp with
  | head =>
    refine ⟨ho, ?_, ?_⟩
    · rintro rfl
      obtain ⟨oL, es, ep, e, r⟩ := F.ns
      rw [hT] at e; cases e
    · cases e : h₀.get? T with
      | none => rfl
      | some o' => have := F.keep _ _ e; rw [hT] at this; cases this
  | tail _ hm => exact N p hm
end

section
open PySem PySem.W PySem.Spec PySem.Calls PyProof.Rows PyProof.V PySem.SeqAt
section
variable {prog : Program} {w : World} {A : Around} {E : Value → Shared → Prop} {s : Shared} {a b : Addr} {x y u v : Str} {tx ty tu tv : Tok}
theorem reads_pair {h : Heap} (ht : IsTup h a #[.str x tx, .str y ty]) : ∃ as, Reads h (.ref a) (.tuple [.str x, .str y]) as := by
  obtain ⟨o, ho, hc, n, hd⟩ := ht
  exact ⟨_, Reads.tuple ho hc hd (.cons (.str _ _) (.cons (.str _ _) .nil))⟩
theorem shaped_pair (x y : Str) (hx : PyData.strOk x = true) (hy : PyData.strOk y = true) : shaped (.tuple [.str x, .str y]) = true := by
  simp [SeqAt.shaped, PyData.canLay0, PyData.depth, PyData.canLayAll0, PyData.depthAll, hx, hy]
theorem ne_pair {Q : Value → Shared → Prop} (h1 : IsTup s.heap a #[.str x tx, .str y ty]) (h2 : IsTup s.heap b #[.str u tu, .str v tv]) (hu : A.units + 64 < cLine) (ox : PyData.strOk x = true) (oy : PyData.strOk y = true) (ou : PyData.strOk u = true) (ov : PyData.strOk v = true)
    (h : Q (.bool (!decide (x = u ∧ y = v))) s) : wpAny (model prog w) A (compareOp .NotEq (.ref a) (.ref b)) Q E s := by
  obtain ⟨as, ra⟩ := reads_pair h1
  obtain ⟨bs, rb⟩ := reads_pair h2
  refine ne_dataH_same ra rb (shaped_pair x y ox oy) (shaped_pair u v ou ov) hu (by simp [noMix, noMixAll]) ?_
  have e : PySem.Spec.same (.tuple [.str x, .str y]) (.tuple [.str u, .str v]) = decide (x = u ∧ y = v) := by
    simp only [PySem.Spec.same, PySem.Spec.sameAll]
    by_cases h1 : x = u <;> by_cases h2 : y = v <;> simp [h1, h2]
  rw [e]; exact h
end
open PySem PySem.W PySem.Spec PySem.Calls PyProof.Rows PyProof.V PySem.SeqAt
/-- two entries of a ledger are changed, one behind the other -/
theorem news_upd2 {h₀ h h' : Heap} {L a b : Addr} {news : List (Addr × Obj)} {gg : Obj → List (Addr × Obj)} {gg2 : Obj → List (Addr × Obj)} {oa oa' ob ob' : Obj} (N : News h₀ L h news) (U : UpdF a oa news gg) (U2 : UpdF b ob (gg oa') gg2) (k : KeepsBut [a, b] h h') (ha : h'.get? a = some oa') (hb : h'.get? b = some ob') : News h₀ L h' (gg2 ob') := by
  obtain ⟨pre, post, hl', hg, q1, q2⟩ := U.split
  obtain ⟨pre2, post2, hl2, hg2, r1, r2⟩ := U2.split
  have hA : (a, oa) ∈ news := by rw [hl']; simp
  have hN : ∀ p ∈ gg oa', p.1 = a ∧ p.2 = oa' ∨ p ∈ news ∧ p.1 ≠ a := by
    rw [hg, hl']
    intro p hp
    rcases List.mem_append.mp hp with q | q
    · exact .inr ⟨List.mem_append_left _ q, q1 p q⟩
    · rcases List.mem_cons.mp q with rfl | q
      · exact .inl ⟨rfl, rfl⟩
      · exact .inr ⟨List.mem_append_right _ (.tail _ q), q2 p q⟩
  have hfr : ∀ p ∈ gg oa', p.1 ≠ L ∧ h₀.get? p.1 = none := by
    intro p hp
    rcases hN p hp with ⟨e, _⟩ | ⟨e, _⟩
    · rw [e]; exact (N _ hA).2
    · exact (N _ e).2
  have hB : (b, ob) ∈ gg oa' := by rw [hl2]; simp
  rw [hg2]
  intro p hp
  have case1 : p ∈ gg oa' → p.1 ≠ b → h'.get? p.1 = some p.2 := by
    intro hm hne
    rcases hN p hm with ⟨e1, e2⟩ | ⟨e1, e2⟩
    · rw [e1, e2]; exact ha
    · exact k _ _ (by simp [e2, hne]) (N _ e1).1
  rcases List.mem_append.mp hp with q | q
  · have hm : p ∈ gg oa' := by rw [hl2]; exact List.mem_append_left _ q
    exact ⟨case1 hm (r1 p q), hfr p hm⟩
  · rcases List.mem_cons.mp q with rfl | q
    · exact ⟨hb, hfr (b, ob) hB⟩
    · have hm : p ∈ gg oa' := by rw [hl2]; exact List.mem_append_right _ (.tail _ q)
      exact ⟨case1 hm (r2 p q), hfr p hm⟩
open PySem PySem.W PySem.Spec PySem.Calls PyProof.Rows PyProof.V PySem.SeqAt
theorem okE : PyData.strOk (Str.ofString "") = true := by decide +kernel
theorem okB : PyData.strOk (Str.ofString " ") = true := by decide +kernel
/-- a tuple's items as starred arguments -/
theorem star_tup {prog : Program} {w : World} {A : Around} {E : Value → Shared → Prop} {s : Shared} {h₀ : Heap} {L a : Addr} {m : Str → Option Value} {news : List (Addr × Obj)} {ws : List Value} {Q : List Value → Shared → Prop} (F : Fr h₀ L s.heap m) (N : News h₀ L s.heap news) (ht : IsTup s.heap a ws.toArray)
    (hz : ws.length ≤ sizeLine) (h : ∀ h', Fr h₀ L h' m → News h₀ L h' news → Q ws { s with heap := h' }) : StarOf (model prog w) A E (.ref a) Q s := by
  obtain ⟨o, D, hc, n, hd⟩ := ht
  have hT' : s.TypeIs (.ref a) "tuple" := ⟨o, D, hc⟩
  have z : wpAny (model prog w) A (collect (.ref a)) Q E s := by
    refine wpAny_collect_seq a (.inr rfl) D hc hd (fun h' hk => h h' ?_ fun p hp => ⟨hk _ _ (N p hp).1, (N p hp).2⟩) (by simpa using hz)
    obtain ⟨oL, es, ep, hL, r⟩ := F.ns
    exact ⟨⟨oL, es, ep, hk _ _ hL, r⟩, fun b x q => hk _ _ (F.keep b x q), F.above⟩
  unfold StarOf notIterableAtAll
  exact wpAny_bind (wpAny_specialOf hT' PySem.F.slot_tuple_iter.lookup (wpAny_pure ⟨rfl, z⟩))
end

section
open PySem PySem.W PySem.Spec PySem.Calls PyProof.Rows PyProof.V PySem.SeqAt
section
variable {prog : Program} {w : World} {A : Around} {E : Value → Shared → Prop} {s : Shared} {K : Frag} {x C f : Addr} {ox : Obj} {od : Option Obj} {name : Str} {h₀ : Heap} {L : Addr} {m : Str → Option Value} {news : List (Addr × Obj)}
theorem ga_bindL {t : Tok} {Q : Value → Shared → Prop} (X : K.In s.heap) (I : InstAt s.heap x ox C od) (hsub : subIn K (.ref C) (.type "list") = some true) (hf : findObj K C od name = some (.bind (.builtin "function.__get__") (.ref f))) (ht : typeIn K (.ref f) = some (.type "function"))
    (h : Q (.ref s.heap.objs.size) { s with heap := s.heap.push (methodObj (.ref f) (.ref x)) }) :
    wpAny (model prog w) A (call (.builtin "list.__getattribute__") [.ref x, .str name t]) Q E s := by
  have L4 : Looks (model prog w) s.heap (isInstance (.ref x) (.type "list")) true := I.type.andThen (looks_subIn X hsub)
  refine wpAny_call ?_
  refine codeAny_call_builtin (id := "list.__getattribute__") (b := Builtin.«object.__getattribute__») slot_list_ga.plain am_entry_list_getattribute ?_
  refine @check_slot (model prog w) _ _ s "list.__getattribute__" "list" "__getattribute__" (.ref x) [.str name t] [] _ ga_kind ga_split L4 (ga_args _ _) ?_
  have L0 := I.type (M := model prog w)
  have L3 := looks_find (M := model prog w) X I hf
  unfold Builtin.«object.__getattribute__»
  refine wpAny_bind (m := slotArgs "__getattribute__" 1 ⟨[.ref x, .str name t], []⟩) (wpAny_pure (a := (Value.ref x, [Value.str name t])) ?_)
  refine wpAny_bind (m := Builtin.ObjectAttr.attrName (.str name t)) (wpAny_pure (a := name) ?_)
  refine wpAny_bind (L0.here ?_)
  refine wpAny_bind (L3.here ?_)
  refine wpAny_bind (wpAny_holding (wpAny_call (fn_get X ht ?_)))
  exact wpAny_pure h
theorem getm_obj {expr : Bool} {Q : Value → Shared → Prop} (F : Fr h₀ L s.heap m) (X₀ : K.In h₀) (N : News h₀ L s.heap news) (I : InstAt s.heap x ox C od) (hga : findIn K (.ref C) "__getattribute__" = some (some (.builtin "list.__getattribute__"))) (hk : findIn K (.ref C) "__getattr__" = some none)
    (hsub : subIn K (.ref C) (.type "list") = some true) (hf : findObj K C od name = some (.bind (.builtin "function.__get__") (.ref f))) (ht : typeIn K (.ref f) = some (.type "function"))
    (h : ∀ q h', Fr h₀ L h' m → News h₀ L h' ((q, methodObj (.ref f) (.ref x)) :: news) → (∀ p ∈ news, p.1 < q) → Q (.ref q) { s with heap := h', toks := s.toks + 1 }) :
    wpAny (model prog w) A (getAttr (.ref x) name expr) Q E s := by
  obtain ⟨hp, g, d, t, os⟩ := s
  have X : K.In hp := X₀.keeps F.keep
  have L0 := I.type (M := model prog w)
  have L1 := looks_findIn (M := model prog w) X hga
  have L2 := looks_findIn (M := model prog w) X hk
  unfold getAttr getAttrBy
  refine wpAny_bind (wpAny_mkText (wpAny_holding (wpAny_bind (L0.at (wpAny_bind (L1.at ?_))))))
  have hne : (Value.builtin "list.__getattribute__" == Value.builtin "object.__getattribute__") = false := by decide +kernel
  dsimp only [onTheHeap, hne, Bool.and_false, Bool.false_eq_true, if_false]
  unfold getAttrByItsOwn hookBefore
  dsimp only [onTheHeap, if_true]
  refine wpAny_bind (L2.at ?_)
  refine wpAny_bind (wpAny_attempt (wpAny_holding ?_))
  unfold callGetattribute
  simp only [onTheHeap, Bool.and_false, Bool.false_eq_true, if_false]
  unfold boundAndCalled
  rw [slot_list_ga.bind]
  refine wpAny_bind (m := pure _) (wpAny_pure ?_)
  refine ga_bindL (s := ⟨hp, g, d, t + 1, os⟩) X I hsub hf ht ?_
  show wpAny _ _ (handedOut _) _ _ _
  rw [handedOut_of rfl]
  obtain ⟨F', N', l'⟩ := ks_newsPush (s := ⟨hp, g, d, t + 1, os⟩) (o := methodObj (.ref f) (.ref x)) F N rfl (Heap.get?_push_at rfl rfl) (fun b o e => Heap.get?_push_of_some _ e)
  exact wpAny_pure (h _ _ F' N' l')
end
section
variable {M : Model} {A : Around} {E : Value → Shared → Prop} {s : Shared} {K : Frag} {env : Env} {pos p : Pos} {first : List Value} {Q : Value → Shared → Prop} {e : Expr} {q g : Addr} {self : Value}
theorem callWith_SM (hf : fnIn K g = true) (h : wpAny M A (eval e env) (fun v s₁ => StarOf M A E v (fun vs s₂ => MethP K q g self s₂.heap ∧ wpAny M A (call (.ref q) (first ++ vs)) Q E s₂) s₁) E s)
    (he : autoParam (starEach [.Starred e p] env = [(true, eval e env)]) au1._auto_1) :
    wpAny M A (callWith pos (.ref q) first (backTo pos (starEach [.Starred e p] env)) []) Q E s := by
  rw [he]
  exact ks_call rfl (keeps_M hf) (ks_lone h)
theorem MethodStar {o : Expr} {name : Str} {apos : Pos}
    (h : wpAny M A (eval o env) (fun ov s₁ => wpAny M A (getAttr ov name true) (fun f s₂ => wpAny M A (callWith pos f [] (backTo pos (starEach [.Starred e p] env)) []) Q E s₂) E s₁) E s)
    (he : eval (.Call (.Attribute o name apos) [.Starred e p] [] pos) env = (do
      let ov ← eval o env
      standAt apos.atName
      let fx ← holding [ov] (do pure (← getAttr ov name true, ([] : List Value)))
      callWith pos fx.1 fx.2 (backTo pos (starEach [.Starred e p] env)) []) := by rfl) :
    wpAny M A (eval (.Call (.Attribute o name apos) [.Starred e p] [] pos) env) Q E s := by
  rw [he]
  refine wpAny_bind (wpAny_mono h (fun ov s₁ h₁ => wpAny_bind (wpAny_standAt (wpAny_bind (wpAny_holding (wpAny_bind (wpAny_mono h₁ (fun fx s₂ h₂ => ?_) fun _ _ x => x)))))) fun _ _ x => x)
  exact wpAny_pure h₂
end
theorem lt_ne {news : List (Addr × Obj)} {q : Addr} (l : ∀ p ∈ news, p.1 < q) : ∀ p ∈ news, p.1 ≠ q := fun p hp => Nat.ne_of_lt (l p hp)
theorem findObj_push {K : Frag} {cd : ClassData} {f : Addr} {hs : Int} {tk : Tok} {v : Value} (h1 : clsIn K 199 = some cd) (h3 : cd.hasDict = true) (h2 : findIn K (.ref 199) "push" = some (some (.ref f))) (h4 : specialIn K (.ref f) "__get__" = some (some (.builtin "function.__get__"))) (h5 : takesIn K (.ref f) = some false) :
    findObj K 199 (some (accDict hs tk v)) "push" = some (.bind (.builtin "function.__get__") (.ref f)) := by
  have e : W.ownOf cd (some (accDict hs tk v)) "push" = some none := by
    unfold W.ownOf; rw [if_pos h3]; rfl
  unfold findObj
  rw [h1, Option.bind_some, h2, Option.bind_some]
  simp only [h4, Option.bind_some, h5]
  rw [e, Option.bind_some]
  have hc : copiedNames.contains (Str.ofString "push") = false := by decide
  show (if (copiedNames.contains (Str.ofString "push") && _) = true then _ else _) = _
  rw [hc, Bool.false_and, if_neg (by decide)]
end

section
open PySem PySem.W PySem.Spec PySem.Calls PyProof.Rows PyProof.V PySem.SeqAt
theorem ows_both {w : World} {A : Around} {s : Shared} {c dc : Addr} {ps : List Value} {qs : List (Str × Str)} {ep : Nat} {hs : Int} {tkd ti : Tok} {ini : Int} {tp1 tp2 : Array Value} {Q E : Value → Shared → Prop} (S : Site w 370 1700 [c, dc, 161, 168] A s)
    (hb : AllBare s.gens) (hc : s.heap.get? c = some (accObj dc ps.toArray ep)) (hdc : s.heap.get? dc = some (accDict hs tkd (.int ini ti))) (hi : 0 ≤ ini) (hp : PartsAt s.heap ps qs) (ht1 : s.heap.get? 161 = some (tabObj tp1)) (htp1 : tp1 = #[] ∨ ∃ c' : Addr, tp1 = #[rawInt 144, rawInt 19, .ref c']) (ht2 : s.heap.get? 168 = some (tabObj tp2)) (htp2 : tp2 = #[] ∨ ∃ c' : Addr, tp2 = #[rawInt 147, rawInt 32, .ref c']) (hpos : 0 < ini + partLen qs) (hfit : partLen qs < 2 ^ 20) (hqs : qs.length ≤ sizeLine) (hsp : Txt.isspace (partText qs) = false)
    (hret : ∀ h' gs tk', AllBare gs → KeepsBut [161, 168] s.heap h' → TabSt h' 161 144 19 → TabSt h' 168 147 32 → Q (.bool false) ⟨h', gs, s.drawn, tk', s.os⟩) :
    wpAny (model PySem.Challenge.rw_ty0042_01.row.prog w) A (call (.ref 188) [.ref c]) Q E s := by
  by_cases hz : ini = 0
  · subst hz
    rw [Int.zero_add] at hpos
    exact ows_text S hb hc hdc hp ht1 htp1 ht2 htp2 hpos hfit hqs hsp hret
  · obtain ⟨hh, hdp, hun, cn, cs, a, ccd, cl, outer, A₀, base, h₀, L, m, mg, mb, mean, hA, hk, B, F, X, T, hL, hhid⟩ := S
    have S' : Site w 370 1700 [c, dc] A s := ⟨hh, hdp, hun, cn, cs, a, ccd, cl, outer, A₀, base, h₀, L, m, mg, mb, mean, hA, hk, B, F, X, T, fun q => hL (by simp only [List.mem_cons, List.not_mem_nil, or_false] at q ⊢; rcases q with q | q <;> simp [q]), fun b q => hhid b (by simp only [List.mem_cons, List.not_mem_nil, or_false] at q ⊢; rcases q with q | q <;> simp [q])⟩
    refine ows_size S' hc hdc (by (first | lia | omega)) (fun h' tk' k => hret h' _ tk' hb (fun b o _ e => k b o e) ⟨_, k _ _ ht1, htp1⟩ ⟨_, k _ _ ht2, htp2⟩)
theorem partLen_snoc (qs : List (Str × Str)) (a b : Str) : partLen (qs ++ [(a, b)]) = partLen qs + ((a.length : Int) + b.length) := by simp [partLen]
end

section
open PySem PySem.W PySem.Spec PySem.Calls PyProof.Rows PyProof.V PySem.SeqAt

/-- what pop takes off a row of parts, and what is left -/
inductive Popped : List (Str × Str) → List (Str × Str) → Str → Str → Prop
  | nil : Popped [] [] (Str.ofString "") (Str.ofString "")
  | snoc {qs : List (Str × Str)} {x y : Str} : Popped (qs ++ [(x, y)]) qs x y

/-- both answers of pop in one: the tuple is an old one, or it is fresh and stands in the ledger's tail -/
theorem pop_both {w : World} {A : Around} {s : Shared} {g : Heap} {L c dc : Addr} {m : Str → Option Value} {news : List (Addr × Obj)} {u : Obj → List (Addr × Obj)} {ps : List Value} {qs qs0 : List (Str × Str)} {x y : Str} {ep : Nat} {hs : Int} {tk : Tok} {iv : Value} {Q E : Value → Shared → Prop}
    (S : Site w 390 1900 [c, dc] A s) (F : Fr g L s.heap m) (N : News g L s.heap news) (U : UpdF c (accObj dc ps.toArray ep) news u) (hdc : (dc, accDict hs tk iv) ∈ news) (hp : PartsAt g ps qs) (hq : Popped qs qs0 x y) (hsz : ps.length ≤ sizeLine)
    (hret : ∀ T tx ty tl ps0 n' h' tk', Fr g L h' m → News g L h' (u (accObj dc ps0.toArray n') ++ tl) → PartsAt g ps0 qs0 → (∀ q ∈ news, ∀ p ∈ tl, p.1 ≠ q.1) →
      (∀ h m' nn, Fr g L h m' → News g L h nn → (∀ p ∈ tl, p ∈ nn) → IsTup h T #[Value.str x tx, Value.str y ty]) → Q (.ref T) ⟨h', s.gens, s.drawn, tk', s.os⟩) :
    wpAny (model PySem.Challenge.rw_ty0042_01.row.prog w) A (call (.ref 159) [.ref c]) Q E s := by
  obtain ⟨pre, post, hl, hu, _, _⟩ := U.split
  have hm : (c, accObj dc ps.toArray ep) ∈ news := by rw [hl]; simp
  cases hq with
  | nil =>
    have e0 := hp.nil_inv
    subst e0
    refine pop_nil S (N _ hm).1 (N _ hdc).1 fun T t1 t2 h' tk' hT hTn k => ?_
    obtain ⟨o, ho, r⟩ := hT
    have N2 := news_freshI (news_keep N k) F hTn ho
    refine hret T t1 t2 [(T, o)] [] ep h' tk' (fr_keep F k) ?_ .nil (fun q hq p hp => ?_) fun h m' nn _ Nn hs => ⟨o, (Nn (T, o) (hs _ (.head _))).1, r⟩
    · rw [hu, ← hl]
      intro p hp
      rcases List.mem_append.mp hp with z | z
      · exact N2 p (.tail _ z)
      · exact N2 p (by rw [List.mem_singleton] at z; rw [z]; exact .head _)
    · rw [List.mem_singleton] at hp
      rw [hp]
      exact (fresh_ne N hTn q hq).symm
  | snoc =>
    obtain ⟨ps0, T0, ta, tb, e0, ⟨o, ho, r⟩, hp0⟩ := hp.unsnoc
    subst e0
    refine pop_some S (N _ hm).1 (N _ hdc).1 hsz fun n' h' tk' hc' kb => ?_
    refine hret T0 ta tb [] ps0 n' h' tk' (fr_but F kb (fun b q => ?_) fun q => ?_) ?_ hp0 (fun _ _ p hp => nomatch hp) fun h m' nn F' _ _ => ⟨o, F'.keep _ _ ho, r⟩
    · rw [List.mem_singleton.mp q]; exact (N _ hm).2.2
    · exact (N _ hm).2.1 (List.mem_singleton.mp q).symm
    · rw [List.append_nil]; exact news_upd1 N U kb hc'
end

section
open PySem PySem.W PySem.Spec PySem.Calls PyProof.Rows PyProof.V PySem.SeqAt
local macro_rules | `(tactic| walk_at "call ref") => `(tactic| (k_here; refine hold ?_))
local macro_rules | `(tactic| walk_at "StarOf ref") => `(tactic| (k_here; refine hold ?_))
local macro_rules | `(tactic| walk_at "call builtin:list.append") => `(tactic| (k_here; refine append_K (h := ?_); intro h' F' N'; (try k_sweep)))

section
open PySem PySem.W PySem.Spec PySem.Calls PyProof.Rows
local macro_rules | `(tactic| k_all) => `(tactic| assumption)

theorem newline_gen {w : World} {A : Around} {s : Shared} {p dp l c dc : Addr} {pt : PT} {mx ws wl sc : Value} {ls : List Value} {nl : Nat} {ps : List Value} {ep : Nat} {hs : Int} {tkd ti : Tok} {ini : Int} {tp1 tp2 : Array Value} {qs qs0 : List (Str × Str)} {x wd : Str} {Q E : Value → Shared → Prop} (S : Site w 360 1600 [p, dp, l, c, dc, 161, 168] A s) (hb : AllBare s.gens) (hp : s.heap.get? p = some (instObj 115 dp)) (hdp : s.heap.get? dp = some (pageDict pt mx ws wl sc (.ref l) (.ref c))) (hl : s.heap.get? l = some (listOf ls.toArray nl)) (hc : s.heap.get? c = some (accObj dc ps.toArray ep)) (hdc : s.heap.get? dc = some (accDict hs tkd (.int ini ti))) (ht1 : s.heap.get? 161 = some (tabObj tp1)) (htp1 : tp1 = #[] ∨ ∃ c' : Addr, tp1 = #[rawInt 144, rawInt 19, .ref c']) (ht2 : s.heap.get? 168 = some (tabObj tp2)) (htp2 : tp2 = #[] ∨ ∃ c' : Addr, tp2 = #[rawInt 147, rawInt 32, .ref c']) (hpa : PartsAt s.heap ps qs) (hpq : Popped qs qs0 x wd) (hi : 0 ≤ ini) (hi2 : ini < 2 ^ 30) (hls : ls.length < 1000) (hw : ¬(x = Str.ofString " " ∧ wd = Str.ofString "")) (hxo : PyData.strOk x = true) (hwo : PyData.strOk wd = true)  (hfit : partLen (qs0 ++ [(x, wd)]) < 2 ^ 20) (hqs : qs.length < 1000) (hsp : Txt.isspace (partText (qs0 ++ [(x, wd)])) = false)
  (hret : ∀ (h' : Heap) gs tk' ls' nl' n' t0, AllBare gs → KeepsBut [l, c, dc, 161, 168] s.heap h' → h'.get? l = some (listOf ls'.toArray nl') → (ini + partLen (qs0 ++ [(x, wd)]) = 0 ∧ ls' = ls ∨ 0 < ini + partLen (qs0 ++ [(x, wd)]) ∧ ∃ t1, ls' = ls ++ [Value.str (partText (qs0 ++ [(x, wd)])) t1]) → h'.get? c = some (accObj dc #[] n') → h'.get? dc = some (accDict hs tkd (.int 0 t0)) → TabSt h' 161 144 19 → TabSt h' 168 147 32 → Q .none ⟨h', gs, s.drawn, tk', s.os⟩) :
    wpAny (model PySem.Challenge.rw_ty0042_01.row.prog w) A (call (.ref 77) [.ref p]) Q E s := by
  w_top off
  refine wpAny_call ?_
  refine' enterN (binds := [(Str.ofString "self", .ref p)]) _ S ?k6 ?k7 ?k8 ?k9 ?kB ?_ ?c5 ?c2 ?c3 ?c4
  case k6 => k_is
  case k7 => k_is
  case k8 => decide
  case k9 => exact BindsTo.of_eq rfl
  case kB => exact locs rfl
  case c2 => exact rfl
  case c3 => exact rfl
  case c4 => exact rfl
  case c5 => decide
  intro L cn cs a ccd cl' outer base g L' h₁ mg mb mean hke F N B KX T hg hgn hk1 hL
  try dsimp only
  try k_fold
  try (with_reducible refine wp_letA ?_; intro A9)
  have ne1 : (p : Addr) ≠ dp := ne_tag hp hdp (by with_unfolding_all rfl)
  have ne2 : (p : Addr) ≠ l := ne_tag hp hl (by with_unfolding_all rfl)
  have ne3 : (p : Addr) ≠ c := ne_tag hp hc (by with_unfolding_all rfl)
  have ne4 : (p : Addr) ≠ dc := ne_tag hp hdc (by with_unfolding_all rfl)
  have ne5 : (p : Addr) ≠ 161 := ne_tag hp ht1 (by with_unfolding_all rfl)
  have ne6 : (p : Addr) ≠ 168 := ne_tag hp ht2 (by with_unfolding_all rfl)
  have ne7 : (dp : Addr) ≠ l := ne_tag hdp hl (by with_unfolding_all rfl)
  have ne8 : (dp : Addr) ≠ c := ne_tag hdp hc (by with_unfolding_all rfl)
  have ne9 : (dp : Addr) ≠ dc := ne_tag hdp hdc (by with_unfolding_all rfl)
  have ne10 : (dp : Addr) ≠ 161 := ne_tag hdp ht1 (by with_unfolding_all rfl)
  have ne11 : (dp : Addr) ≠ 168 := ne_tag hdp ht2 (by with_unfolding_all rfl)
  have ne12 : (l : Addr) ≠ c := ne_tag hl hc (by with_unfolding_all rfl)
  have ne13 : (l : Addr) ≠ dc := ne_tag hl hdc (by with_unfolding_all rfl)
  have ne14 : (l : Addr) ≠ 161 := ne_tag hl ht1 (by with_unfolding_all rfl)
  have ne15 : (l : Addr) ≠ 168 := ne_tag hl ht2 (by with_unfolding_all rfl)
  have ne16 : (c : Addr) ≠ dc := ne_tag hc hdc (by with_unfolding_all rfl)
  have ne17 : (c : Addr) ≠ 161 := ne_tag hc ht1 (by with_unfolding_all rfl)
  have ne18 : (c : Addr) ≠ 168 := ne_tag hc ht2 (by with_unfolding_all rfl)
  have ne19 : (dc : Addr) ≠ 161 := ne_tag hdc ht1 (by with_unfolding_all rfl)
  have ne20 : (dc : Addr) ≠ 168 := ne_tag hdc ht2 (by with_unfolding_all rfl)
  have ne21 : (161 : Addr) ≠ 168 := by decide
  have al : AllAt s.heap [(p, instObj 115 dp), (dp, pageDict pt mx ws wl sc (.ref l) (.ref c)), (l, listOf ls.toArray nl), (c, accObj dc ps.toArray ep), (dc, accDict hs tkd (.int ini ti)), (161, tabObj tp1), (168, tabObj tp2)] := .cons hp (.cons hdp (.cons hl (.cons hc (.cons hdc (.cons ht1 (.cons ht2 .nil))))))
  have N1 := newsAll al hk1 hgn hL
  have hpg := parts_g hpa hg (al.cls rfl)
  have hps9 : ps.length ≤ sizeLine := by rw [hpg.length, sizeLine_eq]; (first | lia | omega)
  have hq09 : qs0.length < 1000 := by cases hpq with | nil => exact hqs | snoc => rw [List.length_append, List.length_singleton] at hqs; (first | lia | omega)
  have hpl0 : 0 ≤ partLen (qs0 ++ [(x, wd)]) := partLen_nonneg _
  clear N hpa
  try (with_reducible refine wp_letQ ?_; intro Qz1)
  k_steps
  unfold Hold
  (with_reducible rename Fr _ _ _ _ => F1)
  refine fr_let F1 ?_
  clear F1
  intro mz1x F1
  (with_reducible rename News _ _ _ _ => N1)
  refine' pop_both (site_of rfl ?k1 ?k2 ?k3 ?k4 rfl ?k5 ?k6 rfl ?k7 ?k8) F1 N1 ?kU ?kd hpg hpq hps9 ?_
  case kU => k_updF
  case kd => k_mem
  case k1 => k_asm
  case k2 => k_asm
  case k3 => k_asm
  case k4 => k_asm
  case k5 => exact Nat.le_of_ble_eq_true rfl
  case k6 => exact Nat.le_of_ble_eq_true rfl
  case k7 => exact not_hid N1 (by repeat (first | exact HidIn.nil | refine HidIn.cons (by k_mem) ?_))
  case k8 => exact none_hid N1 (by repeat (first | exact HidIn.nil | refine HidIn.cons (by k_mem) ?_))
  intro T0 ta tb tl ps0 n' h' tk' F2 N2 hp0 htl hT
  have ht1 : ∀ p ∈ tl, p.1 ≠ l := htl (l, _) (by k_mem)
  have ht2 : ∀ p ∈ tl, p.1 ≠ c := htl (c, _) (by k_mem)
  have ht3 : ∀ p ∈ tl, p.1 ≠ dc := htl (dc, _) (by k_mem)
  have ht4 : ∀ p ∈ tl, p.1 ≠ 161 := htl (161, _) (by k_mem)
  have ht5 : ∀ p ∈ tl, p.1 ≠ 168 := htl (168, _) (by k_mem)
  have hps0 : ps0.length < 1000 := by rw [hp0.length]; exact hq09
  have hps1 : ps0.length ≤ sizeLine := by rw [sizeLine_eq]; (first | lia | omega)
  clear F1 N1 htl hpg hpq
  dsimp only [List.cons_append, List.nil_append] at N2
  dsimp only
  try (with_reducible refine wp_letQ ?_; intro Qz2)
  k_steps
  unfold Hold
  (with_reducible rename Fr _ _ _ _ => F3)
  refine fr_let F3 ?_
  clear F3
  intro mz2x F3
  (with_reducible rename News _ _ _ _ => N3)
  refine ne_pair (hT _ _ _ F3 N3 (by intro _ q; repeat (first | exact q | apply List.Mem.tail))) ⟨_, (N3 _ (.head _)).1, rfl, _, rfl⟩ (Nat.le_of_ble_eq_true rfl) hxo hwo okB okE ?_
  have e1 : (!decide (x = Str.ofString " " ∧ wd = Str.ofString "")) = true := by rw [decide_eq_false hw]; rfl
  rw [e1]
  clear e1
  try (with_reducible refine wp_letQ ?_; intro Qz3)
  k_steps
  refine MethodStar ?_
  try (with_reducible refine wp_letQ ?_; intro Qz4)
  k_steps
  unfold Hold
  (with_reducible rename Fr _ _ _ _ => F4)
  refine fr_let F4 ?_
  clear F4
  intro mz3x F4
  (with_reducible rename News _ _ _ _ => N4)
  refine' getm_obj F4 KX N4 ?kI ?kg ?kk ?ks ?kf ?kt ?_
  case kI => k_inst
  case kg => k_is
  case kk => k_is
  case ks => k_is
  case kf => exact findObj_push (f := 143) (by k_is) rfl (by k_is) (by k_is) (by k_is)
  case kt => k_is
  intro qM h' F5 N5 lq
  have hfM := lt_ne lq
  simp only [List.forall_mem_cons] at hfM
  (try dsimp only at hfM)
  repeat (rcases hfM with ⟨hfx, hfM⟩)
  clear lq F4 N4
  refine callWith_SM (g := 143) (self := .ref c) (K := hd.heap_1 w.params) rfl ?_
  try (with_reducible refine wp_letQ ?_; intro Qz5)
  k_steps
  unfold Hold
  (with_reducible rename Fr _ _ _ _ => F6)
  refine fr_let F6 ?_
  clear F6
  intro mz4x F6
  (with_reducible rename News _ _ _ _ => N6)
  refine star_tup F6 N6 (hT _ _ _ F6 N6 (by intro _ q; repeat (first | exact q | apply List.Mem.tail))) (Nat.le_of_ble_eq_true rfl) ?_
  intro h' F7 N7
  clear F6 N6
  refine ⟨methP N7 (by k_mem) (KX.keeps F7.keep), ?_⟩
  refine call_meth N7 (f := .ref 143) (self := .ref c) (by k_mem) ?_
  refine' push_code (ps := ps0) (site_of rfl ?k1 ?k2 ?k3 ?k4 rfl ?k5 ?k6 rfl ?k7 ?k8) ?kc ?kd ?kz ?_
  case k1 => k_asm
  case k2 => k_asm
  case k3 => k_asm
  case k4 => k_asm
  case k5 => exact Nat.le_of_ble_eq_true rfl
  case k6 => exact Nat.le_of_ble_eq_true rfl
  case kc => exact News.get N7 (by k_mem)
  case kd => exact News.get N7 (by k_mem)
  case kz => first | assumption | (rw [sizeLine_eq]; simp only [List.length_append, List.length_cons, List.length_nil]; (first | lia | omega))
  case k7 => exact not_hid N7 (by repeat (first | exact HidIn.nil | refine HidIn.cons (by k_mem) ?_))
  case k8 => exact none_hid N7 (by repeat (first | exact HidIn.nil | refine HidIn.cons (by k_mem) ?_))
  intro T2 n' h' tk' hT2 hTn2 hc' kb'
  have hf2 := fresh_ne N7 hTn2
  simp only [List.forall_mem_cons] at hf2
  (try dsimp only at hf2)
  repeat (rcases hf2 with ⟨hfx, hf2⟩)
  refine gen_goal fun G9 hG9 => ?_
  obtain ⟨o2, ho2, rT2⟩ := hT2
  refine hG9 ?_
  clear hG9 G9
  have F8 := fr_but F7 kb' (none_hid N7 (by repeat (first | exact HidIn.nil | refine HidIn.cons (by k_mem) ?_))) (not_hid N7 (by repeat (first | exact HidIn.nil | refine HidIn.cons (by k_mem) ?_)))
  have N8 := news_freshI (news_upd1 N7 (by k_updF) kb' hc') F7 hTn2 ho2
  clear F7 N7 kb' hc' hTn2 ho2
  dsimp only
  try (with_reducible refine wp_letQ ?_; intro Qz6)
  k_steps
  unfold Hold
  (with_reducible rename Fr _ _ _ _ => F9)
  refine fr_let F9 ?_
  clear F9
  intro mz5x F9
  (with_reducible rename News _ _ _ _ => N9)
  refine' len_call (ini := ini) (qs := (qs0 ++ [(x, wd)])) (site_of rfl ?k1 ?k2 ?k3 ?k4 rfl ?k5 ?k6 rfl ?k7 ?k8) ?kb ?kc ?kd ?kp ?kt ?ku ?kf ?_
  case k1 => k_asm
  case k2 => k_asm
  case k3 => k_asm
  case k4 => k_asm
  case k5 => exact Nat.le_of_ble_eq_true rfl
  case k6 => exact Nat.le_of_ble_eq_true rfl
  case kc => exact News.get N9 (by k_mem)
  case kd => exact News.get N9 (by k_mem)
  case kt => exact News.get N9 (by k_mem)
  case k7 => exact not_hid N9 (by repeat (first | exact HidIn.nil | refine HidIn.cons (by k_mem) ?_))
  case k8 => exact none_hid N9 (by repeat (first | exact HidIn.nil | refine HidIn.cons (by k_mem) ?_))
  case kb => exact hb
  case kp => exact ((hp0.keep fun T o e _ => F9.keep T o e).snoc ⟨o2, (N9 (T2, o2) (by k_mem)).1, rT2⟩)
  case ku => assumption
  case kf => exact ⟨hi, by (first | lia | omega)⟩
  intro t' h' gs' tk' hb10 kb' ⟨tq10, ht', hq10⟩
  have F10 := fr_but F9 kb' (none_hid N9 (by repeat (first | exact HidIn.nil | refine HidIn.cons (by k_mem) ?_))) (not_hid N9 (by repeat (first | exact HidIn.nil | refine HidIn.cons (by k_mem) ?_)))
  have N10 := news_upd1 N9 (by k_updF) kb' ht'
  clear F9 N9 kb'
  refine ⟨⟨by (first | lia | omega), by (first | lia | omega)⟩, ?_⟩
  try (with_reducible refine wp_letQ ?_; intro Qz7)
  k_steps
  · unfold Hold
    have hls1 : ls.length ≤ sizeLine := by rw [sizeLine_eq]; (first | lia | omega)
    have hqs1 : (qs0 ++ [(x, wd)]).length ≤ sizeLine := by rw [sizeLine_eq]; simp only [List.length_append, List.length_cons, List.length_nil]; (first | lia | omega)
    (with_reducible rename Fr _ _ _ _ => F10)
    refine fr_let F10 ?_
    clear F10
    intro mz6x F10
    (with_reducible rename News _ _ _ _ => N10)
    refine' ows_both (qs := (qs0 ++ [(x, wd)])) (site_of rfl ?k1 ?k2 ?k3 ?k4 rfl ?k5 ?k6 rfl ?k7 ?k8) ?kb ?kc ?kd ?ki ?kp ?kt ?ku ?kv ?kw ?kx ?kf ?kg ?kh ?_
    case k1 => k_asm
    case k2 => k_asm
    case k3 => k_asm
    case k4 => k_asm
    case k5 => exact Nat.le_of_ble_eq_true rfl
    case k6 => exact Nat.le_of_ble_eq_true rfl
    case kc => exact News.get N10 (by k_mem)
    case kd => exact News.get N10 (by k_mem)
    case kt => exact News.get N10 (by k_mem)
    case kv => exact News.get N10 (by k_mem)
    case k7 => exact not_hid N10 (by repeat (first | exact HidIn.nil | refine HidIn.cons (by k_mem) ?_))
    case k8 => exact none_hid N10 (by repeat (first | exact HidIn.nil | refine HidIn.cons (by k_mem) ?_))
    case kb => assumption
    case ki => assumption
    case kp => exact ((hp0.keep fun T o e _ => F10.keep T o e).snoc ⟨o2, (N10 (T2, o2) (by k_mem)).1, rT2⟩)
    case ku => assumption
    case kw => assumption
    case kx => first | assumption | (first | lia | omega)
    case kf => exact hfit
    case kg => exact hqs1
    case kh => exact hsp
    intro h' gs' tk' hb11 kb' ⟨tq110, ht1', hq110⟩ ⟨tq210, ht2', hq210⟩
    have F11 := fr_but F10 kb' (none_hid N10 (by repeat (first | exact HidIn.nil | refine HidIn.cons (by k_mem) ?_))) (not_hid N10 (by repeat (first | exact HidIn.nil | refine HidIn.cons (by k_mem) ?_)))
    have N11 := news_upd2 N10 (by k_updF) (by k_updF) kb' ht1' ht2'
    clear F10 N10 kb' ht1' ht2'
    dsimp only
    try (with_reducible refine wp_letQ ?_; intro Qz8)
    k_steps
    unfold Hold
    (with_reducible rename Fr _ _ _ _ => F12)
    refine fr_let F12 ?_
    clear F12
    intro mz7x F12
    (with_reducible rename News _ _ _ _ => N12)
    refine' str_call (qs := (qs0 ++ [(x, wd)])) (site_of rfl ?k1 ?k2 ?k3 ?k4 rfl ?k5 ?k6 rfl ?k7 ?k8) ?kb ?kc ?kd ?kp ?kt ?ku ?kf ?kg ?_
    case k1 => k_asm
    case k2 => k_asm
    case k3 => k_asm
    case k4 => k_asm
    case k5 => exact Nat.le_of_ble_eq_true rfl
    case k6 => exact Nat.le_of_ble_eq_true rfl
    case kc => exact News.get N12 (by k_mem)
    case kd => exact News.get N12 (by k_mem)
    case kt => exact News.get N12 (by k_mem)
    case k7 => exact not_hid N12 (by repeat (first | exact HidIn.nil | refine HidIn.cons (by k_mem) ?_))
    case k8 => exact none_hid N12 (by repeat (first | exact HidIn.nil | refine HidIn.cons (by k_mem) ?_))
    case kb => exact (by assumption)
    case kp => exact ((hp0.keep fun T o e _ => F12.keep T o e).snoc ⟨o2, (N12 (T2, o2) (by k_mem)).1, rT2⟩)
    case ku => assumption
    case kf => exact hfit
    case kg => exact hqs1
    intro t' h' gs' tk' hb13 kb' ⟨tq13, ht', hq13⟩
    have F13 := fr_but F12 kb' (none_hid N12 (by repeat (first | exact HidIn.nil | refine HidIn.cons (by k_mem) ?_))) (not_hid N12 (by repeat (first | exact HidIn.nil | refine HidIn.cons (by k_mem) ?_)))
    have N13 := news_upd1 N12 (by k_updF) kb' ht'
    clear F12 N12 kb'
    unfold W.StrBack
    dsimp only
    try (with_reducible refine wp_letQ ?_; intro Qz9)
    k_steps
    unfold Hold
    (with_reducible rename Fr _ _ _ _ => F14)
    refine fr_let F14 ?_
    clear F14
    intro mz8x F14
    (with_reducible rename News _ _ _ _ => N14)
    refine' reset_none (site_of rfl ?k1 ?k2 ?k3 ?k4 rfl ?k5 ?k6 rfl ?k7 ?k8) ?kc ?kd ?kz ?_
    case k1 => k_asm
    case k2 => k_asm
    case k3 => k_asm
    case k4 => k_asm
    case k5 => exact Nat.le_of_ble_eq_true rfl
    case k6 => exact Nat.le_of_ble_eq_true rfl
    case kc => exact News.get N14 (by k_mem)
    case kd => exact News.get N14 (by k_mem)
    case kz => first | assumption | (rw [sizeLine_eq]; simp only [List.length_append, List.length_cons, List.length_nil]; (first | lia | omega))
    case k7 => exact not_hid N14 (by repeat (first | exact HidIn.nil | refine HidIn.cons (by k_mem) ?_))
    case k8 => exact none_hid N14 (by repeat (first | exact HidIn.nil | refine HidIn.cons (by k_mem) ?_))
    intro h' n' tk' t0' hc' hd' kb'
    have F15 := fr_but F14 kb' (none_hid N14 (by repeat (first | exact HidIn.nil | refine HidIn.cons (by k_mem) ?_))) (not_hid N14 (by repeat (first | exact HidIn.nil | refine HidIn.cons (by k_mem) ?_)))
    have N15 := news_upd2 N14 (by k_updF) (by k_updF) kb' hc' hd'
    clear F14 N14 kb' hc' hd'
    dsimp only
    try (with_reducible refine wp_letQ ?_; intro Qz10)
    k_steps
    (with_reducible rename Fr _ _ _ _ => F16)
    refine fr_let F16 ?_
    clear F16
    intro mz9x F16
    (with_reducible rename News _ _ _ _ => N16)
    exact hret _ _ _ _ _ _ _ (by assumption) (keepbut_wr hg F16 N16 (by repeat (first | exact KeptIn.nil | refine KeptIn.skip (by first | exact .head _ | exact .tail _ (.head _) | exact .tail _ (.tail _ (.head _)) | exact .tail _ (.tail _ (.tail _ (.head _))) | exact .tail _ (.tail _ (.tail _ (.tail _ (.head _))))) ?_ | refine KeptIn.keep (by k_mem) (by assumption) ?_))) (N16 (l, _) (by k_mem)).1 (.inr ⟨by first | assumption | (first | lia | omega), _, rfl⟩) (N16 (c, _) (by k_mem)).1 (N16 (dc, _) (by k_mem)).1 ⟨_, (N16 (161, _) (by k_mem)).1, by assumption⟩ ⟨_, (N16 (168, _) (by k_mem)).1, by assumption⟩
  · unfold Hold
    (with_reducible rename Fr _ _ _ _ => F10)
    refine fr_let F10 ?_
    clear F10
    intro mz10x F10
    (with_reducible rename News _ _ _ _ => N10)
    refine' reset_none (site_of rfl ?k1 ?k2 ?k3 ?k4 rfl ?k5 ?k6 rfl ?k7 ?k8) ?kc ?kd ?kz ?_
    case k1 => k_asm
    case k2 => k_asm
    case k3 => k_asm
    case k4 => k_asm
    case k5 => exact Nat.le_of_ble_eq_true rfl
    case k6 => exact Nat.le_of_ble_eq_true rfl
    case kc => exact News.get N10 (by k_mem)
    case kd => exact News.get N10 (by k_mem)
    case kz => first | assumption | (rw [sizeLine_eq]; simp only [List.length_append, List.length_cons, List.length_nil]; (first | lia | omega))
    case k7 => exact not_hid N10 (by repeat (first | exact HidIn.nil | refine HidIn.cons (by k_mem) ?_))
    case k8 => exact none_hid N10 (by repeat (first | exact HidIn.nil | refine HidIn.cons (by k_mem) ?_))
    intro h' n' tk' t0' hc' hd' kb'
    have F11 := fr_but F10 kb' (none_hid N10 (by repeat (first | exact HidIn.nil | refine HidIn.cons (by k_mem) ?_))) (not_hid N10 (by repeat (first | exact HidIn.nil | refine HidIn.cons (by k_mem) ?_)))
    have N11 := news_upd2 N10 (by k_updF) (by k_updF) kb' hc' hd'
    clear F10 N10 kb' hc' hd'
    dsimp only
    try (with_reducible refine wp_letQ ?_; intro Qz11)
    k_steps
    (with_reducible rename Fr _ _ _ _ => F12)
    refine fr_let F12 ?_
    clear F12
    intro mz11x F12
    (with_reducible rename News _ _ _ _ => N12)
    exact hret _ _ _ _ _ _ _ (by assumption) (keepbut_wr hg F12 N12 (by repeat (first | exact KeptIn.nil | refine KeptIn.skip (by first | exact .head _ | exact .tail _ (.head _) | exact .tail _ (.tail _ (.head _)) | exact .tail _ (.tail _ (.tail _ (.head _))) | exact .tail _ (.tail _ (.tail _ (.tail _ (.head _))))) ?_ | refine KeptIn.keep (by k_mem) (by assumption) ?_))) (N12 (l, _) (by k_mem)).1 (.inl ⟨by first | assumption | (first | lia | omega), rfl⟩) (N12 (c, _) (by k_mem)).1 (N12 (dc, _) (by k_mem)).1 ⟨_, (N12 (161, _) (by k_mem)).1, by assumption⟩ ⟨_, (N12 (168, _) (by k_mem)).1, by assumption⟩
end

section
open PySem PySem.W PySem.Spec PySem.Calls PyProof.Rows PyProof.V PySem.SeqAt
section
variable {prog : Program} {w : World} {A : Around} {s : Shared} {env : Env} {h₀ : Heap} {x : Str} {px : Pos} {body orelse : List Stmt} {m : Str → Option Value} {news : List (Addr × Obj)} {R : Result → Shared → Prop}
theorem fresh_size (F : Fr h₀ env.locals s.heap m) (N : News h₀ env.locals s.heap news) : env.locals ∉ [s.heap.objs.size] ∧ (∀ b ∈ [s.heap.objs.size], h₀.get? b = none) ∧ ∀ p ∈ news, p.1 ∉ [s.heap.objs.size] := by
  refine ⟨fun hm => absurd F.ns.lt ((List.mem_singleton.mp hm) ▸ Nat.lt_irrefl _), fun b hb => ?_, fun p hp hI => absurd (Heap.lt_size (N p hp).1) ((List.mem_singleton.mp hI) ▸ Nat.lt_irrefl _)⟩
  rw [List.mem_singleton.mp hb]
  exact next_is_new F
theorem TurnVE.mono {L : Addr} {wr : List Addr} {own : List (Addr × Obj)} {J J' : (Str → Option Value) → List (Addr × Obj) → Prop} {s₀ s₁ s₂ : Shared} (h : TurnVE h₀ L wr own J s₀ s₂) (k : ∀ m n, J m n → J' m n) (hd : s₁.drawn = s₀.drawn) (ho : s₁.os = s₀.os) : TurnVE h₀ L wr own J' s₁ s₂ := by
  obtain ⟨h', gs, tk, m₂, news₂, e, a1, a2, a3, a4, a5⟩ := h
  exact ⟨h', gs, tk, m₂, news₂, by rw [hd, ho]; exact e, a1, a2, a3, a4, k _ _ a5⟩
/-- a for over a text of one sign -/
theorem iter_sign {c : Nat} {t : Tok} (hh : A.handled = none) (hx : env.kindOf x = some .local) (hp : (env.scope.kind == .class || (env.scope.kind == .module && env.locals != env.globals)) = false)
    (F : Fr h₀ env.locals s.heap m) (N : News h₀ env.locals s.heap news) (hg : AllBare s.gens)
    (turn : ∀ I own u h gs tk, (∀ p ∈ news, p.1 ≠ I) → (∀ p ∈ own, p.1 = I) → AllBare gs → Fr h₀ env.locals h (fun y => if y = x then some (.str ⟨#[c]⟩ u) else m y) → News h₀ env.locals h (own ++ news) →
      wpAny (model prog w) A (execs body env) (TurnV h₀ env.locals [I] own (fun m₂ news₂ => ∀ h' gs tk, AllBare gs → Fr h₀ env.locals h' m₂ → News h₀ env.locals h' news₂ → wpAny (model prog w) A (execs orelse env) (fun f s₃ => R (.ok f) s₃) (fun _ _ => False) ⟨h', gs, s.drawn, tk, s.os⟩) s (fun s' => R (.ok .next) s') fun v s' => R (.ok (.ret v)) s') (fun _ _ => False) ⟨h, gs, s.drawn, tk, s.os⟩) :
    wpAny (model prog w) A (pyIter (.str ⟨#[c]⟩ t)) (fun it s₂ => codeAny (model prog w) A (.forLoop (.Name x px) it body orelse env) R s₂) (fun _ _ => False) s := by
  obtain ⟨f1, f2, f3⟩ := fresh_size F N
  refine wpAny_pyIter_str fun o St W hst => ?_
  refine my_forLoop (W A hh) hx hp f1 f2 f3 hst (F.push _) (fun p hp => ⟨Heap.get?_push_of_some _ (N p hp).1, (N p hp).2⟩) hg
    (fun i m₂ news₂ => (i = 0 ∧ m₂ = m ∧ news₂ = news) ∨ (i = 1 ∧ ∀ h' gs tk, AllBare gs → Fr h₀ env.locals h' m₂ → News h₀ env.locals h' news₂ → wpAny (model prog w) A (execs orelse env) (fun f s₃ => R (.ok f) s₃) (fun _ _ => False) ⟨h', gs, s.drawn, tk, s.os⟩)) (.inl ⟨rfl, rfl, rfl⟩) ?_ ?_
  · intro i v m₁ news₁ h gs tk own hi hP hJ hgs hnw hown _ _ F₁ N₁
    have hi0 : i = 0 := by have : (⟨#[c]⟩ : Str).cps.size = 1 := rfl; (first | lia | omega)
    subst hi0
    rcases hJ with ⟨_, rfl, rfl⟩ | ⟨q, _⟩
    · obtain ⟨c', u, hc, rfl⟩ := hP
      have : c' = c := by simpa using hc.symm
      subst this
      refine wpAny_mono (turn s.heap.objs.size own u h gs tk (fun p hp q => hnw p hp (by simp [q])) (fun p hp => List.mem_singleton.mp (hown p hp)) hgs F₁ N₁) (fun f s₃ h₃ => ?_) fun _ _ e => e
      cases f with
      | ret v => exact h₃
      | brk => exact h₃
      | cont => exact TurnVE.mono (s₀ := s) h₃ (fun _ _ a5 => .inr ⟨rfl, a5⟩) rfl rfl
      | next => exact TurnVE.mono (s₀ := s) h₃ (fun _ _ a5 => .inr ⟨rfl, a5⟩) rfl rfl
    · exact absurd q (by (first | lia | omega))
  · intro h' gs tk m' news' hgs F' N' _ hJ
    rcases hJ with ⟨q, _, _⟩ | ⟨_, hJ⟩
    · exact absurd q (by simp)
    · exact hJ h' gs tk hgs F' N'
theorem iter_blank {t : Tok} (hh : A.handled = none) (hx : env.kindOf x = some .local) (hp : (env.scope.kind == .class || (env.scope.kind == .module && env.locals != env.globals)) = false)
    (F : Fr h₀ env.locals s.heap m) (N : News h₀ env.locals s.heap news) (hg : AllBare s.gens)
    (turn : ∀ I own u h gs tk, (∀ p ∈ news, p.1 ≠ I) → (∀ p ∈ own, p.1 = I) → AllBare gs → Fr h₀ env.locals h (fun y => if y = x then some (.str (Str.ofString " ") u) else m y) → News h₀ env.locals h (own ++ news) →
      wpAny (model prog w) A (execs body env) (TurnV h₀ env.locals [I] own (fun m₂ news₂ => ∀ h' gs tk, AllBare gs → Fr h₀ env.locals h' m₂ → News h₀ env.locals h' news₂ → wpAny (model prog w) A (execs orelse env) (fun f s₃ => R (.ok f) s₃) (fun _ _ => False) ⟨h', gs, s.drawn, tk, s.os⟩) s (fun s' => R (.ok .next) s') fun v s' => R (.ok (.ret v)) s') (fun _ _ => False) ⟨h, gs, s.drawn, tk, s.os⟩) :
    wpAny (model prog w) A (pyIter (.str (Str.ofString " ") t)) (fun it s₂ => codeAny (model prog w) A (.forLoop (.Name x px) it body orelse env) R s₂) (fun _ _ => False) s := by
  have e : Str.ofString " " = (⟨#[32]⟩ : Str) := by decide +kernel
  rw [e] at turn ⊢
  exact iter_sign hh hx hp F N hg turn
/-- a for over a range that has a first number, left in its first turn -/
theorem iter_range_first {r : Addr} {a b c : Int} {t u v : Tok} {n : Nat} (hh : A.handled = none) (hx : env.kindOf x = some .local) (hp : (env.scope.kind == .class || (env.scope.kind == .module && env.locals != env.globals)) = false)
    (F : Fr h₀ env.locals s.heap m) (N : News h₀ env.locals s.heap news) (hg : AllBare s.gens) (hr : IsRange s.heap r a b c t u v) (hsmall : Builtin.Range.small a b c = true) (hn : Builtin.Range.rangeSize a b c = (n : Int)) (hpos : 0 < n)
    (turn : ∀ I own u h gs tk, (∀ p ∈ news, p.1 ≠ I) → (∀ p ∈ own, p.1 = I) → AllBare gs → Fr h₀ env.locals h (fun y => if y = x then some (.int a u) else m y) → News h₀ env.locals h (own ++ news) →
      wpAny (model prog w) A (execs body env) (TurnV h₀ env.locals [I] own (fun _ _ => False) s (fun s' => R (.ok .next) s') fun v s' => R (.ok (.ret v)) s') (fun _ _ => False) ⟨h, gs, s.drawn, tk, s.os⟩) :
    wpAny (model prog w) A (pyIter (.ref r)) (fun it s₂ => codeAny (model prog w) A (.forLoop (.Name x px) it body orelse env) R s₂) (fun _ _ => False) s := by
  obtain ⟨f1, f2, f3⟩ := fresh_size F N
  refine wpAny_pyIter_range hr hsmall ?_
  refine my_forLoop (Walks.range hh _ a c n).bound hx hp f1 f2 f3 (by show IsRangeIter _ _ _ _ _; rw [hn]; simpa using Heap.get?_push_size _ rfl) (F.push _) (fun p hp => ⟨Heap.get?_push_of_some _ (N p hp).1, (N p hp).2⟩) hg
    (fun i m₂ news₂ => i = 0 ∧ m₂ = m ∧ news₂ = news) ⟨rfl, rfl, rfl⟩ ?_ ?_
  · rintro i v m₁ news₁ h gs tk own hi ⟨_, u', rfl⟩ ⟨rfl, rfl, rfl⟩ hgs hnw hown _ _ F₁ N₁
    have e : a + ((0 : Nat) : Int) * c = a := by simp
    rw [e] at F₁
    refine wpAny_mono (turn s.heap.objs.size own u' h gs tk (fun p hp q => hnw p hp (by simp [q])) (fun p hp => List.mem_singleton.mp (hown p hp)) hgs F₁ N₁) (fun f s₃ h₃ => ?_) fun _ _ e => e
    cases f with
    | ret v => exact h₃
    | brk => exact h₃
    | cont => obtain ⟨_, _, _, _, _, _, _, _, _, _, q⟩ := (show _ from h₃); exact q.elim
    | next => obtain ⟨_, _, _, _, _, _, _, _, _, _, q⟩ := (show _ from h₃); exact q.elim
  · rintro h' gs tk m' news' hgs F' N' _ ⟨q, _⟩
    exact absurd q (by (first | lia | omega))
/-- a for over an empty range -/
theorem iter_range_none {r : Addr} {a b c : Int} {t u v : Tok} (hh : A.handled = none) (hx : env.kindOf x = some .local) (hp : (env.scope.kind == .class || (env.scope.kind == .module && env.locals != env.globals)) = false)
    (F : Fr h₀ env.locals s.heap m) (N : News h₀ env.locals s.heap news) (hg : AllBare s.gens) (hr : IsRange s.heap r a b c t u v) (hsmall : Builtin.Range.small a b c = true) (hn : Builtin.Range.rangeSize a b c = 0)
    (done : ∀ h gs tk, AllBare gs → Fr h₀ env.locals h m → News h₀ env.locals h news → wpAny (model prog w) A (execs orelse env) (fun f s₃ => R (.ok f) s₃) (fun _ _ => False) ⟨h, gs, s.drawn, tk, s.os⟩) :
    wpAny (model prog w) A (pyIter (.ref r)) (fun it s₂ => codeAny (model prog w) A (.forLoop (.Name x px) it body orelse env) R s₂) (fun _ _ => False) s := by
  obtain ⟨f1, f2, f3⟩ := fresh_size F N
  refine wpAny_pyIter_range hr hsmall ?_
  refine my_forLoop (n := 0) (Walks.range hh _ a c 0).bound hx hp f1 f2 f3 (by show IsRangeIter _ _ _ _ _; rw [hn]; simpa using Heap.get?_push_size _ rfl) (F.push _) (fun p hp => ⟨Heap.get?_push_of_some _ (N p hp).1, (N p hp).2⟩) hg
    (fun i m₂ news₂ => m₂ = m ∧ news₂ = news) ⟨rfl, rfl⟩ ?_ ?_
  · intro i v m₁ news₁ h gs tk own hi
    (first | lia | omega)
  · rintro h' gs tk m' news' hgs F' N' _ ⟨rfl, rfl⟩
    exact done h' gs tk hgs F' N'
end
theorem range_size (n : Nat) (h : 0 < n) : Builtin.Range.rangeSize (n : Int) 0 (-1) = (n : Int) := by
  unfold Builtin.Range.rangeSize
  rw [if_neg (by decide), if_pos (by (first | lia | omega))]
  have : (-(-1) : Int) = 1 := by decide
  rw [this, Int.ediv_one]; (first | lia | omega)
theorem range_small (n : Nat) (h : n < 2 ^ 20) : Builtin.Range.small (n : Int) 0 (-1) = true := by
  have e : Builtin.Range.rangeSize (n : Int) 0 (-1) = (n : Int) := by
    cases n with
    | zero => rfl
    | succ k => exact range_size _ (Nat.succ_pos _)
  unfold Builtin.Range.small
  rw [e]
  have f : Builtin.Range.rangeFitsLong (n : Int) = true := by unfold Builtin.Range.rangeFitsLong; simp; (first | lia | omega)
  have f0 : Builtin.Range.rangeFitsLong 0 = true := by decide
  have f1 : Builtin.Range.rangeFitsLong (-1) = true := by decide
  rw [f, f0, f1, if_neg (by decide)]
  simp; right; decide
open PySem PySem.W PySem.Spec PySem.Calls PyProof.Rows PyProof.V PySem.SeqAt
inductive OffL (a : Addr) : List Addr → Prop
  | nil : OffL a []
  | cons {b : Addr} {l : List Addr} : a ≠ b → OffL a l → OffL a (b :: l)
theorem OffL.off {a : Addr} {l : List Addr} (x : OffL a l) : a ∉ l := by
  induction x with
  | nil => simp
  | cons hne _ ih => simp only [List.mem_cons, not_or]; exact ⟨hne, ih⟩
inductive Turned (news : List (Addr × Obj)) (wr : List Addr) (h' : Heap) : List (Addr × Obj) → Prop
  | nil : Turned news wr h' []
  | new {a : Addr} {o o' : Obj} {l : List (Addr × Obj)} : h'.get? a = some o' → (a, o) ∈ news → Turned news wr h' l → Turned news wr h' ((a, o') :: l)
  | old {a : Addr} {o : Obj} {l : List (Addr × Obj)} : (a, o) ∈ news → OffL a wr → Turned news wr h' l → Turned news wr h' ((a, o) :: l)
theorem news_turn {h₀ h h' : Heap} {L : Addr} {news l wr : List _} (N : News h₀ L h news) (k : KeepsBut wr h h') (x : Turned news wr h' l) : News h₀ L h' l := by
  induction x with
  | nil => intro p hp; cases hp
  | new hg hm _ ih =>
    intro p hp
    cases hp with
    | head => exact ⟨hg, (N _ hm).2⟩
    | tail _ q => exact ih p q
  | old hm ho _ ih =>
    intro p hp
    cases hp with
    | head => exact ⟨k _ _ ho.off (N _ hm).1, (N _ hm).2⟩
    | tail _ q => exact ih p q
end

section
open PySem PySem.W PySem.Spec PySem.Calls PyProof.Rows PyProof.V PySem.SeqAt

theorem part_none : partLen ([] ++ [(Str.ofString "", Str.ofString "")]) = 0 := by decide
theorem text_none : partText ([] ++ [(Str.ofString "", Str.ofString "")]) = Str.ofString "" := by decide +kernel
theorem newline_nil {w : World} {A : Around} {s : Shared} {p dp l c dc : Addr} {pt : PT} {mx ws wl sc : Value} {ls : List Value} {nl : Nat} {ep : Nat} {hs : Int} {tkd ti : Tok} {ini : Int} {tp1 tp2 : Array Value} {Q E : Value → Shared → Prop} (S : Site w 360 1600 [p, dp, l, c, dc, 161, 168] A s) (hb : AllBare s.gens) (hp : s.heap.get? p = some (instObj 115 dp)) (hdp : s.heap.get? dp = some (pageDict pt mx ws wl sc (.ref l) (.ref c))) (hl : s.heap.get? l = some (listOf ls.toArray nl)) (hc : s.heap.get? c = some (accObj dc #[] ep)) (hdc : s.heap.get? dc = some (accDict hs tkd (.int ini ti))) (ht1 : s.heap.get? 161 = some (tabObj tp1)) (htp1 : tp1 = #[] ∨ ∃ c' : Addr, tp1 = #[rawInt 144, rawInt 19, .ref c']) (ht2 : s.heap.get? 168 = some (tabObj tp2)) (htp2 : tp2 = #[] ∨ ∃ c' : Addr, tp2 = #[rawInt 147, rawInt 32, .ref c']) (hi : 0 ≤ ini ∧ ini < 2 ^ 30) (hls : ls.length < 1000)
  (hret : ∀ (h' : Heap) gs tk' ls' nl' n' t0, AllBare gs → KeepsBut [l, c, dc, 161, 168] s.heap h' → h'.get? l = some (listOf ls'.toArray nl') → (ini = 0 ∧ ls' = ls ∨ 0 < ini ∧ ∃ t1, ls' = ls ++ [Value.str (Str.ofString "") t1]) → h'.get? c = some (accObj dc #[] n') → h'.get? dc = some (accDict hs tkd (.int 0 t0)) → TabSt h' 161 144 19 → TabSt h' 168 147 32 → Q .none ⟨h', gs, s.drawn, tk', s.os⟩) :
    wpAny (model PySem.Challenge.rw_ty0042_01.row.prog w) A (call (.ref 77) [.ref p]) Q E s := by
  refine newline_gen S hb hp hdp hl hc hdc ht1 htp1 ht2 htp2 .nil .nil hi.1 hi.2 hls (by decide) okE okE (by decide) (by decide) (by decide +kernel) fun h' gs tk' ls' nl' n' t0 a1 a2 a3 a4 a5 a6 a7 a8 => hret h' gs tk' ls' nl' n' t0 a1 a2 a3 ?_ a5 a6 a7 a8
  rw [part_none, Int.add_zero, text_none] at a4
  exact a4
end

section
open PySem PySem.W PySem.Spec PySem.Calls PyProof.Rows
local macro_rules | `(tactic| walk_at "exec For") => `(tactic| (k_here; refine for_a ?_))
local macro_rules | `(tactic| walk_at "exec For Name Attribute cons cons") => `(tactic| (k_here; refine for_a ?_))
local macro_rules | `(tactic| walk_at "exec For Name Call cons cons") => `(tactic| (k_here; refine for_a ?_))
local macro_rules | `(tactic| walk_at "pyIter str") => `(tactic| (k_here; refine hold ?_))
local macro_rules | `(tactic| walk_at "pyIter ref") => `(tactic| (k_here; refine hold ?_))

theorem chunk_gen {w : World} {A : Around} {s : Shared} {p dp l c dc : Addr} {pt : PT} {wid : Int} {tmx tsc twd tf : Tok} {ws wl : Value} {ls : List Value} {nl : Nat} {ps : List Value} {ep : Nat} {hs : Int} {tkd ti : Tok} {ini : Int} {tp1 tp2 : Array Value} {qs : List (Str × Str)} {wd : Str} {Q E : Value → Shared → Prop} (S : Site w 350 1500 [p, dp, l, c, dc, 161, 168] A s) (hb : AllBare s.gens) (hp : s.heap.get? p = some (instObj 115 dp)) (hdp : s.heap.get? dp = some (pageDict pt (.int wid tmx) ws wl (.str (Str.ofString " ") tsc) (.ref l) (.ref c))) (hl : s.heap.get? l = some (listOf ls.toArray nl)) (hc : s.heap.get? c = some (accObj dc ps.toArray ep)) (hdc : s.heap.get? dc = some (accDict hs tkd (.int ini ti))) (ht1 : s.heap.get? 161 = some (tabObj tp1)) (htp1 : tp1 = #[] ∨ ∃ c' : Addr, tp1 = #[rawInt 144, rawInt 19, .ref c']) (ht2 : s.heap.get? 168 = some (tabObj tp2)) (htp2 : tp2 = #[] ∨ ∃ c' : Addr, tp2 = #[rawInt 147, rawInt 32, .ref c']) (hpa : PartsAt s.heap ps qs) (hi : 0 ≤ ini) (hi2 : ini < 2 ^ 30) (hls : ls.length < 1000) (hpos : 0 < partLen (qs ++ [(Str.ofString " ", wd)])) (hfit : partLen (qs ++ [(Str.ofString " ", wd)]) < 2 ^ 20) (hqs : qs.length < 1000)
  (hfits : ini + partLen (qs ++ [(Str.ofString " ", wd)]) ≤ wid → ∀ (h' : Heap) gs tk' ps' n' tq, AllBare gs → KeepsBut [c, 161] s.heap h' → h'.get? c = some (accObj dc ps'.toArray n') → PartsAt h' ps' (qs ++ [(Str.ofString " ", wd)]) → h'.get? 161 = some (tabObj tq) → (tq = #[] ∨ ∃ c' : Addr, tq = #[rawInt 144, rawInt 19, .ref c']) → Q .none ⟨h', gs, s.drawn, tk', s.os⟩)
  (hone : wid < ini + partLen (qs ++ [(Str.ofString " ", wd)]) → qs = [] → ∀ (h' : Heap) gs tk' ls' ps' nl' n' t0, AllBare gs → KeepsBut [l, c, dc, 161, 168] s.heap h' → h'.get? l = some (listOf ls'.toArray nl') → (ini = 0 ∧ ls' = ls ∨ 0 < ini ∧ ∃ t1, ls' = ls ++ [Value.str (Str.ofString "") t1]) → h'.get? c = some (accObj dc ps'.toArray n') → PartsAt h' ps' [(Str.ofString " ", wd)] → h'.get? dc = some (accDict hs tkd (.int 0 t0)) → TabSt h' 161 144 19 → TabSt h' 168 147 32 → Q .none ⟨h', gs, s.drawn, tk', s.os⟩)
  (hover : wid < ini + partLen (qs ++ [(Str.ofString " ", wd)]) → qs ≠ [] → ∀ (h' : Heap) gs tk' ps' nl' n' t0 t1, AllBare gs → KeepsBut [l, c, dc, 161, 168] s.heap h' → h'.get? l = some (listOf (ls ++ [Value.str (partText qs) t1]).toArray nl') → h'.get? c = some (accObj dc ps'.toArray n') → PartsAt h' ps' [(Str.ofString " ", wd)] → h'.get? dc = some (accDict hs tkd (.int 0 t0)) → TabSt h' 161 144 19 → TabSt h' 168 147 32 → Q .none ⟨h', gs, s.drawn, tk', s.os⟩) :
    wpAny (model PySem.Challenge.rw_ty0042_01.row.prog w) A (call (.ref 112) [.ref p, .str (Str.ofString " ") tf, .str wd twd]) Q E s := by
  w_top off
  refine wpAny_call ?_
  refine' enterN (binds := [(Str.ofString "self", .ref p), (Str.ofString "fws", .str (Str.ofString " ") tf), (Str.ofString "string", .str wd twd)]) _ S ?k6 ?k7 ?k8 ?k9 ?kB ?_ ?c5 ?c2 ?c3 ?c4
  case k6 => k_is
  case k7 => k_is
  case k8 => decide
  case k9 => exact BindsTo.of_eq rfl
  case kB => exact locs rfl
  case c2 => exact rfl
  case c3 => exact rfl
  case c4 => exact rfl
  case c5 => decide
  intro L cn cs a ccd cl' outer base g L' h₁ mg mb mean hke F N B KX T hg hgn hk1 hL
  try dsimp only
  try k_fold
  try (with_reducible refine wp_letA ?_; intro A9)
  have ne1 : (p : Addr) ≠ dp := ne_tag hp hdp (by with_unfolding_all rfl)
  have ne2 : (p : Addr) ≠ l := ne_tag hp hl (by with_unfolding_all rfl)
  have ne3 : (p : Addr) ≠ c := ne_tag hp hc (by with_unfolding_all rfl)
  have ne4 : (p : Addr) ≠ dc := ne_tag hp hdc (by with_unfolding_all rfl)
  have ne5 : (p : Addr) ≠ 161 := ne_tag hp ht1 (by with_unfolding_all rfl)
  have ne6 : (p : Addr) ≠ 168 := ne_tag hp ht2 (by with_unfolding_all rfl)
  have ne7 : (dp : Addr) ≠ l := ne_tag hdp hl (by with_unfolding_all rfl)
  have ne8 : (dp : Addr) ≠ c := ne_tag hdp hc (by with_unfolding_all rfl)
  have ne9 : (dp : Addr) ≠ dc := ne_tag hdp hdc (by with_unfolding_all rfl)
  have ne10 : (dp : Addr) ≠ 161 := ne_tag hdp ht1 (by with_unfolding_all rfl)
  have ne11 : (dp : Addr) ≠ 168 := ne_tag hdp ht2 (by with_unfolding_all rfl)
  have ne12 : (l : Addr) ≠ c := ne_tag hl hc (by with_unfolding_all rfl)
  have ne13 : (l : Addr) ≠ dc := ne_tag hl hdc (by with_unfolding_all rfl)
  have ne14 : (l : Addr) ≠ 161 := ne_tag hl ht1 (by with_unfolding_all rfl)
  have ne15 : (l : Addr) ≠ 168 := ne_tag hl ht2 (by with_unfolding_all rfl)
  have ne16 : (c : Addr) ≠ dc := ne_tag hc hdc (by with_unfolding_all rfl)
  have ne17 : (c : Addr) ≠ 161 := ne_tag hc ht1 (by with_unfolding_all rfl)
  have ne18 : (c : Addr) ≠ 168 := ne_tag hc ht2 (by with_unfolding_all rfl)
  have ne19 : (dc : Addr) ≠ 161 := ne_tag hdc ht1 (by with_unfolding_all rfl)
  have ne20 : (dc : Addr) ≠ 168 := ne_tag hdc ht2 (by with_unfolding_all rfl)
  have ne21 : (161 : Addr) ≠ 168 := by decide
  have al : AllAt s.heap [(p, instObj 115 dp), (dp, pageDict pt (.int wid tmx) ws wl (.str (Str.ofString " ") tsc) (.ref l) (.ref c)), (l, listOf ls.toArray nl), (c, accObj dc ps.toArray ep), (dc, accDict hs tkd (.int ini ti)), (161, tabObj tp1), (168, tabObj tp2)] := .cons hp (.cons hdp (.cons hl (.cons hc (.cons hdc (.cons ht1 (.cons ht2 .nil))))))
  have N1 := newsAll al hk1 hgn hL
  have hpg := parts_g hpa hg (al.cls rfl)
  have hps : ps.length < 1000 := by rw [hpg.length]; exact hqs
  have hps1 : ps.length ≤ sizeLine := by rw [sizeLine_eq]; (first | lia | omega)
  clear N hpa
  try (with_reducible refine wp_letQ ?_; intro Qz1)
  k_steps
  unfold Hold
  (with_reducible rename Fr _ _ _ _ => F1)
  refine fr_let F1 ?_
  clear F1
  intro mz1x F1
  (with_reducible rename News _ _ _ _ => N1)
  refine' push_call (ps := ps) (site_of rfl ?k1 ?k2 ?k3 ?k4 rfl ?k5 ?k6 rfl ?k7 ?k8) ?kc ?kd ?kz ?_
  case k1 => k_asm
  case k2 => k_asm
  case k3 => k_asm
  case k4 => k_asm
  case k5 => exact Nat.le_of_ble_eq_true rfl
  case k6 => exact Nat.le_of_ble_eq_true rfl
  case kc => exact News.get N1 (by k_mem)
  case kd => exact News.get N1 (by k_mem)
  case kz => first | assumption | (rw [sizeLine_eq]; simp only [List.length_append, List.length_cons, List.length_nil]; (first | lia | omega))
  case k7 => exact not_hid N1 (by repeat (first | exact HidIn.nil | refine HidIn.cons (by k_mem) ?_))
  case k8 => exact none_hid N1 (by repeat (first | exact HidIn.nil | refine HidIn.cons (by k_mem) ?_))
  intro T2 n' h' tk' hT2 hTn2 hc' kb'
  have hf2 := fresh_ne N1 hTn2
  simp only [List.forall_mem_cons] at hf2
  (try dsimp only at hf2)
  repeat (rcases hf2 with ⟨hfx, hf2⟩)
  refine gen_goal fun G9 hG9 => ?_
  obtain ⟨o2, ho2, rT2⟩ := hT2
  refine hG9 ?_
  clear hG9 G9
  have F2 := fr_but F1 kb' (none_hid N1 (by repeat (first | exact HidIn.nil | refine HidIn.cons (by k_mem) ?_))) (not_hid N1 (by repeat (first | exact HidIn.nil | refine HidIn.cons (by k_mem) ?_)))
  have N2 := news_freshI (news_upd1 N1 (by k_updF) kb' hc') F1 hTn2 ho2
  clear F1 N1 kb' hc' hTn2 ho2
  dsimp only
  try (with_reducible refine wp_letQ ?_; intro Qz2)
  k_steps
  unfold Hold
  (with_reducible rename Fr _ _ _ _ => F3)
  refine fr_let F3 ?_
  clear F3
  intro mz2x F3
  (with_reducible rename News _ _ _ _ => N3)
  refine' len_call (ini := ini) (qs := (qs ++ [(Str.ofString " ", wd)])) (site_of rfl ?k1 ?k2 ?k3 ?k4 rfl ?k5 ?k6 rfl ?k7 ?k8) ?kb ?kc ?kd ?kp ?kt ?ku ?kf ?_
  case k1 => k_asm
  case k2 => k_asm
  case k3 => k_asm
  case k4 => k_asm
  case k5 => exact Nat.le_of_ble_eq_true rfl
  case k6 => exact Nat.le_of_ble_eq_true rfl
  case kc => exact News.get N3 (by k_mem)
  case kd => exact News.get N3 (by k_mem)
  case kt => exact News.get N3 (by k_mem)
  case k7 => exact not_hid N3 (by repeat (first | exact HidIn.nil | refine HidIn.cons (by k_mem) ?_))
  case k8 => exact none_hid N3 (by repeat (first | exact HidIn.nil | refine HidIn.cons (by k_mem) ?_))
  case kb => exact hb
  case kp => exact ((hpg.keep fun T o e _ => F3.keep T o e).snoc ⟨o2, (N3 (T2, o2) (by k_mem)).1, rT2⟩)
  case ku => assumption
  case kf => exact ⟨hi, by (first | lia | omega)⟩
  intro t' h' gs' tk' hb4 kb' ⟨tq4, ht', hq4⟩
  have F4 := fr_but F3 kb' (none_hid N3 (by repeat (first | exact HidIn.nil | refine HidIn.cons (by k_mem) ?_))) (not_hid N3 (by repeat (first | exact HidIn.nil | refine HidIn.cons (by k_mem) ?_)))
  have N4 := news_upd1 N3 (by k_updF) kb' ht'
  clear F3 N3 kb'
  refine ⟨⟨by (first | lia | omega), by (first | lia | omega)⟩, ?_⟩
  try (with_reducible refine wp_letQ ?_; intro Qz3)
  k_steps
  · unfold Hold
    (with_reducible rename Fr _ _ _ _ => F4)
    refine fr_let F4 ?_
    clear F4
    intro mz3x F4
    (with_reducible rename News _ _ _ _ => N4)
    refine' iter_blank rfl ?kx ?ky F4 N4 (by assumption) ?_
    case kx => rfl
    case ky => rfl
    intro I own u h gs tk hI hown hb5 F5 N5
    clear F4 N4
    try (with_reducible refine wp_letQ ?_; intro Qz4)
    k_steps
    unfold Hold
    (with_reducible rename Fr _ _ _ _ => F5)
    refine fr_let F5 ?_
    clear F5
    intro mz4x F5
    (with_reducible rename News _ _ _ _ => N5)
    refine' pc_call (ps := (ps ++ [Value.ref T2])) (site_of rfl ?k1 ?k2 ?k3 ?k4 rfl ?k5 ?k6 rfl ?k7 ?k8) ?kc ?kd ?_
    case k1 => k_asm
    case k2 => k_asm
    case k3 => k_asm
    case k4 => k_asm
    case k5 => exact Nat.le_of_ble_eq_true rfl
    case k6 => exact Nat.le_of_ble_eq_true rfl
    case kc => exact News.get N5 (by k_mem)
    case kd => exact News.get N5 (by k_mem)
    case k7 => exact not_hid N5 (by repeat (first | exact HidIn.nil | refine HidIn.cons (by k_mem) ?_))
    case k8 => exact none_hid N5 (by repeat (first | exact HidIn.nil | refine HidIn.cons (by k_mem) ?_))
    intro t' h' tk' kb'
    have F6 := fr_keep F5 kb'
    have N6 := news_keep N5 kb'
    clear F5 N5 kb'
    dsimp only
    try (with_reducible refine wp_letQ ?_; intro Qz5)
    k_steps
    unfold Hold
    (with_reducible rename Fr _ _ _ _ => F7)
    refine fr_let F7 ?_
    clear F7
    intro mz5x F7
    (with_reducible rename News _ _ _ _ => N7)
    by_cases hq : qs = []
    · subst hq
      have hps0 : ps = [] := hpg.nil_inv
      subst hps0
      (with_reducible rename IsRange _ _ _ _ _ _ _ _ => hR)
      refine' iter_range_none (a := 0) rfl ?kx ?ky F7 N7 (by assumption) hR (by decide) (by decide) ?_
      case kx => rfl
      case ky => rfl
      intro h2 gs2 tk2 hb8 F8 N8
      clear F7 N7
      try (with_reducible refine wp_letQ ?_; intro Qz6)
      k_steps
      dsimp only [TurnV]
      unfold Hold
      (with_reducible rename Fr _ _ _ _ => F9)
      refine fr_let F9 ?_
      clear F9
      intro mz6x F9
      (with_reducible rename News _ _ _ _ => N9)
      refine ⟨_, _, _, _, _, rfl, by assumption, F9, N9, fun p hp q => hI p hp (List.mem_singleton.mp q), ?_⟩
      clear F9 N9
      intro h3 gs3 tk3 hb9 F9 N9
      try (with_reducible refine wp_letQ ?_; intro Qz7)
      k_steps
      unfold Hold
      (with_reducible rename Fr _ _ _ _ => F10)
      refine fr_let F10 ?_
      clear F10
      intro mz7x F10
      (with_reducible rename News _ _ _ _ => N10)
      refine' pop_some (ps := []) (y := (.ref T2)) (site_of rfl ?k1 ?k2 ?k3 ?k4 rfl ?k5 ?k6 rfl ?k7 ?k8) ?kc ?kd ?kz ?_
      case k1 => k_asm
      case k2 => k_asm
      case k3 => k_asm
      case k4 => k_asm
      case k5 => exact Nat.le_of_ble_eq_true rfl
      case k6 => exact Nat.le_of_ble_eq_true rfl
      case kc => exact News.get N10 (by k_mem)
      case kd => exact News.get N10 (by k_mem)
      case kz => (rw [sizeLine_eq]; exact Nat.le_of_ble_eq_true rfl)
      case k7 => exact not_hid N10 (by repeat (first | exact HidIn.nil | refine HidIn.cons (by k_mem) ?_))
      case k8 => exact none_hid N10 (by repeat (first | exact HidIn.nil | refine HidIn.cons (by k_mem) ?_))
      intro n' h' tk' hc' kb'
      have F11 := fr_but F10 kb' (none_hid N10 (by repeat (first | exact HidIn.nil | refine HidIn.cons (by k_mem) ?_))) (not_hid N10 (by repeat (first | exact HidIn.nil | refine HidIn.cons (by k_mem) ?_)))
      have N11 := news_upd1 N10 (by k_updF) kb' hc'
      clear F10 N10 kb' hc'
      dsimp only
      have hT2 : IsTup h' T2 [Value.str (Str.ofString " ") tf, Value.str wd twd].toArray := ⟨o2, (N11 (T2, o2) (by k_mem)).1, rT2⟩
      try (with_reducible refine wp_letQ ?_; intro Qz8)
      k_steps
      · have hpos : 0 < ini := by first | (first | lia | omega) | (simp at *; (first | lia | omega))
        clear hT2
        unfold Hold
        (with_reducible rename Fr _ _ _ _ => F12)
        refine fr_let F12 ?_
        clear F12
        intro mz8x F12
        (with_reducible rename News _ _ _ _ => N12)
        refine' newline_nil (ls := ls) (site_of rfl ?k1 ?k2 ?k3 ?k4 rfl ?k5 ?k6 rfl ?k7 ?k8) ?kb ?kc ?kd ?ke ?kf ?kg ?ki ?kj ?kk ?kl ?km ?kn ?_
        case k1 => k_asm
        case k2 => k_asm
        case k3 => k_asm
        case k4 => k_asm
        case k5 => exact Nat.le_of_ble_eq_true rfl
        case k6 => exact Nat.le_of_ble_eq_true rfl
        case kc => exact News.get N12 (by k_mem)
        case kd => exact News.get N12 (by k_mem)
        case ke => exact News.get N12 (by k_mem)
        case kf => exact News.get N12 (by k_mem)
        case kg => exact News.get N12 (by k_mem)
        case ki => exact News.get N12 (by k_mem)
        case kk => exact News.get N12 (by k_mem)
        case k7 => exact not_hid N12 (by repeat (first | exact HidIn.nil | refine HidIn.cons (by k_mem) ?_))
        case k8 => exact none_hid N12 (by repeat (first | exact HidIn.nil | refine HidIn.cons (by k_mem) ?_))
        case kb => assumption
        case kj => assumption
        case kl => assumption
        case km => exact ⟨by (first | lia | omega), by (first | lia | omega)⟩
        case kn => assumption
        intro h' gs' tk' ls12 nl12 n12 t012 hb13 kb' hl' hls12 hc' hd' ⟨tq112, ht1', hq112⟩ ⟨tq212, ht2', hq212⟩
        have F13 := fr_but F12 kb' (none_hid N12 (by repeat (first | exact HidIn.nil | refine HidIn.cons (by k_mem) ?_))) (not_hid N12 (by repeat (first | exact HidIn.nil | refine HidIn.cons (by k_mem) ?_)))
        have N13 : News g _ _ [(T2, o2), (p, instObj 115 dp), (dp, pageDict pt (.int wid tmx) ws wl (.str (Str.ofString " ") tsc) (.ref l) (.ref c)), (l, listOf ls12.toArray nl12), (c, accObj dc #[] n12), (dc, accDict hs tkd (.int 0 t012)), (161, tabObj tq112), (168, tabObj tq212)] := news_turn N12 kb' (by repeat (first | exact Turned.nil | refine Turned.new (by assumption) (by k_mem) ?_ | refine Turned.old (by k_mem) (by repeat (first | exact OffL.nil | refine OffL.cons (by k_ne) ?_)) ?_))
        clear F12 N12 kb' hl' hc' hd' ht1' ht2'
        dsimp only
        try (with_reducible refine wp_letQ ?_; intro Qz9)
        k_steps
        unfold Hold
        (with_reducible rename Fr _ _ _ _ => F14)
        refine fr_let F14 ?_
        clear F14
        intro mz9x F14
        (with_reducible rename News _ _ _ _ => N14)
        refine' push_call (ps := []) (site_of rfl ?k1 ?k2 ?k3 ?k4 rfl ?k5 ?k6 rfl ?k7 ?k8) ?kc ?kd ?kz ?_
        case k1 => k_asm
        case k2 => k_asm
        case k3 => k_asm
        case k4 => k_asm
        case k5 => exact Nat.le_of_ble_eq_true rfl
        case k6 => exact Nat.le_of_ble_eq_true rfl
        case kc => exact News.get N14 (by k_mem)
        case kd => exact News.get N14 (by k_mem)
        case kz => first | assumption | (rw [sizeLine_eq]; simp only [List.length_append, List.length_cons, List.length_nil]; (first | lia | omega))
        case k7 => exact not_hid N14 (by repeat (first | exact HidIn.nil | refine HidIn.cons (by k_mem) ?_))
        case k8 => exact none_hid N14 (by repeat (first | exact HidIn.nil | refine HidIn.cons (by k_mem) ?_))
        intro T3 n' h' tk' hT3 hTn3 hc' kb'
        have hf3 := fresh_ne N14 hTn3
        simp only [List.forall_mem_cons] at hf3
        (try dsimp only at hf3)
        repeat (rcases hf3 with ⟨hfx, hf3⟩)
        refine gen_goal fun G9 hG9 => ?_
        obtain ⟨o3, ho3, rT3⟩ := hT3
        refine hG9 ?_
        clear hG9 G9
        have F15 := fr_but F14 kb' (none_hid N14 (by repeat (first | exact HidIn.nil | refine HidIn.cons (by k_mem) ?_))) (not_hid N14 (by repeat (first | exact HidIn.nil | refine HidIn.cons (by k_mem) ?_)))
        have N15 := news_freshI (news_upd1 N14 (by k_updF) kb' hc') F14 hTn3 ho3
        clear F14 N14 kb' hc' hTn3 ho3
        dsimp only
        try (with_reducible refine wp_letQ ?_; intro Qz10)
        k_steps
        (with_reducible rename Fr _ _ _ _ => F16)
        refine fr_let F16 ?_
        clear F16
        intro mz10x F16
        (with_reducible rename News _ _ _ _ => N16)
        exact hone (by first | assumption | (first | lia | omega)) rfl _ _ _ _ _ _ _ _ (by assumption) (keepbut_wr hg F16 N16 (by repeat (first | exact KeptIn.nil | refine KeptIn.skip (by first | exact .head _ | exact .tail _ (.head _) | exact .tail _ (.tail _ (.head _)) | exact .tail _ (.tail _ (.tail _ (.head _))) | exact .tail _ (.tail _ (.tail _ (.tail _ (.head _))))) ?_ | refine KeptIn.keep (by k_mem) (by assumption) ?_))) (N16 (l, _) (by k_mem)).1 hls12 (N16 (c, _) (by k_mem)).1 (.cons ⟨o3, (N16 (T3, o3) (by k_mem)).1, rT3⟩ .nil) (N16 (dc, _) (by k_mem)).1 ⟨_, (N16 (161, _) (by k_mem)).1, by assumption⟩ ⟨_, (N16 (168, _) (by k_mem)).1, by assumption⟩
      · have hz : ini = 0 := by first | (first | lia | omega) | (simp at *; (first | lia | omega))
        subst hz
        clear hT2
        unfold Hold
        (with_reducible rename Fr _ _ _ _ => F12)
        refine fr_let F12 ?_
        clear F12
        intro mz11x F12
        (with_reducible rename News _ _ _ _ => N12)
        refine' push_call (ps := []) (site_of rfl ?k1 ?k2 ?k3 ?k4 rfl ?k5 ?k6 rfl ?k7 ?k8) ?kc ?kd ?kz ?_
        case k1 => k_asm
        case k2 => k_asm
        case k3 => k_asm
        case k4 => k_asm
        case k5 => exact Nat.le_of_ble_eq_true rfl
        case k6 => exact Nat.le_of_ble_eq_true rfl
        case kc => exact News.get N12 (by k_mem)
        case kd => exact News.get N12 (by k_mem)
        case kz => first | assumption | (rw [sizeLine_eq]; simp only [List.length_append, List.length_cons, List.length_nil]; (first | lia | omega))
        case k7 => exact not_hid N12 (by repeat (first | exact HidIn.nil | refine HidIn.cons (by k_mem) ?_))
        case k8 => exact none_hid N12 (by repeat (first | exact HidIn.nil | refine HidIn.cons (by k_mem) ?_))
        intro T3 n' h' tk' hT3 hTn3 hc' kb'
        have hf3 := fresh_ne N12 hTn3
        simp only [List.forall_mem_cons] at hf3
        (try dsimp only at hf3)
        repeat (rcases hf3 with ⟨hfx, hf3⟩)
        refine gen_goal fun G9 hG9 => ?_
        obtain ⟨o3, ho3, rT3⟩ := hT3
        refine hG9 ?_
        clear hG9 G9
        have F13 := fr_but F12 kb' (none_hid N12 (by repeat (first | exact HidIn.nil | refine HidIn.cons (by k_mem) ?_))) (not_hid N12 (by repeat (first | exact HidIn.nil | refine HidIn.cons (by k_mem) ?_)))
        have N13 := news_freshI (news_upd1 N12 (by k_updF) kb' hc') F12 hTn3 ho3
        clear F12 N12 kb' hc' hTn3 ho3
        dsimp only
        try (with_reducible refine wp_letQ ?_; intro Qz11)
        k_steps
        (with_reducible rename Fr _ _ _ _ => F14)
        refine fr_let F14 ?_
        clear F14
        intro mz12x F14
        (with_reducible rename News _ _ _ _ => N14)
        exact hone (by first | assumption | (first | lia | omega)) rfl _ _ _ _ _ _ _ _ (by assumption) (keepbut_wr hg F14 N14 (by repeat (first | exact KeptIn.nil | refine KeptIn.skip (by first | exact .head _ | exact .tail _ (.head _) | exact .tail _ (.tail _ (.head _)) | exact .tail _ (.tail _ (.tail _ (.head _))) | exact .tail _ (.tail _ (.tail _ (.tail _ (.head _))))) ?_ | refine KeptIn.keep (by k_mem) (by assumption) ?_))) (N14 (l, _) (by k_mem)).1 (.inl ⟨rfl, rfl⟩) (N14 (c, _) (by k_mem)).1 (.cons ⟨o3, (N14 (T3, o3) (by k_mem)).1, rT3⟩ .nil) (N14 (dc, _) (by k_mem)).1 ⟨_, (N14 (161, _) (by k_mem)).1, by assumption⟩ ⟨_, (N14 (168, _) (by k_mem)).1, by assumption⟩
    · have hpl : 0 < ps.length := by rw [hpg.length]; exact List.length_pos_iff.mpr hq
      have ea : ((ps ++ [Value.ref T2]).length : Int) - 1 = (ps.length : Int) := by simp
      (with_reducible rename IsRange _ _ _ _ _ _ _ _ => hR)
      rw [ea] at hR
      refine' iter_range_first (n := ps.length) (a := (ps.length : Int)) rfl ?kx ?ky F7 N7 (by assumption) hR (range_small _ (by (first | lia | omega))) (range_size _ hpl) hpl ?_
      case kx => rfl
      case ky => rfl
      intro I2 own2 u2 h2 gs2 tk2 hI2 hown2 hb8 F8 N8
      clear F7 N7
      try (with_reducible refine wp_letQ ?_; intro Qz12)
      k_steps
      (with_reducible rename Fr _ _ _ _ => F9)
      refine fr_let F9 ?_
      clear F9
      intro mz13x F9
      (with_reducible rename News _ _ _ _ => N9)
      refine' acc_int_tail (a := ps.length) (v := .ref T2) (dc := dc) (ps := ps ++ [Value.ref T2]) F9 KX ?kI ?kf ?ks ?kq ?kv (by (first | lia | omega)) ?_ ?_
      case kI => k_inst
      case kf => k_is
      case ks => k_is
      case kq => k_is
      case kv => simp
      rotate_left
      · with_unfolding_all rfl
      try (with_reducible refine wp_letQ ?_; intro Qz13)
      k_steps
      refine item_tupleL (l := [Value.str (Str.ofString " ") _, Value.str wd _]) (j := 0) ⟨o2, (N9 (T2, o2) (by k_mem)).1, rT2⟩ (by decide) (by decide) rfl rfl ?_ (by with_unfolding_all rfl) (by intro _; with_unfolding_all rfl)
      try (with_reducible refine wp_letQ ?_; intro Qz14)
      k_steps
      (with_reducible rename Fr _ _ _ _ => F10)
      refine fr_let F10 ?_
      clear F10
      intro mz14x F10
      (with_reducible rename News _ _ _ _ => N10)
      have N11 : News g _ _ _ := fun p hp => N10 p (List.mem_append_right own2 (List.mem_append_right own hp))
      have F11 := F10
      clear N10 F10
      dsimp only [TurnV]
      try (with_reducible refine wp_letQ ?_; intro Qz15)
      k_steps
      dsimp only [TurnV]
      try (with_reducible refine wp_letQ ?_; intro Qz16)
      k_steps
      unfold Hold
      (with_reducible rename Fr _ _ _ _ => F12)
      refine fr_let F12 ?_
      clear F12
      intro mz15x F12
      (with_reducible rename News _ _ _ _ => N12)
      refine' popfrom_call (ps := ps ++ [Value.ref T2]) (i := ps.length) (site_of rfl ?k1 ?k2 ?k3 ?k4 rfl ?k5 ?k6 rfl ?k7 ?k8) ?kc ?kd ?kx ?kz ?_
      case k1 => k_asm
      case k2 => k_asm
      case k3 => k_asm
      case k4 => k_asm
      case k5 => exact Nat.le_of_ble_eq_true rfl
      case k6 => exact Nat.le_of_ble_eq_true rfl
      case kc => exact News.get N12 (by k_mem)
      case kd => exact News.get N12 (by k_mem)
      case kx => exact (by simp)
      case kz => first | assumption | (rw [sizeLine_eq]; simp only [List.length_append, List.length_cons, List.length_nil]; (first | lia | omega))
      case k7 => exact not_hid N12 (by repeat (first | exact HidIn.nil | refine HidIn.cons (by k_mem) ?_))
      case k8 => exact none_hid N12 (by repeat (first | exact HidIn.nil | refine HidIn.cons (by k_mem) ?_))
      intro P h' n' tk' hP hTnP hc' kb'
      have hfP := fresh_ne N12 hTnP
      simp only [List.forall_mem_cons] at hfP
      (try dsimp only at hfP)
      repeat (rcases hfP with ⟨hfx, hfP⟩)
      refine gen_goal fun G9 hG9 => ?_
      obtain ⟨oP, hoP, rP⟩ := hP
      refine hG9 ?_
      clear hG9 G9
      have F13 := fr_but F12 kb' (none_hid N12 (by repeat (first | exact HidIn.nil | refine HidIn.cons (by k_mem) ?_))) (not_hid N12 (by repeat (first | exact HidIn.nil | refine HidIn.cons (by k_mem) ?_)))
      have N13 := news_freshI (news_upd1 N12 (by k_updF) kb' hc') F12 hTnP hoP
      clear F12 N12 kb' hc' hTnP hoP
      have et : (ps ++ [Value.ref T2]).take ps.length = ps := by simp
      have ed : (ps ++ [Value.ref T2]).drop ps.length = [Value.ref T2] := by simp
      rw [et] at N13
      rw [ed] at rP
      have hqs1 : qs.length ≤ sizeLine := by rw [sizeLine_eq]; (first | lia | omega)
      have hls1 : ls.length ≤ sizeLine := by rw [sizeLine_eq]; (first | lia | omega)
      have hfit2 : partLen qs < 2 ^ 20 := by rw [partLen_snoc] at hfit; (first | lia | omega)
      try (with_reducible refine wp_letQ ?_; intro Qz17)
      k_steps
      unfold Hold
      (with_reducible rename Fr _ _ _ _ => F14)
      refine fr_let F14 ?_
      clear F14
      intro mz16x F14
      (with_reducible rename News _ _ _ _ => N14)
      refine' str_call (qs := qs) (site_of rfl ?k1 ?k2 ?k3 ?k4 rfl ?k5 ?k6 rfl ?k7 ?k8) ?kb ?kc ?kd ?kp ?kt ?ku ?kf ?kg ?_
      case k1 => k_asm
      case k2 => k_asm
      case k3 => k_asm
      case k4 => k_asm
      case k5 => exact Nat.le_of_ble_eq_true rfl
      case k6 => exact Nat.le_of_ble_eq_true rfl
      case kc => exact News.get N14 (by k_mem)
      case kd => exact News.get N14 (by k_mem)
      case kt => exact News.get N14 (by k_mem)
      case k7 => exact not_hid N14 (by repeat (first | exact HidIn.nil | refine HidIn.cons (by k_mem) ?_))
      case k8 => exact none_hid N14 (by repeat (first | exact HidIn.nil | refine HidIn.cons (by k_mem) ?_))
      case kb => exact (by assumption)
      case kp => exact (hpg.keep fun T o e _ => F14.keep T o e)
      case ku => assumption
      case kf => exact hfit2
      case kg => exact hqs1
      intro t' h' gs' tk' hb15 kb' ⟨tq15, ht', hq15⟩
      have F15 := fr_but F14 kb' (none_hid N14 (by repeat (first | exact HidIn.nil | refine HidIn.cons (by k_mem) ?_))) (not_hid N14 (by repeat (first | exact HidIn.nil | refine HidIn.cons (by k_mem) ?_)))
      have N15 := news_upd1 N14 (by k_updF) kb' ht'
      clear F14 N14 kb'
      unfold W.StrBack
      dsimp only
      try (with_reducible refine wp_letQ ?_; intro Qz18)
      k_steps
      unfold Hold
      (with_reducible rename Fr _ _ _ _ => F16)
      refine fr_let F16 ?_
      clear F16
      intro mz17x F16
      (with_reducible rename News _ _ _ _ => N16)
      refine' reset_call (ns := [Value.ref T2]) (site_of rfl ?k1 ?k2 ?k3 ?k4 rfl ?k5 ?k6 rfl ?k7 ?k8) ?kc ?kd ?kx ?kz ?_
      case k1 => k_asm
      case k2 => k_asm
      case k3 => k_asm
      case k4 => k_asm
      case k5 => exact Nat.le_of_ble_eq_true rfl
      case k6 => exact Nat.le_of_ble_eq_true rfl
      case kc => exact News.get N16 (by k_mem)
      case kd => exact News.get N16 (by k_mem)
      case kx => exact ⟨oP, (N16 (P, oP) (by k_mem)).1, rP⟩
      case kz => first | assumption | (rw [sizeLine_eq]; simp only [List.length_append, List.length_cons, List.length_nil]; (first | lia | omega))
      case k7 => exact not_hid N16 (by repeat (first | exact HidIn.nil | refine HidIn.cons (by k_mem) ?_))
      case k8 => exact none_hid N16 (by repeat (first | exact HidIn.nil | refine HidIn.cons (by k_mem) ?_))
      intro h' n' tk' t0' hc' hd' kb'
      have F17 := fr_but F16 kb' (none_hid N16 (by repeat (first | exact HidIn.nil | refine HidIn.cons (by k_mem) ?_))) (not_hid N16 (by repeat (first | exact HidIn.nil | refine HidIn.cons (by k_mem) ?_)))
      have N17 := news_upd2 N16 (by k_updF) (by k_updF) kb' hc' hd'
      clear F16 N16 kb' hc' hd'
      dsimp only
      try (with_reducible refine wp_letQ ?_; intro Qz19)
      k_steps
      (with_reducible rename Fr _ _ _ _ => F18)
      refine fr_let F18 ?_
      clear F18
      intro mz18x F18
      (with_reducible rename News _ _ _ _ => N18)
      exact hover (by first | assumption | (first | lia | omega)) hq _ _ _ _ _ _ _ _ (by assumption) (keepbut_wr hg F18 N18 (by repeat (first | exact KeptIn.nil | refine KeptIn.skip (by first | exact .head _ | exact .tail _ (.head _) | exact .tail _ (.tail _ (.head _)) | exact .tail _ (.tail _ (.tail _ (.head _))) | exact .tail _ (.tail _ (.tail _ (.tail _ (.head _))))) ?_ | refine KeptIn.keep (by k_mem) (by assumption) ?_))) (N18 (l, _) (by k_mem)).1 (N18 (c, _) (by k_mem)).1 (.cons ⟨o2, (N18 (T2, o2) (by k_mem)).1, rT2⟩ .nil) (N18 (dc, _) (by k_mem)).1 ⟨_, (N18 (161, _) (by k_mem)).1, by assumption⟩ ⟨_, (N18 (168, _) (by k_mem)).1, by assumption⟩
  · (with_reducible rename Fr _ _ _ _ => F4)
    (with_reducible rename News _ _ _ _ => N4)
    exact hfits (by first | assumption | (first | lia | omega)) _ _ _ _ _ _ (by assumption) (keepbut_wr hg F4 N4 (by repeat (first | exact KeptIn.nil | refine KeptIn.skip (by first | exact .head _ | exact .tail _ (.head _) | exact .tail _ (.tail _ (.head _)) | exact .tail _ (.tail _ (.tail _ (.head _))) | exact .tail _ (.tail _ (.tail _ (.tail _ (.head _))))) ?_ | refine KeptIn.keep (by k_mem) (by assumption) ?_))) (N4 (c, _) (by k_mem)).1 ((hpg.keep fun T o e _ => F4.keep T o e).snoc ⟨o2, (N4 (T2, o2) (by k_mem)).1, rT2⟩) (N4 (161, _) (by k_mem)).1 (by assumption)
end

end

end

end

end

section
open PySem PySem.W PySem.Spec PySem.Calls PyProof.Rows PyProof.V PySem.SeqAt
local macro_rules | `(tactic| walk_at "call ref") => `(tactic| (k_here; refine hold ?_))

section
open PySem PySem.W PySem.Spec PySem.Calls PyProof.Rows

theorem vinit {w : World} {A : Around} {s : Shared} {p dp : Addr} {head wid : Int} {th tw tc tsc : Tok} {R : Result → Shared → Prop} (S : Site w 350 1500 [p, dp] A s) (hp : s.heap.get? p = some (instObj 115 dp)) (hdp : s.heap.get? dp = some (dictOf [] 0)) (hh0 : 0 ≤ head)
  (hret : ∀ pt l c dc ws wl hs tkd ti nl n' h' tk', h'.get? dp = some (pageDict pt (.int wid tw) ws wl (.str (Str.ofString " ") tsc) (.ref l) (.ref c)) → h'.get? l = some (listOf #[] nl) → s.heap.get? l = none → h'.get? c = some (accObj dc #[] n') → s.heap.get? c = none → h'.get? dc = some (accDict hs tkd (.int head ti)) → s.heap.get? dc = none → KeepsBut [dp] s.heap h' → R (.ok (.ret .none)) ⟨h', s.gens, s.drawn, tk', s.os⟩) :
    codeAny (model PySem.Challenge.rw_ty0042_01.row.prog w) A (.call (.ref 56) ⟨[.ref p, .int head th, .int wid tw, .str (Str.ofString " ") tc, .str (Str.ofString " ") tsc], []⟩) R s := by
  w_top off
  refine' enterN (binds := [(Str.ofString "self", .ref p), (Str.ofString "headerlen", .int head th), (Str.ofString "maxlen", .int wid tw), (Str.ofString "continuation_ws", .str (Str.ofString " ") tc), (Str.ofString "splitchars", .str (Str.ofString " ") tsc)]) _ S ?k6 ?k7 ?k8 ?k9 ?kB ?_ ?c5 ?c2 ?c3 ?c4
  case k6 => k_is
  case k7 => k_is
  case k8 => decide
  case k9 => exact BindsTo.of_eq rfl
  case kB => exact locs rfl
  case c2 => exact rfl
  case c3 => exact rfl
  case c4 => exact rfl
  case c5 => decide
  intro L cn cs a ccd cl' outer base g L' h₁ mg mb mean hke F N B KX T hg hgn hk1 hL
  try dsimp only
  try k_fold
  try (with_reducible refine wp_letA ?_; intro A9)

  have ne1 : p ≠ dp := ne_tag hp hdp (by with_unfolding_all rfl)
  have al : AllAt s.heap [(p, instObj 115 dp), (dp, dictOf [] 0)] := .cons hp (.cons hdp .nil)
  have N1 := newsAll al hk1 hgn hL
  clear N
  try (with_reducible refine wp_letQ ?_; intro Qz1)
  k_steps
  unfold Hold
  (with_reducible rename Fr _ _ _ _ => F1)
  refine fr_let F1 ?_
  clear F1
  intro mz1x F1
  (with_reducible rename News _ _ _ _ => N1)
  refine wpAny_call ?_
  refine' makeL_K F1 N1 (KX.keeps F1.keep) (makes199 _) ?ki ?kf ?_
  case ki => k_is
  case kf => k_is
  intro x dx h' F2 N2 l1 l2
  have hxd : x ≠ dx := Nat.ne_of_gt l2
  k_lt l1
  k_lt2 l2
  clear F1 N1
  refine' init_call (site_of rfl ?k1 ?k2 ?k3 ?k4 rfl ?k5 ?k6 rfl ?k7 ?k8) (N2 (x, _) (.head _)).1 (N2 (dx, _) (.tail _ (.head _))).1 hxd ?_
  case k1 => k_asm
  case k2 => k_asm
  case k3 => k_asm
  case k4 => k_asm
  case k5 => exact Nat.le_of_ble_eq_true rfl
  case k6 => exact Nat.le_of_ble_eq_true rfl
  case k7 => exact not_hid N2 (.cons (.head _) (.cons (.tail _ (.head _)) .nil))
  case k8 => exact none_hid N2 (.cons (.head _) (.cons (.tail _ (.head _)) .nil))
  intro hs tkd h3 n3 tk3 hc3 hd3 kb3
  have F3 := fr_but F2 kb3 (none_hid N2 (.cons (.head _) (.cons (.tail _ (.head _)) .nil))) (not_hid N2 (.cons (.head _) (.cons (.tail _ (.head _)) .nil)))
  have N3 := news_upd2 N2 (by k_updF) (by k_updF) kb3 hc3 hd3
  clear F2 N2 kb3 hc3 hd3
  refine ⟨rfl, ?_⟩
  dsimp only
  try (with_reducible refine wp_letQ ?_; intro Qz2)
  k_steps
  (with_reducible rename Fr _ _ _ _ => F4)
  refine fr_let F4 ?_
  clear F4
  intro mz2x F4
  (with_reducible rename News _ _ _ _ => N4)

  exact hret (PT.mk _ _ _ _ _ _ _ _ _ _ _ _) _ _ _ _ _ _ _ _ _ _ _ _ (N4 (dp, _) (by k_mem)).1 (N4 _ (.tail _ (.tail _ (.head _)))).1 (new_two hg (N4 _ (.tail _ (.tail _ (.head _)))).2.2 (by k_ne) (by k_ne)) (N4 (x, _) (by k_mem)).1 (new_two hg (N4 (x, _) (by k_mem)).2.2 (by k_ne) (by k_ne)) (N4 (dx, _) (by k_mem)).1 (new_two hg (N4 (dx, _) (by k_mem)).2.2 (by k_ne) (by k_ne)) (keepbut_wr hg F4 N4 (by repeat (first | exact KeptIn.nil | refine KeptIn.skip (by first | exact .head _ | exact .tail _ (.head _) | exact .tail _ (.tail _ (.head _)) | exact .tail _ (.tail _ (.tail _ (.head _))) | exact .tail _ (.tail _ (.tail _ (.tail _ (.head _))))) ?_ | refine KeptIn.keep (by k_mem) (by assumption) ?_)))
end

section
open PySem PySem.W PySem.Spec PySem.Calls PyProof.Rows PyProof.V PySem.SeqAt

noncomputable abbrev blank : Str := Str.ofString " "
/-- one word is laid behind a page: the rows that are done, the parts of the row under way, the head's signs -/
noncomputable def pageStep (wid : Int) (st : List Str × List (Str × Str) × Int) (wd : Str) : List Str × List (Str × Str) × Int :=
  if st.2.2 + partLen (st.2.1 ++ [(blank, wd)]) ≤ wid then (st.1, st.2.1 ++ [(blank, wd)], st.2.2)
  else if st.2.1 = [] then (if 0 < st.2.2 then st.1 ++ [Str.ofString ""] else st.1, [(blank, wd)], 0)
  else (st.1 ++ [partText st.2.1], [(blank, wd)], 0)
theorem strs_snoc {vs : List Value} {ys : List Str} (x : StrsAre vs ys) (y : Str) (t : Tok) : StrsAre (vs ++ [.str y t]) (ys ++ [y]) := by
  induction x with
  | nil => exact .cons _ _ .nil
  | cons _ _ _ ih => exact .cons _ _ ih
/-- the parts of a row lie frozen, in the base or in a ledger -/
inductive PartsIn (h₀ : Heap) (tt : List (Addr × Obj)) : List Value → List (Str × Str) → Prop
  | nil : PartsIn h₀ tt [] []
  | led {T : Addr} {o : Obj} {n : Nat} {a b : Str} {ta tb : Tok} {ps : List Value} {qs : List (Str × Str)} : (T, o) ∈ tt → o.cls = .type "tuple" → o.data = .seq #[.str a ta, .str b tb] n → PartsIn h₀ tt ps qs → PartsIn h₀ tt (.ref T :: ps) ((a, b) :: qs)
  | base {T : Addr} {a b : Str} {ta tb : Tok} {ps : List Value} {qs : List (Str × Str)} : IsTup h₀ T #[.str a ta, .str b tb] → PartsIn h₀ tt ps qs → PartsIn h₀ tt (.ref T :: ps) ((a, b) :: qs)
theorem PartsIn.mono {h₀ : Heap} {tt tt' : List (Addr × Obj)} (k : ∀ p ∈ tt, p ∈ tt') {ps : List Value} {qs : List (Str × Str)} (x : PartsIn h₀ tt ps qs) : PartsIn h₀ tt' ps qs := by
  induction x with
  | nil => exact .nil
  | led hm h1 h2 _ ih => exact .led (k _ hm) h1 h2 ih
  | base h1 _ ih => exact .base h1 ih
theorem PartsIn.at {h₀ h : Heap} {L : Addr} {m : Str → Option Value} {tt : List (Addr × Obj)} (F : Fr h₀ L h m) (N : News h₀ L h tt) {ps : List Value} {qs : List (Str × Str)} (x : PartsIn h₀ tt ps qs) : PartsAt h ps qs := by
  induction x with
  | nil => exact .nil
  | led hm h1 h2 _ ih => exact .cons ⟨_, (N _ hm).1, h1, _, h2⟩ ih
  | base h1 _ ih => obtain ⟨o, ho, r⟩ := h1; exact .cons ⟨o, F.keep _ _ ho, r⟩ ih
theorem parts_in {h₀ h : Heap} {L : Addr} {m : Str → Option Value} (F : Fr h₀ L h m) {ps : List Value} {qs : List (Str × Str)} (x : PartsAt h ps qs) : ∃ tt, News h₀ L h tt ∧ PartsIn h₀ tt ps qs ∧ ∀ p ∈ tt, p.2.cls = .type "tuple" := by
  induction x with
  | nil => exact ⟨[], (fun p hp => nomatch hp), .nil, (fun p hp => nomatch hp)⟩
  | @cons T a b ta tb ps qs ht _ ih =>
    obtain ⟨tt, N, P, hc⟩ := ih
    obtain ⟨o, ho, h1, n, h2⟩ := ht
    cases e : h₀.get? T with
    | none =>
      refine ⟨(T, o) :: tt, ?_, .led (.head _) h1 h2 (P.mono fun p hp => .tail _ hp), ?_⟩
      · intro p hp
        cases hp with
        | head =>
          refine ⟨ho, ?_, e⟩
          rintro rfl
          obtain ⟨oL, es, ep, hL, hd, _⟩ := F.ns
          rw [ho] at hL
          cases hL
          rw [h2] at hd; cases hd
        | tail _ q => exact N p q
      · intro p hp
        cases hp with
        | head => exact h1
        | tail _ q => exact hc p q
    | some o' =>
      have := F.keep _ _ e
      rw [ho] at this
      cases this
      exact ⟨tt, N, .base ⟨o, e, h1, n, h2⟩ P, hc⟩

theorem chunk_call {w : World} {A : Around} {s : Shared} {p dp l c dc : Addr} {pt : PT} {wid : Int} {tmx tsc twd tf : Tok} {ws wl : Value} {ls : List Value} {nl : Nat} {ps : List Value} {ep : Nat} {hs : Int} {tkd ti : Tok} {ini : Int} {tp1 tp2 : Array Value} {qs : List (Str × Str)} {lsx : List Str} {wd : Str} {Q E : Value → Shared → Prop} (S : Site w 350 1500 [p, dp, l, c, dc, 161, 168] A s)
    (hb : AllBare s.gens) (hp : s.heap.get? p = some (instObj 115 dp)) (hdp : s.heap.get? dp = some (pageDict pt (.int wid tmx) ws wl (.str (Str.ofString " ") tsc) (.ref l) (.ref c))) (hl : s.heap.get? l = some (listOf ls.toArray nl)) (hc : s.heap.get? c = some (accObj dc ps.toArray ep)) (hdc : s.heap.get? dc = some (accDict hs tkd (.int ini ti))) (ht1 : s.heap.get? 161 = some (tabObj tp1)) (htp1 : tp1 = #[] ∨ ∃ c' : Addr, tp1 = #[rawInt 144, rawInt 19, .ref c']) (ht2 : s.heap.get? 168 = some (tabObj tp2)) (htp2 : tp2 = #[] ∨ ∃ c' : Addr, tp2 = #[rawInt 147, rawInt 32, .ref c']) (hlx : StrsAre ls lsx) (hpa : PartsAt s.heap ps qs) (hi : 0 ≤ ini) (hi2 : ini < 2 ^ 30) (hls : ls.length < 1000) (hpos : 0 < partLen (qs ++ [(blank, wd)])) (hfit : partLen (qs ++ [(blank, wd)]) < 2 ^ 20) (hqs : qs.length < 1000)
    (hret : ∀ (h' : Heap) gs tk' ls' ps' ini' nl' n' t0, AllBare gs → KeepsBut [l, c, dc, 161, 168] s.heap h' → h'.get? l = some (listOf ls'.toArray nl') → h'.get? c = some (accObj dc ps'.toArray n') → h'.get? dc = some (accDict hs tkd (.int ini' t0)) → TabSt h' 161 144 19 → TabSt h' 168 147 32 →
      StrsAre ls' (pageStep wid (lsx, qs, ini) wd).1 → PartsAt h' ps' (pageStep wid (lsx, qs, ini) wd).2.1 → ini' = (pageStep wid (lsx, qs, ini) wd).2.2 → Q .none ⟨h', gs, s.drawn, tk', s.os⟩) :
    wpAny (model PySem.Challenge.rw_ty0042_01.row.prog w) A (call (.ref 112) [.ref p, .str (Str.ofString " ") tf, .str wd twd]) Q E s := by
  have ne1 : (l : Addr) ≠ c := fun q => by rw [q] at hl; exact absurd (hl.symm.trans hc) (by intro z; first | (cases z; done) | (simp at z; done))
  have ne2 : (l : Addr) ≠ dc := fun q => by rw [q] at hl; exact absurd (hl.symm.trans hdc) (by intro z; first | (cases z; done) | (simp at z; done))
  have ne3 : (l : Addr) ≠ 161 := fun q => by rw [q] at hl; exact absurd (hl.symm.trans ht1) (by intro z; first | (cases z; done) | (simp at z; done))
  have ne4 : (l : Addr) ≠ 168 := fun q => by rw [q] at hl; exact absurd (hl.symm.trans ht2) (by intro z; first | (cases z; done) | (simp at z; done))
  have ne5 : (c : Addr) ≠ dc := fun q => by rw [q] at hc; exact absurd (hc.symm.trans hdc) (by intro z; first | (cases z; done) | (simp at z; done))
  have ne6 : (c : Addr) ≠ 161 := fun q => by rw [q] at hc; exact absurd (hc.symm.trans ht1) (by intro z; first | (cases z; done) | (simp at z; done))
  have ne7 : (c : Addr) ≠ 168 := fun q => by rw [q] at hc; exact absurd (hc.symm.trans ht2) (by intro z; first | (cases z; done) | (simp at z; done))
  have ne8 : (dc : Addr) ≠ 161 := fun q => by rw [q] at hdc; exact absurd (hdc.symm.trans ht1) (by intro z; first | (cases z; done) | (simp at z; done))
  have ne9 : (dc : Addr) ≠ 168 := fun q => by rw [q] at hdc; exact absurd (hdc.symm.trans ht2) (by intro z; first | (cases z; done) | (simp at z; done))
  have ne10 : (161 : Addr) ≠ 168 := by decide
  unfold pageStep at hret
  dsimp only at hret
  refine chunk_gen S hb hp hdp hl hc hdc ht1 htp1 ht2 htp2 hpa hi hi2 hls hpos hfit hqs (fun h1 h' gs tk' ps' n' tq a1 a2 a3 a4 a5 a6 => ?_) (fun h1 h2 h' gs tk' ls' ps' nl' n' t0 a1 a2 a3 a4 a5 a6 a7 a8 a9 => ?_) (fun h1 h2 h' gs tk' ps' nl' n' t0 t1 a1 a2 a3 a4 a5 a6 a7 a8 => ?_)
  · rw [if_pos h1] at hret
    refine hret h' gs tk' ls ps' ini nl n' ti a1 (fun b o hb' e => a2 b o (by simp only [List.mem_cons, List.not_mem_nil, or_false, not_or] at hb' ⊢; exact ⟨hb'.2.1, hb'.2.2.2.1⟩) e) (a2 l _ (by simp [ne1, ne3]) hl) a3 (a2 dc _ (by simp [Ne.symm ne5, ne8]) hdc) ⟨tq, a5, a6⟩ ⟨tp2, a2 168 _ (by simp [Ne.symm ne7]) ht2, htp2⟩ hlx a4 rfl
  · rw [if_neg (Int.not_le.mpr h1), if_pos h2] at hret
    refine hret h' gs tk' ls' ps' 0 nl' n' t0 a1 a2 a3 a5 a7 a8 a9 ?_ a6 rfl
    rcases a4 with ⟨q, rfl⟩ | ⟨q, t1, rfl⟩
    · rw [if_neg (by (first | lia | omega))]; exact hlx
    · rw [if_pos q]; exact strs_snoc hlx _ _
  · rw [if_neg (Int.not_le.mpr h1), if_neg h2] at hret
    exact hret h' gs tk' _ ps' 0 nl' n' t0 a1 a2 a3 a4 a6 a7 a8 (strs_snoc hlx _ _) a5 rfl
open PySem PySem.W PySem.Spec PySem.Calls PyProof.Rows PyProof.V PySem.SeqAt
/-- digits as signs, and a comma -/
noncomputable def wordStr (ds : List Nat) : Str := ⟨(ds.map (fun d => 64 + d) ++ [44]).toArray⟩
noncomputable def pageOf (wid head : Int) (ns : List Int) : List Str × List (Str × Str) × Int := (ns.map fun n => wordStr (dg n.toNat)).foldl (pageStep wid) ([], [], head)
theorem wordStr_nil : wordStr [] = Str.ofString "," := by decide +kernel
theorem wordStr_len (ds : List Nat) : (wordStr ds).length = ds.length + 1 := by simp [wordStr, Str.length]
theorem partLen_word (qs : List (Str × Str)) (ds : List Nat) : partLen (qs ++ [(blank, wordStr ds)]) = partLen qs + (2 + ds.length) := by
  rw [partLen_snoc, wordStr_len]
  have : blank.length = 1 := by decide +kernel
  rw [this]; (first | lia | omega)
theorem turned_tail {news tt : List (Addr × Obj)} {wr : List Addr} {h₀ h h' : Heap} {L : Addr} {l : List (Addr × Obj)} (N : News h₀ L h news) (k : KeepsBut wr h h') (x : Turned news wr h' l) (ht : ∀ p ∈ tt, p ∈ news) (hoff : ∀ p ∈ tt, p.1 ∉ wr) : News h₀ L h' (l ++ tt) := by
  intro p hp
  rcases List.mem_append.mp hp with q | q
  · exact news_turn N k x p q
  · exact ⟨k _ _ (hoff p q) (N p (ht p q)).1, (N p (ht p q)).2⟩
/-- tuples lie off what is no tuple -/
theorem off_tup {h₀ h : Heap} {L : Addr} {news tt : List (Addr × Obj)} {wr : List Addr} (N : News h₀ L h news) (x : HidIn (news.filter fun p => p.2.cls != .type "tuple") wr) (ht : ∀ p ∈ tt, p ∈ news) (hc : ∀ p ∈ tt, p.2.cls = .type "tuple") : ∀ p ∈ tt, p.1 ∉ wr := by
  intro p hp q
  obtain ⟨o, hm⟩ := x.mem _ q
  obtain ⟨h1, h2⟩ := List.mem_filter.mp hm
  have e1 := (N p (ht p hp)).1
  have e2 := (N _ h1).1
  rw [e1] at e2
  cases e2
  simp [hc p hp] at h2
open PySem PySem.W PySem.Spec PySem.Calls PyProof.Rows PyProof.V PySem.SeqAt
theorem pageStep_bounds {wid head ini : Int} {lsx : List Str} {qs : List (Str × Str)} {ds : List Nat} {i : Nat} (h0 : 0 ≤ ini) (h1 : ini ≤ head) (h2 : lsx.length ≤ i) (h3 : qs.length ≤ i) (h4 : 0 ≤ partLen qs) (h5 : partLen qs ≤ 10 * i) (h6 : ds.length ≤ 6) (hh : 0 ≤ head) :
    0 ≤ (pageStep wid (lsx, qs, ini) (wordStr ds)).2.2 ∧ (pageStep wid (lsx, qs, ini) (wordStr ds)).2.2 ≤ head ∧ (pageStep wid (lsx, qs, ini) (wordStr ds)).1.length ≤ i + 1 ∧ (pageStep wid (lsx, qs, ini) (wordStr ds)).2.1.length ≤ i + 1 ∧
    0 ≤ partLen (pageStep wid (lsx, qs, ini) (wordStr ds)).2.1 ∧ partLen (pageStep wid (lsx, qs, ini) (wordStr ds)).2.1 ≤ 10 * ((i + 1 : Nat) : Int) := by
  have e1 := partLen_word qs ds
  have e2 := partLen_word [] ds
  have e3 : partLen [] = 0 := by simp [partLen]
  rw [List.nil_append, e3] at e2
  unfold pageStep
  dsimp only
  split
  · dsimp only
    rw [e1]
    simp only [List.length_append, List.length_cons, List.length_nil]
    refine ⟨h0, h1, ?_, ?_, ?_, ?_⟩ <;> (first | lia | omega)
  · split
    · dsimp only
      rw [e2]
      refine ⟨Int.le_refl _, hh, ?_, ?_, ?_, ?_⟩
      · split <;> (try simp only [List.length_append, List.length_cons, List.length_nil]) <;> (first | lia | omega)
      · simp
      · (first | lia | omega)
      · (first | lia | omega)
    · dsimp only
      rw [e2]
      simp only [List.length_append, List.length_cons, List.length_nil]
      refine ⟨Int.le_refl _, hh, ?_, ?_, ?_, ?_⟩ <;> (first | lia | omega)
theorem sign_word {re : Int} (h : 0 ≤ re) (ds : List Nat) : (⟨#[(64 + re.fmod 64).toNat]⟩ : Str) ++ wordStr ds = wordStr ((re.toNat % 64) :: ds) := by
  have e : (64 + re.fmod 64).toNat = 64 + re.toNat % 64 := by
    obtain ⟨n, rfl⟩ := Int.eq_ofNat_of_zero_le h
    rw [show Int.fmod (n : Int) 64 = ((n % 64 : Nat) : Int) from by cases n <;> rfl]
    rfl
  rw [e]
  show (⟨#[64 + re.toNat % 64] ++ (ds.map (fun d => 64 + d) ++ [44]).toArray⟩ : Str) = _
  unfold wordStr
  simp
theorem tup_off_iter {h₀ h : Heap} {L I : Addr} {tt rest : List (Addr × Obj)} {io : Obj} {l : Addr} {i : Nat} (N : News h₀ L h ((I, io) :: rest)) (Nt : News h₀ L h tt) (hio : ItO io l i) (hc : ∀ q ∈ tt, q.2.cls = .type "tuple") : ∀ q ∈ tt, q.1 ≠ I := by
  intro q hq e
  have e1 := (Nt q hq).1
  have e2 := (N _ (.head _)).1
  dsimp only at e2
  rw [e, e2] at e1
  cases e1
  have := hc q hq
  rw [hio.1] at this
  exact absurd (Value.type.inj this) (by decide)
end

section
open PySem PySem.W PySem.Spec PySem.Calls PyProof.Rows PyProof.V PySem.SeqAt

/-- a page's rows when the row under way is closed -/
noncomputable def closeLs (st : List Str × List (Str × Str) × Int) : List Str :=
  if st.2.1 = [] then (if st.2.2 = 0 then st.1 else st.1 ++ [Str.ofString ""]) else st.1 ++ [partText st.2.1]
/-- what a row under way is like -/
noncomputable def Closing (qs : List (Str × Str)) : Prop := qs = [] ∨ ∃ qs0 wd, qs = qs0 ++ [(blank, wd)] ∧ wd ≠ Str.ofString "" ∧ PyData.strOk wd = true ∧ 0 < partLen qs ∧ Txt.isspace (partText qs) = false

theorem newline_call {w : World} {A : Around} {s : Shared} {p dp l c dc : Addr} {pt : PT} {mx ws wl sc : Value} {ls : List Value} {nl : Nat} {ps : List Value} {ep : Nat} {hs : Int} {tkd ti : Tok} {ini : Int} {tp1 tp2 : Array Value} {qs : List (Str × Str)} {lsx : List Str} {Q E : Value → Shared → Prop} (S : Site w 360 1600 [p, dp, l, c, dc, 161, 168] A s)
    (hb : AllBare s.gens) (hp : s.heap.get? p = some (instObj 115 dp)) (hdp : s.heap.get? dp = some (pageDict pt mx ws wl sc (.ref l) (.ref c))) (hl : s.heap.get? l = some (listOf ls.toArray nl)) (hc : s.heap.get? c = some (accObj dc ps.toArray ep)) (hdc : s.heap.get? dc = some (accDict hs tkd (.int ini ti))) (ht1 : s.heap.get? 161 = some (tabObj tp1)) (htp1 : tp1 = #[] ∨ ∃ c' : Addr, tp1 = #[rawInt 144, rawInt 19, .ref c']) (ht2 : s.heap.get? 168 = some (tabObj tp2)) (htp2 : tp2 = #[] ∨ ∃ c' : Addr, tp2 = #[rawInt 147, rawInt 32, .ref c']) (hlx : StrsAre ls lsx) (hpa : PartsAt s.heap ps qs) (hcl : Closing qs) (hi : 0 ≤ ini) (hi2 : ini < 2 ^ 30) (hls : ls.length < 1000) (hfit : partLen qs < 2 ^ 20) (hqs : qs.length < 1000)
    (hret : ∀ (h' : Heap) gs tk' ls' nl' n' t0, AllBare gs → KeepsBut [l, c, dc, 161, 168] s.heap h' → h'.get? l = some (listOf ls'.toArray nl') → h'.get? c = some (accObj dc #[] n') → h'.get? dc = some (accDict hs tkd (.int 0 t0)) → TabSt h' 161 144 19 → TabSt h' 168 147 32 →
      StrsAre ls' (closeLs (lsx, qs, ini)) → Q .none ⟨h', gs, s.drawn, tk', s.os⟩) :
    wpAny (model PySem.Challenge.rw_ty0042_01.row.prog w) A (call (.ref 77) [.ref p]) Q E s := by
  unfold closeLs at hret
  dsimp only at hret
  rcases hcl with rfl | ⟨qs0, wd, rfl, hw, hwo, hpos, hsp⟩
  · rw [if_pos rfl] at hret
    have hps : ps = [] := hpa.nil_inv
    subst hps
    refine newline_nil S hb hp hdp hl hc hdc ht1 htp1 ht2 htp2 ⟨hi, hi2⟩ hls fun h' gs tk' ls' nl' n' t0 a1 a2 a3 a4 a5 a6 a7 a8 => ?_
    refine hret h' gs tk' ls' nl' n' t0 a1 a2 a3 a5 a6 a7 a8 ?_
    rcases a4 with ⟨q, rfl⟩ | ⟨q, t1, rfl⟩
    · rw [if_pos q]; exact hlx
    · rw [if_neg (by (first | lia | omega))]; exact strs_snoc hlx _ _
  · rw [if_neg (by simp)] at hret
    refine newline_gen S hb hp hdp hl hc hdc ht1 htp1 ht2 htp2 hpa .snoc hi hi2 hls (fun z => hw z.2) okB hwo hfit hqs hsp fun h' gs tk' ls' nl' n' t0 a1 a2 a3 a4 a5 a6 a7 a8 => ?_
    rcases a4 with ⟨q, _⟩ | ⟨_, t1, rfl⟩
    · exact absurd hpos (by (first | lia | omega))
    · exact hret h' gs tk' _ nl' n' t0 a1 a2 a3 a5 a6 a7 a8 (strs_snoc hlx _ _)
end

section
open PySem PySem.W PySem.Spec PySem.Calls PyProof.Rows
local macro_rules | `(tactic| walk_at "call builtin:str.join") => `(tactic| (k_here; refine hold ?_))

theorem pstr_call {w : World} {A : Around} {s : Shared} {p dp l c dc : Addr} {pt : PT} {mx ws wl sc : Value} {ls : List Value} {nl : Nat} {ps : List Value} {ep : Nat} {hs : Int} {tkd ti : Tok} {ini : Int} {tp1 tp2 : Array Value} {qs : List (Str × Str)} {lsx : List Str} {sep : Str} {tse : Tok} {Q E : Value → Shared → Prop} (S : Site w 350 1500 [p, dp, l, c, dc, 161, 168] A s) (hb : AllBare s.gens) (hp : s.heap.get? p = some (instObj 115 dp)) (hdp : s.heap.get? dp = some (pageDict pt mx ws wl sc (.ref l) (.ref c))) (hl : s.heap.get? l = some (listOf ls.toArray nl)) (hc : s.heap.get? c = some (accObj dc ps.toArray ep)) (hdc : s.heap.get? dc = some (accDict hs tkd (.int ini ti))) (ht1 : s.heap.get? 161 = some (tabObj tp1)) (htp1 : tp1 = #[] ∨ ∃ c' : Addr, tp1 = #[rawInt 144, rawInt 19, .ref c']) (ht2 : s.heap.get? 168 = some (tabObj tp2)) (htp2 : tp2 = #[] ∨ ∃ c' : Addr, tp2 = #[rawInt 147, rawInt 32, .ref c']) (hlx : StrsAre ls lsx) (hpa : PartsAt s.heap ps qs) (hcl : Closing qs) (hi : 0 ≤ ini) (hi2 : ini < 2 ^ 30) (hls : ls.length < 900) (hfit : partLen qs < 2 ^ 20) (hqs : qs.length < 1000) (hsep : sep.length ≤ 16) (hw : ((closeLs (lsx, qs, ini)).map (·.length)).sum + (closeLs (lsx, qs, ini)).length ≤ 1048576)
  (hret : ∀ (h' : Heap) gs tk' t' ls' nl' n' t0, AllBare gs → KeepsBut [l, c, dc, 161, 168] s.heap h' → h'.get? l = some (listOf ls'.toArray nl') → h'.get? c = some (accObj dc #[] n') → h'.get? dc = some (accDict hs tkd (.int 0 t0)) → TabSt h' 161 144 19 → TabSt h' 168 147 32 → StrsAre ls' (closeLs (lsx, qs, ini)) → Q (.str (Txt.join sep (closeLs (lsx, qs, ini))) t') ⟨h', gs, s.drawn, tk', s.os⟩) :
    wpAny (model PySem.Challenge.rw_ty0042_01.row.prog w) A (call (.ref 63) [.ref p, .str sep tse]) Q E s := by
  w_top off
  refine wpAny_call ?_
  refine' enterN (binds := [(Str.ofString "self", .ref p), (Str.ofString "linesep", .str sep tse)]) _ S ?k6 ?k7 ?k8 ?k9 ?kB ?_ ?c5 ?c2 ?c3 ?c4
  case k6 => k_is
  case k7 => k_is
  case k8 => decide
  case k9 => exact BindsTo.of_eq rfl
  case kB => exact locs rfl
  case c2 => exact rfl
  case c3 => exact rfl
  case c4 => exact rfl
  case c5 => decide
  intro L cn cs a ccd cl' outer base g L' h₁ mg mb mean hke F N B KX T hg hgn hk1 hL
  try dsimp only
  try k_fold
  try (with_reducible refine wp_letA ?_; intro A9)
  have ne1 : (p : Addr) ≠ dp := ne_tag hp hdp (by with_unfolding_all rfl)
  have ne2 : (p : Addr) ≠ l := ne_tag hp hl (by with_unfolding_all rfl)
  have ne3 : (p : Addr) ≠ c := ne_tag hp hc (by with_unfolding_all rfl)
  have ne4 : (p : Addr) ≠ dc := ne_tag hp hdc (by with_unfolding_all rfl)
  have ne5 : (p : Addr) ≠ 161 := ne_tag hp ht1 (by with_unfolding_all rfl)
  have ne6 : (p : Addr) ≠ 168 := ne_tag hp ht2 (by with_unfolding_all rfl)
  have ne7 : (dp : Addr) ≠ l := ne_tag hdp hl (by with_unfolding_all rfl)
  have ne8 : (dp : Addr) ≠ c := ne_tag hdp hc (by with_unfolding_all rfl)
  have ne9 : (dp : Addr) ≠ dc := ne_tag hdp hdc (by with_unfolding_all rfl)
  have ne10 : (dp : Addr) ≠ 161 := ne_tag hdp ht1 (by with_unfolding_all rfl)
  have ne11 : (dp : Addr) ≠ 168 := ne_tag hdp ht2 (by with_unfolding_all rfl)
  have ne12 : (l : Addr) ≠ c := ne_tag hl hc (by with_unfolding_all rfl)
  have ne13 : (l : Addr) ≠ dc := ne_tag hl hdc (by with_unfolding_all rfl)
  have ne14 : (l : Addr) ≠ 161 := ne_tag hl ht1 (by with_unfolding_all rfl)
  have ne15 : (l : Addr) ≠ 168 := ne_tag hl ht2 (by with_unfolding_all rfl)
  have ne16 : (c : Addr) ≠ dc := ne_tag hc hdc (by with_unfolding_all rfl)
  have ne17 : (c : Addr) ≠ 161 := ne_tag hc ht1 (by with_unfolding_all rfl)
  have ne18 : (c : Addr) ≠ 168 := ne_tag hc ht2 (by with_unfolding_all rfl)
  have ne19 : (dc : Addr) ≠ 161 := ne_tag hdc ht1 (by with_unfolding_all rfl)
  have ne20 : (dc : Addr) ≠ 168 := ne_tag hdc ht2 (by with_unfolding_all rfl)
  have ne21 : (161 : Addr) ≠ 168 := by decide
  have al : AllAt s.heap [(p, instObj 115 dp), (dp, pageDict pt mx ws wl sc (.ref l) (.ref c)), (l, listOf ls.toArray nl), (c, accObj dc ps.toArray ep), (dc, accDict hs tkd (.int ini ti)), (161, tabObj tp1), (168, tabObj tp2)] := .cons hp (.cons hdp (.cons hl (.cons hc (.cons hdc (.cons ht1 (.cons ht2 .nil))))))
  have N1 := newsAll al hk1 hgn hL
  have hpg := parts_g hpa hg (al.cls rfl)
  clear N hpa
  try (with_reducible refine wp_letQ ?_; intro Qz1)
  k_steps
  unfold Hold
  (with_reducible rename Fr _ _ _ _ => F1)
  refine fr_let F1 ?_
  clear F1
  intro mz1x F1
  (with_reducible rename News _ _ _ _ => N1)
  refine' newline_call (ls := ls) (qs := qs) (lsx := lsx) (site_of rfl ?k1 ?k2 ?k3 ?k4 rfl ?k5 ?k6 rfl ?k7 ?k8) hb ?kc ?kd ?ke ?kf ?kg ?ki htp1 ?kk htp2 hlx (hpg.keep fun T o e _ => F1.keep T o e) hcl hi hi2 (by (first | lia | omega)) hfit hqs ?_
  case k1 => k_asm
  case k2 => k_asm
  case k3 => k_asm
  case k4 => k_asm
  case k5 => exact Nat.le_of_ble_eq_true rfl
  case k6 => exact Nat.le_of_ble_eq_true rfl
  case kc => exact News.get N1 (by k_mem)
  case kd => exact News.get N1 (by k_mem)
  case ke => exact News.get N1 (by k_mem)
  case kf => exact News.get N1 (by k_mem)
  case kg => exact News.get N1 (by k_mem)
  case ki => exact News.get N1 (by k_mem)
  case kk => exact News.get N1 (by k_mem)
  case k7 => exact not_hid N1 (by repeat (first | exact HidIn.nil | refine HidIn.cons (by k_mem) ?_))
  case k8 => exact none_hid N1 (by repeat (first | exact HidIn.nil | refine HidIn.cons (by k_mem) ?_))
  intro h' gs' tk' ls' nl' n' t0 hb' kb' w1 w2 w3 ⟨tq1, w4, w4'⟩ ⟨tq2, w5, w5'⟩ w6
  have F2 := fr_but F1 kb' (none_hid N1 (by repeat (first | exact HidIn.nil | refine HidIn.cons (by k_mem) ?_))) (not_hid N1 (by repeat (first | exact HidIn.nil | refine HidIn.cons (by k_mem) ?_)))
  have N2 : News g L' h' [(p, instObj 115 dp), (dp, pageDict pt mx ws wl sc (.ref l) (.ref c)), (l, listOf ls'.toArray nl'), (c, accObj dc #[] n'), (dc, accDict hs tkd (.int 0 t0)), (161, tabObj tq1), (168, tabObj tq2)] := news_turn N1 kb' (by repeat (first | exact Turned.nil | refine Turned.new (by assumption) (by k_mem) ?_ | refine Turned.old (by k_mem) (by repeat (first | exact OffL.nil | refine OffL.cons (by k_ne) ?_)) ?_))
  clear N1 F1 kb' w1 w2 w3 w4 w5
  dsimp only
  try (with_reducible refine wp_letQ ?_; intro Qz2)
  k_steps
  unfold Hold
  (with_reducible rename Fr _ _ _ _ => F3)
  refine fr_let F3 ?_
  clear F3
  intro mz2x F3
  (with_reducible rename News _ _ _ _ => N3)
  refine PyProof.Rows.join_listW (ys := closeLs (lsx, qs, ini)) ⟨_, (N3 (l, _) (by k_mem)).1, rfl, _, rfl⟩ w6 hsep hw ?_
  intro t' k
  try (with_reducible refine wp_letQ ?_; intro Qz3)
  k_steps
  (with_reducible rename Fr _ _ _ _ => F4)
  refine fr_let F4 ?_
  clear F4
  intro mz3x F4
  (with_reducible rename News _ _ _ _ => N4)
  exact hret _ _ _ _ _ _ _ _ (by assumption) (keepbut_wr hg F4 N4 (by repeat (first | exact KeptIn.nil | refine KeptIn.skip (by first | exact .head _ | exact .tail _ (.head _) | exact .tail _ (.tail _ (.head _)) | exact .tail _ (.tail _ (.tail _ (.head _))) | exact .tail _ (.tail _ (.tail _ (.tail _ (.head _))))) ?_ | refine KeptIn.keep (by k_mem) (by assumption) ?_))) (N4 (l, _) (by k_mem)).1 (N4 (c, _) (by k_mem)).1 (N4 (dc, _) (by k_mem)).1 ⟨_, (N4 (161, _) (by k_mem)).1, w4'⟩ ⟨_, (N4 (168, _) (by k_mem)).1, w5'⟩ w6
end

section
open PySem PySem.W PySem.Spec PySem.Calls PyProof.Rows
inductive JP (wid head : Int) (ns : List Int) (g : Heap) (p dp l c dc : Addr) (pt : PT) (tw tsc : Tok) (ws wl : Value) (hs : Int) (tkd : Tok) (i : Nat) (vals : List (Option Value)) (news : List (Addr × Obj)) : Prop
  | mk : ∀ o1 o2 ls lsx nl ps qs ep ini ti tp1 tp2 tt, (vals = [o1, o2]) → (news = (p, instObj 115 dp) :: (dp, pageDict pt (.int wid tw) ws wl (.str (Str.ofString " ") tsc) (.ref l) (.ref c)) :: (l, listOf ls.toArray nl) :: (c, accObj dc ps.toArray ep) :: (dc, accDict hs tkd (.int ini ti)) :: (161, tabObj tp1) :: (168, tabObj tp2) :: tt) → (StrsAre ls lsx) → (PartsIn g tt ps qs) → ((∀ q ∈ tt, q.2.cls = .type "tuple")) → ((tp1 = #[] ∨ ∃ c' : Addr, tp1 = #[rawInt 144, rawInt 19, .ref c'])) → ((tp2 = #[] ∨ ∃ c' : Addr, tp2 = #[rawInt 147, rawInt 32, .ref c'])) → (0 ≤ ini) → (ini ≤ head) → (lsx.length ≤ i) → (qs.length ≤ i) → (0 ≤ partLen qs) → (partLen qs ≤ 10 * i) → (((ns.drop i).map fun n => wordStr (dg n.toNat)).foldl (pageStep wid) (lsx, qs, ini) = pageOf wid head ns) → JP wid head ns g p dp l c dc pt tw tsc ws wl hs tkd i vals news

theorem page_call {w : World} {A : Around} {s : Shared} {R0 : Addr} {vs : List Value} {ns : List Int} {wid head : Int} {tw th : Tok} {tp1 tp2 : Array Value} {Q E : Value → Shared → Prop} (S : Site w 340 1400 [161, 168] A s) (hb : AllBare s.gens) (hl0 : s.heap.IsList R0 vs.toArray) (hi : IntsAre vs ns) (hns : ns.length ≤ 100) (hnn : ∀ n ∈ ns, 0 ≤ n ∧ n < 64 ^ 6) (hh0 : 0 ≤ head) (hh1 : head < 1000) (ht1 : s.heap.get? 161 = some (tabObj tp1)) (htp1 : tp1 = #[] ∨ ∃ c' : Addr, tp1 = #[rawInt 144, rawInt 19, .ref c']) (ht2 : s.heap.get? 168 = some (tabObj tp2)) (htp2 : tp2 = #[] ∨ ∃ c' : Addr, tp2 = #[rawInt 147, rawInt 32, .ref c'])
  (hret : ∀ p dp l c dc pt tw' tsc ws wl ls ps nl n' hs tkd ti ini h' gs tk', AllBare gs → KeepsBut [161, 168] s.heap h' → s.heap.get? p = none → s.heap.get? dp = none → s.heap.get? l = none → s.heap.get? c = none → s.heap.get? dc = none → h'.get? p = some (instObj 115 dp) → h'.get? dp = some (pageDict pt (.int wid tw') ws wl (.str (Str.ofString " ") tsc) (.ref l) (.ref c)) → h'.get? l = some (listOf ls.toArray nl) → h'.get? c = some (accObj dc ps.toArray n') → h'.get? dc = some (accDict hs tkd (.int ini ti)) → StrsAre ls (pageOf wid head ns).1 → PartsAt h' ps (pageOf wid head ns).2.1 → ini = (pageOf wid head ns).2.2 → TabSt h' 161 144 19 → TabSt h' 168 147 32 → Q (.ref p) ⟨h', gs, s.drawn, tk', s.os⟩) :
    wpAny (model PySem.Challenge.rw_ty0042_01.row.prog w) A (call (.ref 210) [.ref R0, .int wid tw, .int head th]) Q E s := by
  w_top off
  refine wpAny_call ?_
  refine' enterN (binds := [(Str.ofString "row", .ref R0), (Str.ofString "width", .int wid tw), (Str.ofString "head", .int head th)]) _ S ?k6 ?k7 ?k8 ?k9 ?kB ?_ ?c5 ?c2 ?c3 ?c4
  case k6 => k_is
  case k7 => k_is
  case k8 => decide
  case k9 => exact BindsTo.of_eq rfl
  case kB => exact locs rfl
  case c2 => exact rfl
  case c3 => exact rfl
  case c4 => exact rfl
  case c5 => decide
  intro L cn cs a ccd cl' outer base g L' h₁ mg mb mean hke F N B KX T hg hgn hk1 hL
  try dsimp only
  try k_fold
  try (with_reducible refine wp_letA ?_; intro A9)

  have al : AllAt s.heap [(161, tabObj tp1), (168, tabObj tp2)] := .cons ht1 (.cons ht2 .nil)
  have N1 := newsAll al hk1 hgn hL
  have hlg : g.IsList R0 vs.toArray := by
    refine gen_goal fun G9 hG9 => ?_
    obtain ⟨o, ho, r⟩ := hl0
    refine hG9 ?_
    clear hG9 G9
    refine ⟨o, hg _ _ ho ?_, r⟩
    simp only [List.mem_cons, List.not_mem_nil, or_false]
    rintro (rfl | rfl)
    · rw [ht1] at ho; cases ho; exact absurd r.1 (by simp)
    · rw [ht2] at ho; cases ho; exact absurd r.1 (by simp)
  clear N
  try (with_reducible refine wp_letQ ?_; intro Qz1)
  k_steps
  unfold Hold
  (with_reducible rename Fr _ _ _ _ => F1)
  refine fr_let F1 ?_
  clear F1
  intro mz1x F1
  (with_reducible rename News _ _ _ _ => N1)
  refine wpAny_call ?_
  refine' make_K F1 N1 (KX.keeps F1.keep) ?km ?ki ?kf ?_
  case km => k_is
  case ki => k_is
  case kf => k_is
  intro p dp h2 F2 N2 l1 l2
  have hpd : p ≠ dp := Nat.ne_of_gt l2
  clear F1 N1
  refine' vinit (site_of rfl ?k1 ?k2 ?k3 ?k4 rfl ?k5 ?k6 rfl ?k7 ?k8) (N2 (p, _) (.head _)).1 (N2 (dp, _) (.tail _ (.head _))).1 hh0 ?_
  case k1 => k_asm
  case k2 => k_asm
  case k3 => k_asm
  case k4 => k_asm
  case k5 => exact Nat.le_of_ble_eq_true rfl
  case k6 => exact Nat.le_of_ble_eq_true rfl
  case k7 => exact not_hid N2 (.cons (.head _) (.cons (.tail _ (.head _)) .nil))
  case k8 => exact none_hid N2 (.cons (.head _) (.cons (.tail _ (.head _)) .nil))
  intro pt l c dc ws wl hs tkd ti nl n' h3 tk3 v1 v2 v3 v4 v5 v6 v7 kb3
  k_lt l1
  k_lt2 l2
  have F3 := fr_but F2 kb3 (none_hid N2 (.cons (.tail _ (.head _)) .nil)) (not_hid N2 (.cons (.tail _ (.head _)) .nil))
  have N3 := news_freshI (news_freshI (news_freshI (news_upd1 N2 (by k_updF) kb3 v1) F2 v3 v2) F2 v5 v4) F2 v7 v6
  obtain ⟨tsc, N4⟩ : ∃ tsc : Tok, News g L' h3 [(p, instObj 115 dp), (dp, pageDict pt (.int wid tw) ws wl (.str (Str.ofString " ") tsc) (.ref l) (.ref c)), (l, listOf #[] nl), (c, accObj dc #[] n'), (dc, accDict hs tkd (.int head ti)), (161, tabObj tp1), (168, tabObj tp2)] := ⟨_, news_turn N3 (wr := []) (fun b o _ e => e) (by repeat (first | exact Turned.nil | refine Turned.new (by assumption) (by k_mem) ?_ | refine Turned.old (by k_mem) (by repeat (first | exact OffL.nil | refine OffL.cons (by k_ne) ?_)) ?_))⟩
  clear N3 F2 N2 kb3
  have hp := (N4 _ (.head _)).1
  have hdp := (N4 _ (.tail _ (.head _))).1
  have hl := (N4 _ (.tail _ (.tail _ (.head _)))).1
  have hc := (N4 _ (.tail _ (.tail _ (.tail _ (.head _))))).1
  have hdc := (N4 _ (.tail _ (.tail _ (.tail _ (.tail _ (.head _)))))).1
  have hx1 := (N4 _ (.tail _ (.tail _ (.tail _ (.tail _ (.tail _ (.head _))))))).1
  have hx2 := (N4 _ (.tail _ (.tail _ (.tail _ (.tail _ (.tail _ (.tail _ (.head _)))))))).1
  dsimp only at hp hdp hl hc hdc hx1 hx2
  have ne1 : (p : Addr) ≠ dp := ne_tag hp hdp (by with_unfolding_all rfl)
  have ne2 : (p : Addr) ≠ l := ne_tag hp hl (by with_unfolding_all rfl)
  have ne3 : (p : Addr) ≠ c := ne_tag hp hc (by with_unfolding_all rfl)
  have ne4 : (p : Addr) ≠ dc := ne_tag hp hdc (by with_unfolding_all rfl)
  have ne5 : (p : Addr) ≠ 161 := ne_tag hp hx1 (by with_unfolding_all rfl)
  have ne6 : (p : Addr) ≠ 168 := ne_tag hp hx2 (by with_unfolding_all rfl)
  have ne7 : (dp : Addr) ≠ l := ne_tag hdp hl (by with_unfolding_all rfl)
  have ne8 : (dp : Addr) ≠ c := ne_tag hdp hc (by with_unfolding_all rfl)
  have ne9 : (dp : Addr) ≠ dc := ne_tag hdp hdc (by with_unfolding_all rfl)
  have ne10 : (dp : Addr) ≠ 161 := ne_tag hdp hx1 (by with_unfolding_all rfl)
  have ne11 : (dp : Addr) ≠ 168 := ne_tag hdp hx2 (by with_unfolding_all rfl)
  have ne12 : (l : Addr) ≠ c := ne_tag hl hc (by with_unfolding_all rfl)
  have ne13 : (l : Addr) ≠ dc := ne_tag hl hdc (by with_unfolding_all rfl)
  have ne14 : (l : Addr) ≠ 161 := ne_tag hl hx1 (by with_unfolding_all rfl)
  have ne15 : (l : Addr) ≠ 168 := ne_tag hl hx2 (by with_unfolding_all rfl)
  have ne16 : (c : Addr) ≠ dc := ne_tag hc hdc (by with_unfolding_all rfl)
  have ne17 : (c : Addr) ≠ 161 := ne_tag hc hx1 (by with_unfolding_all rfl)
  have ne18 : (c : Addr) ≠ 168 := ne_tag hc hx2 (by with_unfolding_all rfl)
  have ne19 : (dc : Addr) ≠ 161 := ne_tag hdc hx1 (by with_unfolding_all rfl)
  have ne20 : (dc : Addr) ≠ 168 := ne_tag hdc hx2 (by with_unfolding_all rfl)
  have ne21 : (161 : Addr) ≠ 168 := by decide
  clear hp hdp hl hc hdc hx1 hx2 v1 v2 v3 v4 v5 v6 v7 l1 l2
  refine ⟨rfl, ?_⟩
  dsimp only
  try (with_reducible refine wp_letQ ?_; intro Qz2)
  k_steps
  unfold Hold
  (with_reducible rename Fr _ _ _ _ => F5)
  refine fr_let F5 ?_
  clear F5
  intro mz2x F5
  (with_reducible rename News _ _ _ _ => N5)
  refine for_v (l := R0) (items := vs.toArray) [Str.ofString "number", Str.ofString "word"] (JP wid head ns g p dp l c dc pt tw tsc ws wl hs tkd) (ev_name F5 rfl) F5 N5 hb ?_ ?_ ?_ ?_
  · refine ⟨_, _, [], [], _, [], [], _, head, _, _, _, [], rfl, rfl, .nil, .nil, (fun q hq => nomatch hq), htp1, htp2, hh0, Int.le_refl _, Nat.le_refl _, Nat.le_refl _, ?_, ?_, rfl⟩
    · simp [partLen]
    · simp [partLen]
  · intro i vals news₁ h _ _ hk
    exact hlg.at fun o e => hk _ o e
  · intro i v vals news₁ h gs tk I io hv hz20x hgs hio hI1 hI2 F6 N6
    refine gen_goal fun G9 hG9 => ?_
    obtain ⟨o1, o2, ls, lsx, nl, ps, qs, ep, ini, ti, tp1, tp2, tt, rfl, rfl, hlx, hpi, htc, htp1, htp2, hi0, hih, hl1, hq1, hpl, hpl2, hfold⟩ := hz20x
    refine hG9 ?_
    clear hG9 G9
    have hI3 := hI1
    simp only [List.forall_mem_cons] at hI3
    (try dsimp only at hI3)
    repeat (rcases hI3 with ⟨hfx, hI3⟩)
    refine gen_goal fun G9 hG9 => ?_
    obtain ⟨x, tx, rfl, hdr, hxm⟩ := ints_at hi hv
    refine hG9 ?_
    clear hG9 G9
    have hx0 := (hnn x hxm).1
    have hil : i < ns.length := by
      have := congrArg List.length hdr
      simp at this; (first | lia | omega)
    rw [hdr, List.map_cons, List.foldl_cons] at hfold
    refine fr_let F6 ?_
    clear F6
    intro mz3x F6
    clear F5 N5
    try (with_reducible refine wp_letQ ?_; intro Qz3)
    k_steps
    unfold Hold
    (with_reducible rename Fr _ _ _ _ => F7)
    refine fr_let F7 ?_
    clear F7
    intro mz4x F7
    (with_reducible rename News _ _ _ _ => N7)
    refine while_v [Str.ofString "number", Str.ofString "word"] (fun k vals news => ∃ re tre ds twd, vals = [some (.int re tre), some (.str (wordStr ds) twd)] ∧ news = (I, io) :: (p, instObj 115 dp) :: (dp, pageDict pt (.int wid tw) ws wl (.str (Str.ofString " ") tsc) (.ref l) (.ref c)) :: (l, listOf ls.toArray nl) :: (c, accObj dc ps.toArray ep) :: (dc, accDict hs tkd (.int ini ti)) :: (161, tabObj tp1) :: (168, tabObj tp2) :: tt ∧ 0 ≤ re ∧ dg re.toNat ++ ds = dg x.toNat ∧ k = re.toNat) x.toNat ⟨x, _, [], _, (by rw [wordStr_nil]; rfl), rfl, hx0, by simp, rfl⟩ F7 N7 hgs ?_
    intro k vals news₁ h gs tk hz21x hgs F8 N8
    refine gen_goal fun G9 hG9 => ?_
    obtain ⟨re, tre, ds, twd, rfl, rfl, hre, hds, rfl⟩ := hz21x
    refine hG9 ?_
    clear hG9 G9
    refine fr_let F8 ?_
    clear F8
    intro mz5x F8
    clear F7 N7
    try (with_reducible refine wp_letQ ?_; intro Qz4)
    k_steps
    · refine PyProof.Rows.add_str (fun t' tk' => ?_) ?hsz
      case hsz =>
        have e1 := congrArg List.length hds
        rw [List.length_append] at e1
        have e2 := dg_len_lt 6 x.toNat (by have := (hnn x hxm).2; (first | lia | omega))
        have e3 := wordStr_len ds
        have e4 : (⟨#[(64 + re.fmod 64).toNat]⟩ : Str).length = 1 := rfl
        rw [e3, e4, sizeLine_eq]; (first | lia | omega)
      have hpos : 0 < re := by (first | lia | omega)
      have ew : (⟨#[(64 + re.fmod 64).toNat]⟩ : Str) ++ wordStr ds = wordStr ((re.toNat % 64) :: ds) := sign_word hre ds
      rw [ew]
      try (with_reducible refine wp_letQ ?_; intro Qz5)
      k_steps
      show Hold _
      (with_reducible rename Fr _ _ _ _ => F10)
      refine fr_let F10 ?_
      clear F10
      intro mz6x F10
      (with_reducible rename News _ _ _ _ => N10)
      refine ⟨_, _, _, _, [some (.int (Int.fdiv re 64) _), some (.str (wordStr (re.toNat % 64 :: ds)) _)], _, (Int.fdiv re 64).toNat, rfl, hgs, F10, by (refine same_fun [Str.ofString "number", Str.ofString "word"] (by with_unfolding_all exact ⟨rfl, rfl, trivial⟩) ?_; rintro y ⟨q_number, q_word, -⟩; dsimp only [kstO, List.zip_cons_cons, List.zip_nil_right, List.zip_nil_left]; (repeat (refine (if_neg (by with_reducible assumption)).trans ?_)); refine Eq.symm ?_; (repeat (refine (if_neg (by with_reducible assumption)).trans ?_)); rfl), N10, ?_, Int.fdiv re 64, _, _, _, rfl, rfl, ?_, ?_, rfl⟩
      · rw [fdiv64 hre]; (first | lia | omega)
      · rw [fdiv64 hre]; (first | lia | omega)
      · have e2 : (Int.fdiv re 64).toNat = re.toNat / 64 := by rw [fdiv64 hre]; (first | lia | omega)
        rw [e2, ← hds, dg_pos (n := re.toNat) (by (first | lia | omega))]
        simp
    · have hz : re = 0 := by (first | lia | omega)
      subst hz
      have hds0 : ds = dg x.toNat := by rw [← hds]; simp [dg_zero]
      rw [hds0]
      unfold Hold
      (with_reducible rename Fr _ _ _ _ => F9)
      refine fr_let F9 ?_
      clear F9
      intro mz7x F9
      (with_reducible rename News _ _ _ _ => N9)
      have Ntt : News g L' _ tt := news_sub N9 (fun q hq => .tail _ (.tail _ (.tail _ (.tail _ (.tail _ (.tail _ (.tail _ (.tail _ hq))))))))
      have hdl : (dg x.toNat).length ≤ 6 := dg_len_lt 6 x.toNat (by have := (hnn x hxm).2; (first | lia | omega))
      have hpw := partLen_word qs (dg x.toNat)
      have hlsv : ls.length < 1000 := by rw [hlx.len_eq]; (first | lia | omega)
      refine' chunk_call (qs := qs) (lsx := lsx) (ps := ps) (ls := ls) (pt := pt) (site_of rfl ?k1 ?k2 ?k3 ?k4 rfl ?k5 ?k6 rfl ?k7 ?k8) hgs ?kc ?kd ?ke ?kf ?kg ?ki htp1 ?kk htp2 hlx (hpi.at F9 Ntt) hi0 (by (first | lia | omega)) hlsv (by (first | lia | omega)) (by (first | lia | omega)) (by (first | lia | omega)) ?_
      case k1 => k_asm
      case k2 => k_asm
      case k3 => k_asm
      case k4 => k_asm
      case k5 => exact Nat.le_of_ble_eq_true rfl
      case k6 => exact Nat.le_of_ble_eq_true rfl
      case kc => exact News.get N9 (by k_mem)
      case kd => exact News.get N9 (by k_mem)
      case ke => exact News.get N9 (by k_mem)
      case kf => exact News.get N9 (by k_mem)
      case kg => exact News.get N9 (by k_mem)
      case ki => exact News.get N9 (by k_mem)
      case kk => exact News.get N9 (by k_mem)
      case k7 => exact not_hid N9 (by repeat (first | exact HidIn.nil | refine HidIn.cons (by k_mem) ?_))
      case k8 => exact none_hid N9 (by repeat (first | exact HidIn.nil | refine HidIn.cons (by k_mem) ?_))
      intro h' gs' tk' ls' ps' ini' nl' n' t0 hb' kb' w1 w2 w3 ⟨tq1, w4, w4'⟩ ⟨tq2, w5, w5'⟩ w6 w7 w8
      have F10 := fr_but F9 kb' (none_hid N9 (by repeat (first | exact HidIn.nil | refine HidIn.cons (by k_mem) ?_))) (not_hid N9 (by repeat (first | exact HidIn.nil | refine HidIn.cons (by k_mem) ?_)))
      refine gen_goal fun G9 hG9 => ?_
      obtain ⟨tt', Ntt', hpi', htc'⟩ := parts_in F10 w7
      refine hG9 ?_
      clear hG9 G9
      have N10 : News g L' h' [(I, io), (p, instObj 115 dp), (dp, pageDict pt (.int wid tw) ws wl (.str (Str.ofString " ") tsc) (.ref l) (.ref c)), (l, listOf ls'.toArray nl'), (c, accObj dc ps'.toArray n'), (dc, accDict hs tkd (.int ini' t0)), (161, tabObj tq1), (168, tabObj tq2)] := news_turn N9 kb' (by repeat (first | exact Turned.nil | refine Turned.new (by assumption) (by k_mem) ?_ | refine Turned.old (by k_mem) (by repeat (first | exact OffL.nil | refine OffL.cons (by k_ne) ?_)) ?_))
      have hoffI := tup_off_iter N10 Ntt' hio htc'
      have N11 : News g L' h' ((I, io) :: (p, instObj 115 dp) :: (dp, pageDict pt (.int wid tw) ws wl (.str (Str.ofString " ") tsc) (.ref l) (.ref c)) :: (l, listOf ls'.toArray nl') :: (c, accObj dc ps'.toArray n') :: (dc, accDict hs tkd (.int ini' t0)) :: (161, tabObj tq1) :: (168, tabObj tq2) :: tt') := N10.append Ntt'
      clear N9 F9 kb' Ntt N10
      dsimp only
      try (with_reducible refine wp_letQ ?_; intro Qz6)
      k_steps
      show Hold _
      (with_reducible rename Fr _ _ _ _ => F12)
      refine fr_let F12 ?_
      clear F12
      intro mz8x F12
      (with_reducible rename News _ _ _ _ => N12)
      refine gen_goal fun G9 hG9 => ?_
      obtain ⟨b1, b2, b3, b4, b5, b6⟩ := pageStep_bounds (wid := wid) (head := head) hi0 hih hl1 hq1 hpl hpl2 hdl hh0
      refine hG9 ?_
      clear hG9 G9
      subst w8
      refine ⟨_, _, _, _, [_, _], _, rfl, by assumption, F12, by (refine same_fun [Str.ofString "number", Str.ofString "word"] (by with_unfolding_all exact ⟨rfl, rfl, trivial⟩) ?_; rintro y ⟨q_number, q_word, -⟩; dsimp only [kstO, List.zip_cons_cons, List.zip_nil_right, List.zip_nil_left]; (repeat (refine (if_neg (by with_reducible assumption)).trans ?_)); refine Eq.symm ?_; (repeat (refine (if_neg (by with_reducible assumption)).trans ?_)); rfl), N12, ?_, _, _, ls', _, nl', ps', _, n', _, t0, tq1, tq2, tt', rfl, rfl, w6, hpi', htc', w4', w5', b1, b2, b3, b4, b5, b6, hfold⟩
      intro q hq
      rcases List.mem_cons.mp hq with rfl | hq
      · assumption
      rcases List.mem_cons.mp hq with rfl | hq
      · assumption
      rcases List.mem_cons.mp hq with rfl | hq
      · assumption
      rcases List.mem_cons.mp hq with rfl | hq
      · assumption
      rcases List.mem_cons.mp hq with rfl | hq
      · assumption
      rcases List.mem_cons.mp hq with rfl | hq
      · assumption
      rcases List.mem_cons.mp hq with rfl | hq
      · assumption
      exact hoffI q hq
  · intro h gs tk vals news₁ hz22x hgs F6 N6
    refine gen_goal fun G9 hG9 => ?_
    obtain ⟨o1, o2, ls, lsx, nl, ps, qs, ep, ini, ti, tp1, tp2, tt, rfl, rfl, hlx, hpi, htc, htp1, htp2, hi0, hih, hl1, hq1, hpl, hpl2, hfold⟩ := hz22x
    refine hG9 ?_
    clear hG9 G9
    refine fr_let F6 ?_
    clear F6
    intro mz9x F6
    clear F5 N5
    try (with_reducible refine wp_letQ ?_; intro Qz7)
    k_steps
    (with_reducible rename Fr _ _ _ _ => F7)
    refine fr_let F7 ?_
    clear F7
    intro mz10x F7
    (with_reducible rename News _ _ _ _ => N7)
    have hz : ns.drop vs.toArray.size = [] := List.drop_eq_nil_of_le (by simp [hi.length])
    rw [hz] at hfold
    have hfin : (lsx, qs, ini) = pageOf wid head ns := hfold
    have Ntt : News g L' _ tt := news_sub N7 (fun q hq => .tail _ (.tail _ (.tail _ (.tail _ (.tail _ (.tail _ (.tail _ hq)))))))
    exact hret p dp l c dc pt tw tsc ws wl ls ps nl ep hs tkd ti ini _ _ _ (by assumption) (keepbut_wr hg F7 N7 (by repeat (first | exact KeptIn.nil | refine KeptIn.skip (by first | exact .head _ | exact .tail _ (.head _) | exact .tail _ (.tail _ (.head _)) | exact .tail _ (.tail _ (.tail _ (.head _))) | exact .tail _ (.tail _ (.tail _ (.tail _ (.head _))))) ?_ | refine KeptIn.keep (by k_mem) (by assumption) ?_))) (new_two hg (N7 (p, _) (by k_mem)).2.2 (by k_ne) (by k_ne)) (new_two hg (N7 (dp, _) (by k_mem)).2.2 (by k_ne) (by k_ne)) (new_two hg (N7 (l, _) (by k_mem)).2.2 (by k_ne) (by k_ne)) (new_two hg (N7 (c, _) (by k_mem)).2.2 (by k_ne) (by k_ne)) (new_two hg (N7 (dc, _) (by k_mem)).2.2 (by k_ne) (by k_ne))
      (N7 (p, _) (by k_mem)).1 (N7 (dp, _) (by k_mem)).1 (N7 (l, _) (by k_mem)).1 (N7 (c, _) (by k_mem)).1 (N7 (dc, _) (by k_mem)).1 (by rw [← hfin]; exact hlx) (by rw [← hfin]; exact hpi.at F7 Ntt) (by rw [← hfin]) ⟨_, (N7 (161, _) (by k_mem)).1, htp1⟩ ⟨_, (N7 (168, _) (by k_mem)).1, htp2⟩
end

section
open PySem PySem.W PySem.Spec PySem.Calls PyProof.Rows PyProof.V PySem.SeqAt
section
variable {prog : Program} {w : World} {A : Around} {E : Value → Shared → Prop} {s : Shared} {h₀ : Heap} {L l it : Addr} {m : Str → Option Value} {news : List (Addr × Obj)} {g : Obj → List (Addr × Obj)} {io : Obj} {v : Value} {vs : Array Value} {i : Nat}
/-- next() on a list iterator that is at its end -/
theorem next_end {Q : Value → Shared → Prop} (F : Fr h₀ L s.heap m) (N : News h₀ L s.heap news) (U : UpdF it io news g) (hi : ItO io l i) (hl : s.heap.IsList l vs) (hx : vs[i]? = none) (hh : A.handled = none)
    (h : ∀ h₁ h' e o', Fr h₀ L h₁ m → News h₀ L h₁ (g o') → Heap.MadeExcOf h₁ h' e (.type "StopIteration") [] → E (.ref e) { s with heap := h' }) :
    wpAny (model prog w) A (call (.builtin "next") [.ref it]) Q E s := by
  obtain ⟨pre, post, hl', hg, a, b⟩ := U.split
  have hmem : (it, io) ∈ news := by rw [hl']; exact List.mem_append_right _ (.head _)
  have hm := N (it, io) hmem
  have hit := hi.at hm.1
  refine call_function_entry (by decide +kernel) (by decide +kernel) kdk_entry_next (kdk_args_next _) ?_
  unfold Builtin.«next»
  refine wpAny_bind (m := someArgs "next" 1 2 _) (wpAny_of_eq (a := [Value.ref it]) (by first | rfl | kernel_rfl!) ?_)
  dsimp only
  refine wpAny_bind (wpAny_specialOf (name := Str.ofString "__next__") hit.typeIs slot_listiter_next.lookup ?_)
  refine wpAny_ite_split (fun hab => absurd hab (by decide)) (fun _ => ?_)
  refine wpAny_bind ?_
  obtain ⟨o, ho, hc, hd⟩ := id hit
  obtain ⟨ol, hol, _, nl, hdl⟩ := hl
  refine wpAny_callSpecial?_slot (name := Str.ofString "__next__") hit.typeIs slot_listiter_next
    (wpAny_call_entry slot_listiter_next hit.typeIs entry_listiter_next ?_ (args_listiter_next _))
  show wpAny _ _ (field (.ref it) 0 >>= _) _ _ s
  refine wpAny_bind (wpAny_field ho hd (x := .ref l) rfl ?_)
  show wpAny _ _ (if (Value.ref l == Value.none) = true then _ else _) _ _ s
  rw [if_neg (show ¬ ((Value.ref l == Value.none) = true) from Bool.false_ne_true)]
  show wpAny _ _ (field (.ref it) 1 >>= _) _ _ s
  refine wpAny_bind (wpAny_field ho hd (x := .int i 0) rfl ?_)
  refine wpAny_bind (wpAny_seqItems hol hdl ?_)
  simp only [Int.toNat_natCast, hx]
  refine wpAny_bind (wpAny_rule (wpAny_bind (wpAny_setField ho hd (by simp) ?_)))
  have hs : Heap.SameBut it s.heap (s.heap.update it (Obj.mapFields (·.setIfInBounds 0 .none))) := Heap.SameBut.update ..
  have ho' : (s.heap.update it (Obj.mapFields (·.setIfInBounds 0 .none))).get? it = some (Obj.mapFields (·.setIfInBounds 0 .none) o) := Heap.get?_update_self _ ho (Obj.isFreed_of_fields (Obj.data_mapFields hd _))
  have F1 := F.change hs hm.2.1 hm.2.2
  have N1 : News h₀ L (s.heap.update it (Obj.mapFields (·.setIfInBounds 0 .none))) (g (Obj.mapFields (·.setIfInBounds 0 .none) o)) := by
    rw [hg]
    exact (show News h₀ L s.heap (pre ++ (it, io) :: post) from hl' ▸ N).setIn a b hs ho'
  refine wpAny_bind ?_
  simp only [newExc, newTuple]
  refine wpAny_bind (wpAny_newObj_type ?_ (by size_fits))
  refine wpAny_bind (m := firstArgMember _ _) (wpAny_of_eq (a := Value.none) (by first | rfl | (simp only [firstArgMember]; rfl)) ?_)
  refine wpAny_newObj_type ?_ (by size_fits)
  dsimp only
  refine wpAny_bind (wpAny_handled ?_)
  rw [show A.in1.in1.handled = none from hh]
  refine wpAny_bind (wpAny_pure (wpAny_throw ?_))
  refine h _ _ _ _ F1 N1 ⟨fun b o e => Heap.get?_push_of_some _ (Heap.get?_push_of_some _ e), ?_, _, Heap.get?_push_size _ rfl, ?_, ?_⟩
  · exact Heap.get?_none_of_le (by rw [Heap.size_push]; exact Nat.le_succ _)
  · exact Heap.get?_none_of_le (Nat.le_refl _)
  · exact Heap.get?_push_of_some _ (Heap.get?_push_size _ rfl)
end
open PySem PySem.W -- enterQ
open PySem.Spec PySem.Calls PyProof.Rows PyProof.V PySem.SeqAt
section
variable {w : World} {A₀ : Around} {s : Shared} {base h₀ : Heap} {outer : List Env} {m mg mb : Str → Option Value} {mean : ExcName → Option Value}
  {R : Result → Shared → Prop} {name qual : Str} {params : Arguments} {body : List Stmt} {scope : Scope} {cl : List (Str × Addr)} {dV kV doc pm cdv ct oc : Value} {an od : Option Addr} {osl : Array (Option Value)} {f : Addr} {args : Args} {binds : List (Str × Value)}

/-- the same, with the caller's frame told -/
theorem enterQ {D U : Nat} (hid : List Addr) {A : Around} {cn : Str} {cs : Scope} {a : Addr} {ccd : Value} {cl' : List (Str × Addr)} {L : Addr}
    (hh : A.handled = none) (hdp : A.depth ≤ D) (hun : A.units ≤ U) (hA : A.frames = some (envX cn cs L a ccd cl' :: outer)) (hke : cs.kind = .function) (B : Below A₀ base outer h₀) (F : Fr h₀ L s.heap m) (X : (hd.heap_1 w.params).In h₀) (T : Top hd.view_39 (looseW hd.view_39 [Str.ofString "_Accumulator"]) mean mg mb h₀) (hL : L ∉ hid) (hhid : ∀ b ∈ hid, h₀.get? b = none)
    (ho : (hd.heap_1 w.params).lookup f = some ⟨oc, od, .func (fnX name qual params body scope cl dV kV doc pm an cdv ct), osl⟩) (hcd : codeIn (hd.heap_1 w.params) cdv qual = true)
    (hroom : D < recursionLimit)
    (hbind : BindsTo s (fnX name qual params body scope cl dV kV doc pm an cdv ct) args binds) (hloc : ∀ y ∈ binds, scope.names.lookup y.1 = some .local)
    (h : ∀ L' h₁,
      Fr (hideAll s.heap hid) L' h₁ (fun y => binds.reverse.lookup y) → News (hideAll s.heap hid) L' h₁ [] → Below (ktrTop D U A.guards cn cs L a ccd cl' outer) base (envX cn cs L a ccd cl' :: outer) (hideAll s.heap hid) → (hd.heap_1 w.params).In (hideAll s.heap hid) →
      Top hd.view_39 (looseW hd.view_39 [Str.ofString "_Accumulator"]) mean mg mb (hideAll s.heap hid) →
      (∀ b o, s.heap.get? b = some o → b ∉ hid → (hideAll s.heap hid).get? b = some o) → (∀ b ∈ hid, (hideAll s.heap hid).get? b = none) → Keeps s.heap h₁ → L' = s.heap.objs.size →
      wpAny (model PySem.Challenge.rw_ty0042_01.row.prog w) ((ktrTop D U A.guards cn cs L a ccd cl' outer).deeper (envX qual scope L' f cdv cl)) (execs body (envX qual scope L' f cdv cl))
        (fun fl s' => R (.ok (.ret (match fl with | .ret v => v | _ => .none))) s')
        (fun e s' => wpAny (model PySem.Challenge.rw_ty0042_01.row.prog w) ((ktrTop D U A.guards cn cs L a ccd cl' outer).deeper (envX qual scope L' f cdv cl)) (leaving (envX qual scope L' f cdv cl) e) (fun _ s'' => R (.error e) s'') (fun e' s'' => R (.error e') s'') s')
        { s with heap := h₁, toks := s.toks + binds.length })
    (hcell : ∀ x ∈ scope.names, x.2 ≠ .cell) (hco : autoParam (scope.isCoroutine = false) au1._auto_1) (hgen : autoParam (scope.isGenerator = false) au1._auto_1) (hk : autoParam (scope.kind = .function) au1._auto_1) :
    codeAny (model PySem.Challenge.rw_ty0042_01.row.prog w) A (.call (.ref f) args) R s := by
  refine codeAny_le (A' := ktrTop D U A.guards cn cs L a ccd cl' outer) ?_ hh hdp hA rfl hun
  have hst : h₀.StaysIn (hideAll s.heap hid) := fun b o e => hideAll_get _ (F.keep b o e) fun q => by rw [hhid b q] at e; cases e
  obtain ⟨oL, es, ep, hLo, hLd, hLk, hLf⟩ := id F.ns
  have hLg := hideAll_get hid hLo hL
  have B₁ := pushX (env := envX cn cs L a ccd cl') B F rfl hke
  have BG : Below (ktrTop D U A.guards cn cs L a ccd cl' outer) base (envX cn cs L a ccd cl' :: outer) (hideAll s.heap hid) := by
    refine ⟨rfl, fun b o e => hst b o (B.stays b o e), funFrames_hideAll B₁.frames fun env' he b hb hf' => ?_⟩
    cases he with
    | head => exact hL ((Option.some.inj hf' : L = b) ▸ hb)
    | tail _ he =>
      obtain ⟨L₁, o₁, hf₁, ho₁⟩ := funFrames_in B.frames env' he
      rw [hf₁] at hf'
      have : L₁ = b := Option.some.inj hf'
      subst this
      rw [hhid L₁ hb] at ho₁; cases ho₁
  have XG : (hd.heap_1 w.params).In (hideAll s.heap hid) := X.keeps hst
  have hof : s.heap.get? f = some ⟨oc, od, .func (fnX name qual params body scope cl dV kV doc pm an cdv ct), osl⟩ := (X.keeps F.keep) _ _ ho
  refine codeAny_call_def (fd := fnX name qual params body scope cl dV kV doc pm an cdv ct) (body := body) (binds := binds) hroom hof rfl (T.nolimit.keeps F.keep) (codeRec_of (X.keeps F.keep) hcd) rfl hbind hcell hloc (fun h₁ hns hk₁ => ?_) hco hgen hk
  exact h s.heap.objs.size h₁ ⟨hns, fun b o e => hk₁ b o (of_hideAll _ e), Nat.le_of_eq (hideAll_size _ _)⟩ (fun p hp => nomatch hp) BG XG (T.keeps hst)
    (fun b o e nb => hideAll_get hid e nb) (fun b hb => hideAll_none hid hb) hk₁ rfl
end
end

end

section
open PySem PySem.W PySem.Spec PySem.Calls PyProof.Rows
local macro_rules | `(tactic| walk_at "z") => `(tactic| skip)
local macro_rules | `(tactic| walk_at "call builtin:next") => `(tactic| (k_here; refine hold ?_))

/-- no number is left: the reading raises -/
theorem parse_end {w : World} {A A₀ : Around} {s : Shared} {base h₀ : Heap} {outer : List Env} {m mg mb : Str → Option Value} {mean : ExcName → Option Value} {cn : Str} {cs : Scope} {a : Addr} {ccd : Value} {cl' : List (Str × Addr)} {L it l : Addr} {io : Obj} {i : Nat} {vs : Array Value} {Q E : Value → Shared → Prop}
    (hh : A.handled = none) (hdp : A.depth ≤ 400) (hun : A.units ≤ 2000) (hA : A.frames = some (envX cn cs L a ccd cl' :: outer)) (hke : cs.kind = .function) (B : Below A₀ base outer h₀) (F : Fr h₀ L s.heap m) (X : (hd.heap_1 w.params).In h₀) (T : Top hd.view_39 (looseW hd.view_39 [Str.ofString "_Accumulator"]) mean mg mb h₀) (hL : L ∉ [it]) (hhid : ∀ b ∈ [it], h₀.get? b = none)
    (hit : s.heap.get? it = some io) (hio : ItO io l i) (hl : s.heap.IsList l vs) (hx : vs[i]? = none)
    (hraise : ∀ e t h' news, RaisedS base (hideAll s.heap [it]) (envX cn cs L a ccd cl' :: outer) e (.type "StopIteration") t [] news h' → (hideAll s.heap [it]).UpToSlots h' → ∀ tk, E (.ref e) ⟨h', s.gens, s.drawn, tk, s.os⟩) :
    wpAny (model PySem.Challenge.rw_ty0042_01.row.prog w) A (call (.ref 42) [.ref it]) Q E s := by
  w_top off
  refine wpAny_call ?_
  refine' enterQ (binds := [(Str.ofString "iterator", .ref it)]) [it] hh hdp hun hA hke B F X T hL hhid ?k6 ?k7 ?k8 ?k9 ?kB ?_ ?c5 ?c2 ?c3 ?c4
  case k6 => k_is
  case k7 => k_is
  case k8 => decide
  case k9 => exact BindsTo.of_eq rfl
  case kB => exact locs rfl
  case c2 => exact rfl
  case c3 => exact rfl
  case c4 => exact rfl
  case c5 => decide
  intro L' h₁ F N B' KX T' hg hgn hk1 hL'
  try dsimp only
  try k_fold
  try (with_reducible refine wp_letA ?_; intro A9)
  have hlt : it ∉ ([] : List Addr) := by simp
  have hne : l ≠ it := by
    rintro rfl
    refine gen_goal fun G9 hG9 => ?_
    obtain ⟨o, ho, hc, _⟩ := hl
    refine hG9 ?_
    clear hG9 G9
    rw [hit] at ho; cases ho
    rw [hio.1] at hc; exact absurd (Value.type.inj hc) (by decide)
  have hlg : (hideAll s.heap [it]).IsList l vs := by
    refine gen_goal fun G9 hG9 => ?_
    obtain ⟨o, ho, r⟩ := hl
    refine hG9 ?_
    clear hG9 G9
    exact ⟨o, hg _ _ ho (by simp [hne]), r⟩
  have N1 : News (hideAll s.heap [it]) L' h₁ [(it, io)] := fun p hp => by
    rw [List.mem_singleton.mp hp]
    exact ⟨hk1 _ _ hit, by rw [hL']; exact Nat.ne_of_lt (Heap.lt_size hit), hgn _ (List.mem_singleton.mpr rfl)⟩
  clear N
  try (with_reducible refine wp_letQ ?_; intro Qz1)
  k_steps
  unfold Hold
  (with_reducible rename Fr _ _ _ _ => F1)
  refine fr_let F1 ?_
  clear F1
  intro mz1x F1
  (with_reducible rename News _ _ _ _ => N2)
  refine next_end F1 N2 (.head (fun p hp => nomatch hp)) hio (hlg.at fun o e => F1.keep _ _ e) hx rfl ?_
  intro h₂ h₃ e o' F2 N3 hmade
  show wpAny _ (Around.deeper _ (envOf _ _ L' 42 _)) (leaving (envOf _ _ L' 42 _) (.ref e)) _ _ _
  refine leave_raiseS B' hmade F2 N3 ?_
  intro h4 t R1 _ hup
  exact hraise e t h4 _ R1 hup _
end

section
open PySem PySem.W PySem.Spec PySem.Calls PyProof.Rows PyProof.V PySem.SeqAt
section
variable {prog : Program} {w : World} {A : Around} {s : Shared} {env : Env} {h₀ : Heap}
inductive WhileGE (L : Addr) (J : Nat → Heap → (Str → Option Value) → List (Addr × Obj) → Prop) (s₀ : Shared) (k : Nat) (s₃ : Shared) : Prop
  | mk : ∀ h' gs tk g₂ m₂ news₂ k', s₃ = ⟨h', gs, s₀.drawn, tk, s₀.os⟩ → AllBare gs → Fr g₂ L h' m₂ → News g₂ L h' news₂ → k' < k → J k' g₂ m₂ news₂ → WhileGE L J s₀ k s₃
inductive WhileGInv (L : Addr) (J : Nat → Heap → (Str → Option Value) → List (Addr × Obj) → Prop) (s₀ : Shared) (k : Nat) (s' : Shared) : Prop
  | mk : ∀ h' gs tk g' m' news', s' = ⟨h', gs, s₀.drawn, tk, s₀.os⟩ → AllBare gs → Fr g' L h' m' → News g' L h' news' → J k g' m' news' → WhileGInv L J s₀ k s'
/-- a while whose turns may lay the base anew -/
theorem while_g {body orelse : List Stmt} {test : Expr} {Q : Flow → Shared → Prop} {E : Value → Shared → Prop} {pos : Pos} {m : Str → Option Value} {news : List (Addr × Obj)}
    (J : Nat → Heap → (Str → Option Value) → List (Addr × Obj) → Prop) (n : Nat) (h0 : J n h₀ m news)
    (F : Fr h₀ env.locals s.heap m) (N : News h₀ env.locals s.heap news) (hg : AllBare s.gens)
    (turn : ∀ k g' m₁ news₁ h gs tk, J k g' m₁ news₁ → AllBare gs → Fr g' env.locals h m₁ → News g' env.locals h news₁ →
      wpAny (model prog w) A (isTrue test env (eval test env)) (fun b s₂ =>
        if b = true then wpAny (model prog w) A (execs body env) (fun f s₃ => match f with
          | .ret v => Q (.ret v) s₃
          | .brk => Q .next s₃
          | _ => Hold (WhileGE env.locals J s k s₃)) E s₂
        else wpAny (model prog w) A (execs orelse env) Q E s₂) E ⟨h, gs, s.drawn, tk, s.os⟩)
    (hE : PassesOwn (model prog w) A env E) :
    wpAny (model prog w) A (exec (.While test body orelse pos) env) Q E s := by
  refine wpAny_While ?_
  refine codeAny_whileLoop (WhileGInv env.locals J s) ?_ n
    ⟨s.heap, s.gens, s.toks, h₀, m, news, rfl, hg, F, N, h0⟩
  rintro k s' ⟨h', gs, tk, g', m', news', rfl, hgs, F', N', hJ⟩
  refine wpAny_mono (turn k g' m' news' h' gs tk hJ hgs F' N') (fun b s₂ h₂ => ?_) hE
  cases b with
  | true =>
    simp only [if_true] at h₂ ⊢
    refine wpAny_mono h₂ (fun f s₃ h₃ => ?_) hE
    have fin : WhileGE env.locals J s k s₃ → ∃ m_1, m_1 < k ∧ WhileGInv env.locals J s m_1 s₃ := by
      rintro ⟨h₃', gs₃, tk₃, g₂, m₂, news₂, k', e, q1, q2, q3, q4, q5⟩
      exact ⟨k', q4, h₃', gs₃, tk₃, g₂, m₂, news₂, e, q1, q2, q3, q5⟩
    cases f with
    | ret v => exact h₃
    | brk => exact h₃
    | cont => exact fin h₃
    | next => exact fin h₃
  | false =>
    simp only [Bool.false_eq_true, if_false] at h₂ ⊢
    exact wpAny_mono h₂ (fun _ _ x => x) hE
end
/-- the caller's own ledger is laid beside what was raised -/
theorem raised_more {base G g : Heap} {fl : List Env} {e t L : Addr} {cls : Value} {vs : List Value} {news led : List (Addr × Obj)} {h : Heap} (R : RaisedS base G fl e cls t vs news h) (hst : base.StaysIn g) (N : News g L G led)
    (hfr : ∀ b ∈ fl.filterMap (·.frame), b = L ∨ ∃ o, g.get? b = some o) : RaisedS base (hideAll G (led.map (·.1))) fl e cls t vs led h := by
  obtain ⟨⟨B, hB, hBG, hl, hfl, hnew⟩, htup⟩ := R
  refine ⟨⟨B, hB, fun b o q nm => hBG b o (of_hideAll _ q) nm, fun q hq => ⟨hBG _ _ (N q hq).1 fun hm => ?_, hideAll_none _ (List.mem_map_of_mem hq), fresh_of_stays hst (N q hq).2.2⟩, hfl, hnew⟩, htup⟩
  rcases hfr _ hm with z | ⟨o, z⟩
  · exact (N q hq).2.1 z
  · rw [(N q hq).2.2] at z; cases z
theorem fr_hide {g G : Heap} {L : Addr} {m : Str → Option Value} {led : List (Addr × Obj)} (F : Fr g L G m) (N : News g L G led) : Fr g L (hideAll G (led.map (·.1))) m := by
  obtain ⟨oL, es, ep, hLo, r⟩ := F.ns
  have hn : L ∉ led.map (·.1) := by
    intro hm
    obtain ⟨q, hq, e⟩ := List.mem_map.mp hm
    exact (N q hq).2.1 e
  refine ⟨⟨oL, es, ep, hideAll_get _ hLo hn, r⟩, fun b o e => hideAll_get _ (F.keep b o e) fun hm => ?_, Nat.le_trans F.above (Nat.le_refl _)⟩
  obtain ⟨q, hq, z⟩ := List.mem_map.mp hm
  have := (N q hq).2.2
  rw [z, e] at this; cases this
theorem up_hide {G h : Heap} {as : List Addr} (u : G.UpToSlots h) : (hideAll G as).UpToSlots h := fun b o e d => u b o (of_hideAll _ e) d
open PySem PySem.W PySem.Spec PySem.Calls PyProof.Rows PyProof.V PySem.SeqAt
theorem kstO_self (m : Str → Option Value) (xs : List Str) : kstO m (xs.zip (xs.map m)) = m := by
  induction xs with
  | nil => rfl
  | cons a r ih =>
    funext y
    show (if y = a then m a else kstO m (r.zip (r.map m)) y) = m y
    by_cases h : y = a
    · rw [if_pos h, h]
    · rw [if_neg h, ih]
/-- a row of words: its text, and the numbers that are read from it -/
noncomputable def rowText (r : List (List Nat)) : Str := partText (r.map fun ds => (blank, wordStr ds))
noncomputable def rowNums (r : List (List Nat)) : List Int := r.flatMap fun ds => [32, horner 0 (ds.map (fun d : Nat => (d : Int)) ++ [44])]
noncomputable def pageText (rs : List (List (List Nat))) : Str := Txt.join (Str.ofString ".") (rs.map rowText)
/-- what the rows of a page are like -/
structure RowsOk (rs : List (List (List Nat))) : Prop where
  digs : ∀ r ∈ rs, ∀ ds ∈ r, ds.length ≤ 6 ∧ ∀ d ∈ ds, d < 64
  some : ∀ i r, 0 < i → rs[i]? = some r → r ≠ []
  fit : rs.length ≤ 100 ∧ ∀ r ∈ rs, r.length ≤ 100
structure JR2 (w : World) (A₀ : Around) (base g : Heap) (fl : List Env) (pages : List (Addr × Obj)) (rs : List (List (List Nat))) (m₀ : Str → Option Value) (xs : List Str) (k : Nat) (g' : Heap) (m : Str → Option Value) (news : List (Addr × Obj)) : Prop where
  turn : KtsTurn (fl.filterMap (·.frame)) g g'
  below : Below A₀ base fl g'
  kx : (hd.heap_1 w.params).In g'
  top : ∃ mean mg mb, Top hd.view_39 (looseW hd.view_39 [Str.ofString "_Accumulator"]) mean mg mb g'
  dicts : KtsDicts (fl.filterMap (·.frame)) g'
  le : k ≤ rs.length
  fst : k = 0 → ∀ r ∈ rs, r ≠ []
  vals : ∃ t R o1 o2 o3 rowsV nR tt, m = kstO m₀ (xs.zip [some (.str (pageText (rs.take k)) t), some (.ref R), o1, o2, o3]) ∧ news = (R, listOf rowsV.toArray nR) :: (pages ++ tt) ∧ RowsLed tt rowsV ((rs.drop k).reverse.map rowNums) ∧ (∀ q ∈ pages ++ tt, q.1 ≠ R)
open PySem PySem.W PySem.Spec PySem.Calls PyProof.Rows PyProof.V PySem.SeqAt
theorem fr_gen {g h : Heap} {L : Addr} {m : Str → Option Value} {P : Prop} (F : Fr g L h m) (k : ∀ m', m' = m → Fr g L h m' → P) : P := k m rfl F
end

section
/-- the signs of a word, of a token, of a row of tokens -/
noncomputable def wordL (ds : List Nat) : List Nat := ds.map (fun d => 64 + d) ++ [44]
noncomputable def encT (x : Int) : List Nat := if x < 0 then [10] else 32 :: wordL (dg x.toNat)
noncomputable def enc (xs : List Int) : List Nat := xs.flatMap encT
theorem enc_nil : enc [] = [] := rfl
theorem enc_cons (x : Int) (xs : List Int) : enc (x :: xs) = encT x ++ enc xs := by simp [enc]
theorem enc_append (xs ys : List Int) : enc (xs ++ ys) = enc xs ++ enc ys := by simp [enc]
theorem encT_neg {x : Int} (h : x < 0) : encT x = [10] := if_pos h
theorem encT_pos {x : Int} (h : 0 ≤ x) : encT x = 32 :: wordL (dg x.toNat) := if_neg (by (first | lia | omega))
theorem encT_len (x : Int) : 0 < (encT x).length := by
  unfold encT; split <;> simp
theorem encT_len_neg {x : Int} (h : x < 0) : (encT x).length = 1 := by rw [encT_neg h]; rfl
noncomputable def undg (ds : List Nat) : Nat := ds.foldl (fun v d => v * 64 + d) 0
theorem undg_snoc (ds : List Nat) (d : Nat) : undg (ds ++ [d]) = undg ds * 64 + d := by simp [undg]
theorem undg_dg (n : Nat) : undg (dg n) = n := by
  induction n using Nat.strongRecOn with
  | ind n ih =>
    by_cases h : n = 0
    · subst h; rw [dg_zero]; rfl
    · rw [dg_pos h, undg_snoc, ih (n / 64) (by (first | lia | omega))]; (first | lia | omega)
theorem dg_inj {a b : Nat} (h : dg a = dg b) : a = b := by rw [← undg_dg a, h, undg_dg]
theorem dg_lt (n : Nat) : ∀ d ∈ dg n, d < 64 := by
  induction n using Nat.strongRecOn with
  | ind n ih =>
    by_cases h : n = 0
    · subst h; rw [dg_zero]; intro d hd; cases hd
    · rw [dg_pos h]
      intro d hd
      rcases List.mem_append.mp hd with hd | hd
      · exact ih (n / 64) (by (first | lia | omega)) d hd
      · rw [List.mem_singleton.mp hd]; (first | lia | omega)
theorem word_pre : ∀ {a b : List Nat} {r q : List Nat}, (wordL a ++ r) <+: (wordL b ++ q) → a = b ∧ r <+: q := by
  intro a
  induction a with
  | nil =>
    intro b r q h
    cases b with
    | nil => exact ⟨rfl, (List.cons_prefix_cons.mp h).2⟩
    | cons y b =>
      have := (List.cons_prefix_cons.mp h).1
      clear h
      exfalso; (first | lia | omega)
  | cons x a ih =>
    intro b r q h
    cases b with
    | nil =>
      have := (List.cons_prefix_cons.mp h).1
      clear h ih
      exfalso; (first | lia | omega)
    | cons y b =>
      obtain ⟨h1, h2⟩ := List.cons_prefix_cons.mp h
      obtain ⟨h3, h4⟩ := ih h2
      exact ⟨by rw [h3]; congr 1; clear h h2 ih h3 h4; (first | lia | omega), h4⟩
theorem pre_enc : ∀ {row flat : List Int}, (∀ x ∈ row, 0 ≤ x) → enc row <+: enc flat → row <+: flat := by
  intro row
  induction row with
  | nil => exact fun _ _ => List.nil_prefix
  | cons x row ih =>
    intro flat hp h
    rw [enc_cons, encT_pos (hp x (.head _))] at h
    cases flat with
    | nil => exact absurd (List.prefix_nil.mp h) (List.cons_ne_nil _ _)
    | cons y flat =>
      rw [enc_cons] at h
      by_cases hy : y < 0
      · rw [encT_neg hy] at h
        exact absurd (List.cons_prefix_cons.mp h).1 (by decide)
      · rw [encT_pos (Int.not_lt.mp hy)] at h
        obtain ⟨h1, h2⟩ := word_pre (List.cons_prefix_cons.mp h).2
        have h3 := dg_inj h1
        have hx := hp x (.head _)
        have : x = y := by clear h h1 h2 ih hp; (first | lia | omega)
        subst this
        exact List.cons_prefix_cons.mpr ⟨rfl, ih (fun z hz => hp z (.tail _ hz)) h2⟩
theorem pre_enc' {row flat : List Int} (h : row <+: flat) : enc row <+: enc flat := by
  obtain ⟨t, rfl⟩ := h
  rw [enc_append]; exact List.prefix_append _ _
/-- the place of a token among the signs -/
noncomputable def pos (flat : List Int) (i : Nat) : Nat := (enc (flat.take i)).length
theorem pos_zero (flat : List Int) : pos flat 0 = 0 := by simp [pos, enc]
theorem pos_all (flat : List Int) : pos flat flat.length = (enc flat).length := by simp [pos]
theorem pos_succ {flat : List Int} {i : Nat} (h : i < flat.length) : pos flat i < pos flat (i + 1) := by
  unfold pos
  rw [List.take_succ_eq_append_getElem h, enc_append, List.length_append, enc_cons, enc_nil, List.append_nil]
  have := encT_len flat[i]
  (first | lia | omega)
theorem pos_mono {flat : List Int} {i j : Nat} (h : i < j) (hj : j ≤ flat.length) : pos flat i < pos flat j := by
  induction j with
  | zero => (first | lia | omega)
  | succ j ih =>
    have h1 := pos_succ (flat := flat) (i := j) (by (first | lia | omega))
    by_cases q : i = j
    · subst q; exact h1
    · have := ih (by (first | lia | omega)) (by (first | lia | omega)); (first | lia | omega)
theorem pos_le_iff {flat : List Int} {i j : Nat} (hi : i ≤ flat.length) (hj : j ≤ flat.length) : pos flat i ≤ pos flat j ↔ i ≤ j := by
  constructor
  · intro h
    by_cases q : i ≤ j
    · exact q
    · have := pos_mono (flat := flat) (i := j) (j := i) (by (first | lia | omega)) hi; (first | lia | omega)
  · intro h
    by_cases q : i = j
    · subst q; exact Nat.le_refl _
    · exact Nat.le_of_lt (pos_mono (by (first | lia | omega)) hj)
theorem pos_cons (x : Int) (flat : List Int) (i : Nat) : pos (x :: flat) (i + 1) = (encT x).length + pos flat i := by
  simp [pos, enc_cons]
theorem drop_pos (flat : List Int) (i : Nat) : (enc flat).drop (pos flat i) = enc (flat.drop i) := by
  have h : enc flat = enc (flat.take i) ++ enc (flat.drop i) := by rw [← enc_append, List.take_append_drop]
  unfold pos
  rw [h, List.drop_left]
theorem tail_no32 {x : Int} (k : Nat) (hk : 0 < k) (hk2 : k < (encT x).length) : ∃ c r, (encT x).drop k = c :: r ∧ c ≠ 32 := by
  have hx : ¬ x < 0 := by
    intro q; rw [encT_neg q] at hk2; simp at hk2; (first | lia | omega)
  rw [encT_pos (by (first | lia | omega))] at hk2 ⊢
  obtain ⟨k', rfl⟩ : ∃ k', k = k' + 1 := ⟨k - 1, by (first | lia | omega)⟩
  rw [List.drop_succ_cons]
  simp only [List.length_cons] at hk2
  have hk3 : k' < (wordL (dg x.toNat)).length := by (first | lia | omega)
  refine ⟨(wordL (dg x.toNat))[k'], _, List.drop_eq_getElem_cons hk3, ?_⟩
  have hm : (wordL (dg x.toNat))[k'] ∈ wordL (dg x.toNat) := List.getElem_mem hk3
  unfold wordL at hm ⊢
  rcases List.mem_append.mp hm with hm | hm
  · obtain ⟨d, _, e⟩ := List.mem_map.mp hm
    intro q
    have : 64 + d = 32 := e.trans q
    (first | lia | omega)
  · rw [List.mem_singleton.mp hm]; decide
/-- a row's signs lie among the signs of a line at tokens alone -/
theorem occ_enc {row : List Int} (hn : row ≠ []) (hp : ∀ x ∈ row, 0 ≤ x) : ∀ {flat : List Int} {p : Nat}, enc row <+: (enc flat).drop p → ∃ i, i ≤ flat.length ∧ p = pos flat i ∧ row <+: flat.drop i := by
  have hd : ∃ r, enc row = 32 :: r := by
    cases row with
    | nil => exact absurd rfl hn
    | cons x row => exact ⟨_, by rw [enc_cons, encT_pos (hp x (.head _))]; rfl⟩
  obtain ⟨r0, hd⟩ := hd
  have zero : ∀ flat : List Int, enc row <+: enc flat → ∃ i, i ≤ flat.length ∧ 0 = pos flat i ∧ row <+: flat.drop i := fun flat h => ⟨0, Nat.zero_le _, (pos_zero _).symm, pre_enc hp h⟩
  intro flat
  induction flat with
  | nil =>
    intro p h
    rw [hd, enc_nil, List.drop_nil] at h
    exact absurd (List.prefix_nil.mp h) (List.cons_ne_nil _ _)
  | cons y flat ih =>
    intro p h
    cases p with
    | zero => exact zero _ h
    | succ p =>
      rw [enc_cons] at h
      by_cases q : p + 1 < (encT y).length
      · exfalso
        obtain ⟨c, r, e, hc⟩ := tail_no32 (p + 1) (Nat.succ_pos p) q
        rw [List.drop_append_of_le_length (Nat.le_of_lt q), e, hd] at h
        exact hc (List.cons_prefix_cons.mp h).1.symm
      · have q := Nat.le_of_not_lt q
        rw [List.drop_append, List.drop_eq_nil_of_le q, List.nil_append] at h
        obtain ⟨i, h1, h2, h3⟩ := ih h
        refine ⟨i + 1, Nat.succ_le_succ h1, ?_, h3⟩
        rw [pos_cons, ← h2]; clear h h1 h2 h3 hd zero ih hp; (first | lia | omega)
theorem occ_enc' {flat row : List Int} {i : Nat} (h : row <+: flat.drop i) : enc row <+: (enc flat).drop (pos flat i) := by
  rw [drop_pos]; exact pre_enc' h
theorem pos_add {flat row : List Int} {i : Nat} (h : row <+: flat.drop i) : pos flat (i + row.length) = pos flat i + (enc row).length := by
  unfold pos
  rw [List.take_add, enc_append, List.length_append]
  obtain ⟨t, e⟩ := h
  rw [← e, List.take_left']
  rfl

/-- middle rows lie one behind the other, by signs -/
noncomputable def SCh (y : List Nat) (e : Nat) : List (List Nat) → Nat → Prop
  | [], _ => True
  | w :: r, st => ∃ p, st ≤ p ∧ p + w.length ≤ e ∧ w <+: y.drop p ∧ SCh y e r (p + w.length)
/-- by tokens -/
noncomputable def TCh (flat : List Int) (e : Nat) : List (List Int) → Nat → Prop
  | [], _ => True
  | w :: r, st => ∃ j, st ≤ j ∧ j + w.length ≤ e ∧ w <+: flat.drop j ∧ TCh flat e r (j + w.length)
theorem sch_mono {y : List Nat} {e : Nat} {ws : List (List Nat)} {a b : Nat} (h : a ≤ b) (hs : SCh y e ws b) : SCh y e ws a := by
  cases ws with
  | nil => exact hs
  | cons w ws => exact hs.imp fun p q => ⟨Nat.le_trans h q.1, q.2⟩
theorem sch_tch {flat : List Int} {e : Nat} (he : e ≤ flat.length) : ∀ {ws : List (List Int)} {st : Nat}, (∀ w ∈ ws, w ≠ [] ∧ ∀ x ∈ w, 0 ≤ x) → st ≤ flat.length → (SCh (enc flat) (pos flat e) (ws.map enc) (pos flat st) ↔ TCh flat e ws st) := by
  intro ws
  induction ws with
  | nil => exact fun _ _ => Iff.rfl
  | cons w ws ih =>
    intro st hw hst
    obtain ⟨hne, hp⟩ := hw w (.head _)
    have hw' := fun v hm => hw v (.tail _ hm)
    constructor
    · refine fun hs => hs.elim fun p q => ?_
      obtain ⟨i, hi, e, h5⟩ := occ_enc hne hp q.2.2.1
      subst e
      have hil : i + w.length ≤ flat.length := by
        have h6 := h5.length_le
        rw [List.length_drop] at h6
        have h7 := List.length_pos_iff.mpr hne
        clear q h5 ih hw hw'
        (first | lia | omega)
      have h2 := q.2.1
      have h4 := q.2.2.2
      rw [← pos_add h5] at h2 h4
      exact ⟨i, (pos_le_iff hst hi).mp q.1, (pos_le_iff hil he).mp h2, h5, (ih hw' hil).mp h4⟩
    · refine fun hs => hs.elim fun i q => ?_
      have hil : i + w.length ≤ flat.length := Nat.le_trans q.2.1 he
      refine ⟨pos flat i, (pos_le_iff hst (Nat.le_trans (Nat.le_add_right _ _) hil)).mpr q.1, ?_, occ_enc' q.2.2.1, ?_⟩
      · rw [← pos_add q.2.2.1]; exact (pos_le_iff hil he).mpr q.2.1
      · rw [← pos_add q.2.2.1]; exact (ih hw' hil).mpr q.2.2.2

/-- what _law_takes reckons -/
noncomputable def takeStep (flat : List Int) (reach : List Nat) (kr : Nat × List Int) : List Nat :=
  ((List.range (flat.length + 1 - kr.2.length)).filter fun start => decide ((flat.drop start).take kr.2.length = kr.2) && reach.any fun stop => decide (stop = start ∨ (0 < kr.1 ∧ stop < start))).map (· + kr.2.length)
noncomputable def lawTakes (rows : List (List Int)) (flat : List Int) : Bool := decide (flat.length ∈ ((List.range rows.length).zip rows).foldl (takeStep flat) [0])
theorem take_pre {α : Type} {l w : List α} : l.take w.length = w ↔ w <+: l := by
  constructor
  · intro h; rw [← h]; exact List.take_prefix _ _
  · rintro ⟨t, rfl⟩; simp
theorem mem_step {flat : List Int} {reach : List Nat} {k : Nat} {w : List Int} {x : Nat} : x ∈ takeStep flat reach (k, w) ↔ ∃ j, x = j + w.length ∧ j + w.length ≤ flat.length ∧ w <+: flat.drop j ∧ ∃ st ∈ reach, st = j ∨ (0 < k ∧ st < j) := by
  unfold takeStep
  simp only [List.mem_map, List.mem_filter, List.mem_range, Bool.and_eq_true, decide_eq_true_eq, List.any_eq_true]
  constructor
  · rintro ⟨j, ⟨h1, h2, st, h3, h4⟩, rfl⟩
    exact ⟨j, rfl, by (first | lia | omega), take_pre.mp h2, st, h3, by simpa using h4⟩
  · rintro ⟨j, rfl, h1, h2, st, h3, h4⟩
    exact ⟨j, ⟨by (first | lia | omega), take_pre.mpr h2, st, h3, by simpa using h4⟩, rfl⟩
/-- rows one behind the other, ending at x -/
noncomputable def RCh (flat : List Int) : List (List Int) → Nat → Nat → Prop
  | [], st, x => x = st
  | w :: r, st, x => ∃ j, st ≤ j ∧ j + w.length ≤ flat.length ∧ w <+: flat.drop j ∧ RCh flat r (j + w.length) x
theorem fold_rch {flat : List Int} {x : Nat} : ∀ {rows : List (List Int)} {k : Nat} {reach : List Nat}, 0 < k → (x ∈ ((List.range' k rows.length).zip rows).foldl (takeStep flat) reach ↔ ∃ st ∈ reach, RCh flat rows st x) := by
  intro rows
  induction rows with
  | nil => exact fun {k reach} _ => ⟨fun h => ⟨x, h, rfl⟩, fun h => h.elim fun st q => (q.2 : x = st) ▸ q.1⟩
  | cons w rows ih =>
    intro k reach hk
    rw [List.length_cons, List.range'_succ, List.zip_cons_cons, List.foldl_cons, ih (Nat.succ_pos k)]
    constructor
    · refine fun h => h.elim fun st' q => ?_
      obtain ⟨j, e, h3, h4, st, h5, h6⟩ := mem_step.mp q.1
      subst e
      exact ⟨st, h5, j, h6.elim Nat.le_of_eq fun l => Nat.le_of_lt l.2, h3, h4, q.2⟩
    · refine fun h => h.elim fun st q => q.2.elim fun j r => ?_
      exact ⟨j + w.length, mem_step.mpr ⟨j, rfl, r.2.1, r.2.2.1, st, q.1, (Nat.eq_or_lt_of_le r.1).imp_right fun l => ⟨hk, l⟩⟩, r.2.2.2⟩
theorem rch_last {flat wl : List Int} : ∀ {mids : List (List Int)} {st : Nat}, (RCh flat (mids ++ [wl]) st flat.length ↔ wl.length ≤ flat.length ∧ wl <+: flat.drop (flat.length - wl.length) ∧ st ≤ flat.length - wl.length ∧ TCh flat (flat.length - wl.length) mids st) := by
  intro mids
  induction mids with
  | nil =>
    intro st
    constructor
    · refine fun h => h.elim fun j q => ?_
      have h4 : flat.length = j + wl.length := q.2.2.2
      have h5 : flat.length - wl.length = j := by rw [h4]; exact Nat.add_sub_cancel _ _
      rw [h5]
      exact ⟨h4 ▸ Nat.le_add_left _ _, q.2.2.1, q.1, trivial⟩
    · exact fun h => ⟨flat.length - wl.length, h.2.2.1, Nat.le_of_eq (Nat.sub_add_cancel h.1), h.2.1, (Nat.sub_add_cancel h.1).symm⟩
  | cons w mids ih =>
    intro st
    constructor
    · refine fun h => h.elim fun j q => ?_
      have r := ih.mp q.2.2.2
      exact ⟨r.1, r.2.1, Nat.le_trans q.1 (Nat.le_trans (Nat.le_add_right _ _) r.2.2.1), j, q.1, r.2.2.1, q.2.2.1, r.2.2.2⟩
    · refine fun h => h.2.2.2.elim fun j q => ?_
      exact ⟨j, q.1, Nat.le_trans q.2.1 (Nat.sub_le _ _), q.2.2.1, ih.mpr ⟨h.1, h.2.1, q.2.1, q.2.2.2⟩⟩
theorem takes_one (r flat : List Int) : lawTakes [r] flat = decide (r = flat) := by
  unfold lawTakes
  apply decide_eq_decide.mpr
  show flat.length ∈ takeStep flat [0] (0, r) ↔ _
  rw [mem_step]
  constructor
  · rintro ⟨j, h1, h2, h3, st, h4, h5⟩
    rw [List.mem_singleton.mp h4] at h5
    have hj : j = 0 := by (first | lia | omega)
    subst hj
    rw [List.drop_zero] at h3
    exact h3.eq_of_length (by (first | lia | omega))
  · rintro rfl
    exact ⟨0, by (first | lia | omega), by (first | lia | omega), by simp, 0, by simp, .inl rfl⟩
theorem takes_many (r0 wl flat : List Int) (mids : List (List Int)) : lawTakes (r0 :: (mids ++ [wl])) flat = true ↔ r0 <+: flat ∧ wl.length ≤ flat.length ∧ wl <+: flat.drop (flat.length - wl.length) ∧ r0.length ≤ flat.length - wl.length ∧ TCh flat (flat.length - wl.length) mids r0.length := by
  unfold lawTakes
  rw [decide_eq_true_eq, List.length_cons, List.range_succ_eq_map, List.zip_cons_cons, List.foldl_cons]
  have e : List.map Nat.succ (List.range (mids ++ [wl]).length) = List.range' 1 (mids ++ [wl]).length := by
    rw [List.range'_eq_map_range]
    refine List.map_congr_left fun a _ => ?_
    show a + 1 = 1 + a
    (first | lia | omega)
  rw [e, fold_rch (by (first | lia | omega))]
  constructor
  · rintro ⟨st, h1, h2⟩
    obtain ⟨j, rfl, h3, h4, st', h5, h6⟩ := mem_step.mp h1
    rw [List.mem_singleton.mp h5] at h6
    have hj : j = 0 := by (first | lia | omega)
    subst hj
    rw [Nat.zero_add] at h2
    rw [List.drop_zero] at h4
    exact ⟨h4, rch_last.mp h2⟩
  · rintro ⟨h1, h2⟩
    refine ⟨0 + r0.length, mem_step.mpr ⟨0, rfl, by have := h1.length_le; (first | lia | omega), by simpa using h1, 0, by simp, .inl rfl⟩, ?_⟩
    rw [Nat.zero_add]
    exact rch_last.mpr h2
end

section
open PySem PySem.Builtin PySem.Builtin.Str PySem.StrLaws
noncomputable abbrev mkS (l : List Nat) : PySem.Str := ⟨l.toArray⟩
theorem mkS_len (l : List Nat) : (mkS l).length = l.length := by simp [mkS, PySem.Str.length]
theorem at_iff {l w : List Nat} {hi i : Nat} (hhi : hi ≤ l.length) : StrLaws.At (mkS l) (mkS w) hi i ↔ i + w.length ≤ hi ∧ w <+: l.drop i := by
  unfold StrLaws.At
  rw [StrLaws.subAt_eq, mkS_len]
  show _ ∧ (((l.drop i).take w.length == w) = true) ↔ _
  rw [beq_iff_eq, take_pre]
theorem occ_head_hi (x y : PySem.Str) (lo hi limit : Nat) (hl : 1 ≤ limit) :
    (occurrences x y lo hi limit = [] ∧ ∀ i, lo ≤ i → ¬ StrLaws.At x y hi i) ∨
    ∃ i r, occurrences x y lo hi limit = i :: r ∧ lo ≤ i ∧ StrLaws.At x y hi i ∧ ∀ k, lo ≤ k → k < i → ¬ StrLaws.At x y hi k := by
  rw [occ_eq]
  rcases occ_first x y hi limit hl (List.range' lo (hi + 1 - lo)) lo (fun i hi => by have := List.mem_range'_1.mp hi; (first | lia | omega)) with ⟨h0, hn⟩ | ⟨pre, a, post, e, h0, ha, hn⟩
  · refine .inl ⟨by rw [h0], fun i hlo hi => ?_⟩
    exact hn i (by rw [List.mem_range'_1]; exact ⟨hlo, by rw [Nat.add_sub_cancel' (Nat.le_succ_of_le (Nat.le_trans hlo (Nat.le_trans (Nat.le_add_right _ _) hi.1)))]; exact Nat.lt_succ_of_le (Nat.le_trans (Nat.le_add_right _ _) hi.1)⟩) hi
  · have hs := range'_split_from e
    refine .inr ⟨a, ((forIn (List.range' lo (hi + 1 - lo)) ((#[] : Array Nat), lo) (occBody x y hi limit)).run.fst.toList).tail, ?_, hs.1, ha, fun k hk0 hk => hn k (hs.2 k hk0 hk)⟩
    generalize (forIn (List.range' lo (hi + 1 - lo)) ((#[] : Array Nat), lo) (occBody x y hi limit)).run.fst = arr at h0
    have h1 : arr.toList[0]? = some a := by simpa using h0
    cases hL : arr.toList with
    | nil => rw [hL] at h1; cases h1
    | cons b t => rw [hL] at h1; simp at h1; rw [h1]; rfl
theorem fromIndex_nat (n i : Nat) : fromIndex n (i : Int) = i := by unfold fromIndex; rw [if_neg (Int.not_lt.mpr (Int.natCast_nonneg _)), Int.max_eq_right (Int.natCast_nonneg _)]; rfl
/-- the greedy search finds a chain if there is one -/
theorem ellMid_iff {l : List Nat} {e : Nat} (he : e ≤ l.length) : ∀ {ws : List (List Nat)} {st : Nat}, (ellMid (mkS l) (e : Int) (ws.map mkS) (st : Int) = true ↔ SCh l e ws st) := by
  intro ws
  induction ws with
  | nil => exact ⟨fun _ => trivial, fun _ => rfl⟩
  | cons w ws ih =>
    intro st
    have ef : findIn4 (mkS l) (mkS w) (st : Int) (e : Int) = (match occurrences (mkS l) (mkS w) st e 1 with | k :: _ => (k : Int) | [] => -1) := by
      unfold findIn4
      rw [fromIndex_nat, fromIndex_nat, mkS_len, Nat.min_eq_left he]
      all_goals rfl
    rcases occ_head_hi (mkS l) (mkS w) st e 1 (Nat.le_refl _) with ⟨h0, hn⟩ | ⟨i, r, h0, h1, h2, h3⟩
    · rw [h0] at ef
      have eM : ellMid (mkS l) (e : Int) ((w :: ws).map mkS) (st : Int) = false := if_pos (by rw [ef]; decide)
      exact ⟨fun h => absurd (eM.symm.trans h) Bool.false_ne_true, fun h => h.elim fun p q => absurd ((at_iff he).mpr ⟨q.2.1, q.2.2.1⟩) (hn p q.1)⟩
    · rw [h0] at ef
      have eM : ellMid (mkS l) (e : Int) ((w :: ws).map mkS) (st : Int) = ellMid (mkS l) (e : Int) (ws.map mkS) ((i + w.length : Nat) : Int) := by
        refine (if_neg (by rw [ef]; exact Int.not_lt.mpr (Int.natCast_nonneg _))).trans ?_
        rw [ef, mkS_len]; rfl
      rw [eM, ih]
      have h45 := (at_iff he).mp h2
      exact ⟨fun h => ⟨i, h1, h45.1, h45.2, h⟩, fun h => h.elim fun p q => sch_mono (Nat.add_le_add_right (Nat.le_of_not_lt fun z => h3 p q.1 z ((at_iff he).mpr ⟨q.2.1, q.2.2.1⟩)) _) q.2.2.2⟩
theorem starts_iff (l w : List Nat) : Txt.startswith (mkS l) (mkS w) = true ↔ w <+: l := by
  unfold Txt.startswith
  rw [StrLaws.subAt_eq, mkS_len, mkS_len]
  show (_ && (((l.drop 0).take w.length == w))) = true ↔ _
  rw [Bool.and_eq_true, beq_iff_eq, take_pre, List.drop_zero, decide_eq_true_eq]
  constructor
  · exact fun h => h.2
  · exact fun h => ⟨(Nat.zero_add _).symm ▸ h.length_le, h⟩
theorem ends_iff (l w : List Nat) : Txt.endswith (mkS l) (mkS w) = true ↔ w.length ≤ l.length ∧ w <+: l.drop (l.length - w.length) := by
  unfold Txt.endswith
  rw [StrLaws.subAt_eq, mkS_len, mkS_len]
  show (_ && (((l.drop (l.length - w.length)).take w.length == w))) = true ↔ _
  rw [Bool.and_eq_true, beq_iff_eq, take_pre, decide_eq_true_eq]
  constructor
  · exact fun h => ⟨Nat.le_trans (Nat.le_add_left _ _) h.1, h.2⟩
  · exact fun h => ⟨(Nat.zero_add _).symm ▸ h.1, h.2⟩
theorem ellRes_iff (l w0 wl : List Nat) (ws : List (List Nat)) : ellRes (mkS l) (mkS w0) (ws.map mkS) (mkS wl) = true ↔ w0 <+: l ∧ wl.length ≤ l.length ∧ wl <+: l.drop (l.length - wl.length) ∧ w0.length ≤ l.length - wl.length ∧ SCh l (l.length - wl.length) ws w0.length := by
  unfold ellRes
  rw [mkS_len, mkS_len, mkS_len]
  by_cases hwl : wl.length ≤ l.length
  · have e : (l.length : Int) - (wl.length : Int) = ((l.length - wl.length : Nat) : Int) := (Int.ofNat_sub hwl).symm
    rw [e]
    by_cases h0 : w0.length = 0
    · have h00 : w0 = [] := List.length_eq_zero_iff.mp h0
      subst h00
      rw [if_neg (by simp)]
      rw [Bool.and_eq_true, Bool.and_eq_true, ends_iff, show mkS [] :: ws.map mkS = ([] :: ws).map mkS from rfl, show (0 : Int) = ((0 : Nat) : Int) from rfl, ellMid_iff (Nat.sub_le _ _)]
      simp only [Bool.not_eq_true', decide_eq_false_iff_not]
      constructor
      · exact fun h => ⟨List.nil_prefix, h.1.1, h.1.2, Nat.zero_le _, h.2.2.elim fun p q => sch_mono (Nat.zero_le _) q.2.2.2⟩
      · exact fun h => ⟨⟨h.2.1, h.2.2.1⟩, Int.not_lt.mpr (Int.natCast_nonneg _), 0, Nat.le_refl _, Nat.zero_le _, List.nil_prefix, h.2.2.2.2⟩
    · rw [if_pos h0, Bool.and_eq_true, Bool.and_eq_true, Bool.and_eq_true, ends_iff, starts_iff, ellMid_iff (Nat.sub_le _ _)]
      simp only [Bool.not_eq_true', decide_eq_false_iff_not]
      constructor
      · exact fun h => ⟨h.1, h.2.1.1, h.2.1.2, Int.ofNat_le.mp (Int.not_lt.mp h.2.2.1), h.2.2.2⟩
      · exact fun h => ⟨h.1, ⟨h.2.1, h.2.2.1⟩, Int.not_lt.mpr (Int.ofNat_le.mpr h.2.2.2.1), h.2.2.2.2⟩
  · constructor
    · intro h
      exfalso
      apply hwl
      have : Txt.endswith (mkS l) (mkS wl) = true := by
        split at h
        · simp only [Bool.and_eq_true] at h; exact h.2.1
        · simp only [Bool.and_eq_true] at h; exact h.1
      exact ((ends_iff _ _).mp this).1
    · rintro ⟨_, a, _⟩
      exact absurd a hwl
/-- what the search in the shown page answers is what the reckoning says -/
theorem ell_takes (r0 wl flat : List Int) (mids : List (List Int)) (h0 : ∀ x ∈ r0, 0 ≤ x) (hm : ∀ w ∈ mids, w ≠ [] ∧ ∀ x ∈ w, 0 ≤ x) (hl : wl ≠ [] ∧ ∀ x ∈ wl, 0 ≤ x) :
    ellRes (mkS (enc flat)) (mkS (enc r0)) (mids.map fun r => mkS (enc r)) (mkS (enc wl)) = lawTakes (r0 :: (mids ++ [wl])) flat := by
  rw [Bool.eq_iff_iff, takes_many, show (mids.map fun r => mkS (enc r)) = (mids.map enc).map mkS from by simp, ellRes_iff]
  have hp0 : r0 <+: flat → pos flat r0.length = (enc r0).length := fun h => by
    have := pos_add (flat := flat) (row := r0) (i := 0) (by simpa using h)
    simpa [pos_zero] using this
  have hlast : wl.length ≤ flat.length → wl <+: flat.drop (flat.length - wl.length) → pos flat (flat.length - wl.length) + (enc wl).length = (enc flat).length := fun h1 h2 => by
    rw [← pos_add h2, Nat.sub_add_cancel h1, pos_all]
  constructor
  · rintro ⟨a, b, c, d, f⟩
    have a' := pre_enc h0 a
    obtain ⟨i, hi, hpi, hci⟩ := occ_enc hl.1 hl.2 c
    have hli : i + wl.length ≤ flat.length := by
      rw [Nat.add_comm]
      exact (Nat.le_sub_iff_add_le hi).mp (by rw [← List.length_drop]; exact hci.length_le)
    have h8 : pos flat (i + wl.length) = pos flat flat.length := by rw [pos_add hci, pos_all, ← hpi, Nat.sub_add_cancel b]
    have h9 : i + wl.length = flat.length := Nat.le_antisymm hli ((pos_le_iff (Nat.le_refl _) hli).mp (Nat.le_of_eq h8.symm))
    have hw : wl.length ≤ flat.length := h9 ▸ Nat.le_add_left _ _
    have hie : i = flat.length - wl.length := Nat.eq_sub_of_add_eq h9
    subst hie
    rw [hpi] at d f
    rw [← hp0 a'] at d f
    have hr0 := a'.length_le
    exact ⟨a', hw, hci, (pos_le_iff hr0 (Nat.sub_le _ _)).mp d, (sch_tch (Nat.sub_le _ _) hm hr0).mp f⟩
  · rintro ⟨a, b, c, d, f⟩
    have e1 := hlast b c
    have e2 : (enc flat).length - (enc wl).length = pos flat (flat.length - wl.length) := by rw [← e1, Nat.add_sub_cancel]
    have hr0 := a.length_le
    refine ⟨pre_enc' a, e1 ▸ Nat.le_add_left _ _, ?_, ?_, ?_⟩
    · rw [e2]; exact occ_enc' c
    · rw [e2, ← hp0 a]; exact (pos_le_iff hr0 (Nat.sub_le _ _)).mpr d
    · rw [e2, ← hp0 a]; exact (sch_tch (Nat.sub_le _ _) hm hr0).mpr f
theorem enc_inj {a b : List Int} (ha : ∀ x ∈ a, 0 ≤ x) (h : enc a = enc b) : a = b := by
  have h1 : a <+: b := pre_enc ha (by rw [h]; exact List.prefix_refl _)
  obtain ⟨t, rfl⟩ := h1
  cases t with
  | nil => exact (List.append_nil _).symm
  | cons x t =>
    rw [enc_append, enc_cons] at h
    have e := (List.append_eq_nil_iff.mp (List.self_eq_append_right.mp h)).1
    have hx := encT_len x
    rw [e] at hx
    exact absurd hx (Nat.lt_irrefl 0)
theorem one_takes (r flat : List Int) (hr : ∀ x ∈ r, 0 ≤ x) : (mkS (enc r) == mkS (enc flat)) = lawTakes [r] flat := by
  rw [takes_one, Bool.eq_iff_iff, beq_iff_eq, decide_eq_true_eq]
  constructor
  · intro h
    refine enc_inj hr ?_
    have := congrArg (fun s : PySem.Str => s.cps.toList) h
    simpa [mkS] using this
  · rintro rfl; rfl
end

section
open PySem PySem.Builtin PySem.Builtin.Str PySem.StrLaws
noncomputable def joinL (sep : List Nat) : List (List Nat) → List Nat
  | [] => []
  | [x] => x
  | x :: y :: r => x ++ (sep ++ joinL sep (y :: r))
theorem join_mk (sep : List Nat) : ∀ parts : List (List Nat), PySem.Str.join (mkS sep) (parts.map mkS) = mkS (joinL sep parts) := by
  intro parts
  induction parts with
  | nil => rfl
  | cons x r ih =>
    cases r with
    | nil => rfl
    | cons y r =>
      show mkS x ++ mkS sep ++ PySem.Str.join (mkS sep) ((y :: r).map mkS) = _
      rw [ih]
      apply Str.ext'
      show x.toArray ++ sep.toArray ++ (joinL sep (y :: r)).toArray = (x ++ (sep ++ joinL sep (y :: r))).toArray
      rw [List.append_toArray, List.append_toArray, List.append_assoc]
theorem join_mk' (sep : List Nat) (parts : List (List Nat)) : Txt.join (mkS sep) (parts.map mkS) = mkS (joinL sep parts) := by
  unfold Txt.join; rw [glued_eq_join, join_mk]
theorem joinL_snoc (sep r : List Nat) : ∀ (p : List Nat) (ps : List (List Nat)), joinL sep ((p :: ps) ++ [r]) = joinL sep (p :: ps) ++ (sep ++ r) := by
  intro p ps
  induction ps generalizing p with
  | nil => rfl
  | cons q ps ih =>
    show p ++ (sep ++ joinL sep ((q :: ps) ++ [r])) = p ++ (sep ++ joinL sep (q :: ps)) ++ (sep ++ r)
    rw [ih, List.append_assoc, List.append_assoc]
theorem ddd : PySem.Str.ofString "..." = mkS [46, 46, 46] := by decide +kernel
theorem dot1 : PySem.Str.ofString "." = mkS [46] := by decide +kernel
theorem nl1 : PySem.Str.ofString "\n" = mkS [10] := by decide +kernel
theorem colon1 : PySem.Str.ofString ":" = mkS [58] := by decide +kernel
theorem emp1 : PySem.Str.ofString "" = mkS [] := by decide +kernel
theorem no_at {a : Nat} {pre p rest : List Nat} (ha : a = pre.length) (hp : 46 ∉ p) {k : Nat} (h1 : a ≤ k) (h2 : k < a + p.length) {w : List Nat} (h : (46 :: w) <+: (pre ++ (p ++ rest)).drop k) : False := by
  subst ha
  have h3 : k - pre.length < p.length := Nat.sub_lt_left_of_lt_add h1 h2
  rw [List.drop_append, List.drop_eq_nil_of_le h1, List.nil_append, List.drop_append_of_le_length (Nat.le_of_lt h3)] at h
  rw [List.drop_eq_getElem_cons h3, List.cons_append] at h
  have := (List.cons_prefix_cons.mp h).1
  exact hp (this ▸ List.getElem_mem h3)
theorem sub_mid (pre p rest : List Nat) : strSub (mkS (pre ++ (p ++ rest))) pre.length (pre.length + p.length) = mkS p := by
  apply Str.ext'
  apply Array.toList_inj.mp
  rw [strSub_toList]
  show ((pre ++ (p ++ rest)).drop pre.length).take (pre.length + p.length - pre.length) = p
  rw [List.drop_left, Nat.add_sub_cancel_left, List.take_left]
theorem split_parts : ∀ (ps : List (List Nat)) (p pre : List Nat) (cuts : List Nat) (f : Nat), (∀ q ∈ p :: ps, 46 ∉ q) → ChainG (mkS (pre ++ joinL [46, 46, 46] (p :: ps))) (mkS [46, 46, 46]) (pre ++ joinL [46, 46, 46] (p :: ps)).length pre.length cuts f →
    (∀ k, f ≤ k → ¬ StrLaws.At (mkS (pre ++ joinL [46, 46, 46] (p :: ps))) (mkS [46, 46, 46]) (pre ++ joinL [46, 46, 46] (p :: ps)).length k) → partsFrom (mkS (pre ++ joinL [46, 46, 46] (p :: ps))) 3 pre.length cuts = (p :: ps).map mkS := by
  intro ps
  induction ps with
  | nil =>
    intro p pre cuts f hp hc hn
    have e : joinL [46, 46, 46] [p] = p ++ [] := (List.append_nil p).symm
    rw [e] at hc hn ⊢
    cases cuts with
    | nil =>
      show [strSub (mkS (pre ++ (p ++ []))) pre.length (mkS (pre ++ (p ++ []))).length] = _
      have e5 : (mkS (pre ++ (p ++ []))).length = pre.length + p.length := by rw [mkS_len, List.append_nil, List.length_append]
      rw [e5, sub_mid]
      rfl
    | cons c r =>
      exfalso
      have h3 := (at_iff (Nat.le_refl _)).mp hc.2.1
      have h4 := h3.1
      rw [List.length_append, List.length_append] at h4
      exact no_at (rest := []) rfl (hp p (.head _)) hc.1 (Nat.lt_of_lt_of_le (Nat.lt_add_of_pos_right (Nat.zero_lt_succ 2)) h4) h3.2
  | cons q ps ih =>
    intro p pre cuts f hp hc hn
    have e : joinL [46, 46, 46] (p :: q :: ps) = p ++ ([46, 46, 46] ++ joinL [46, 46, 46] (q :: ps)) := rfl
    rw [e] at hc hn ⊢
    have hat : StrLaws.At (mkS (pre ++ (p ++ ([46, 46, 46] ++ joinL [46, 46, 46] (q :: ps))))) (mkS [46, 46, 46]) (pre ++ (p ++ ([46, 46, 46] ++ joinL [46, 46, 46] (q :: ps)))).length (pre.length + p.length) := by
      refine (at_iff (Nat.le_refl _)).mpr ⟨?_, ?_⟩
      · rw [List.length_append, List.length_append, List.length_append, ← Nat.add_assoc, ← Nat.add_assoc]; exact Nat.le_add_right _ _
      · rw [← List.append_assoc pre p, ← List.length_append, List.drop_left]
        exact List.prefix_append _ _
    cases cuts with
    | nil =>
      exfalso
      have hf : f = pre.length := hc
      exact hn _ (hf ▸ Nat.le_add_right _ _) hat
    | cons c r =>
      obtain ⟨h1, h2, h3, h4⟩ := hc
      have hcc : c = pre.length + p.length := by
        by_cases a1 : c < pre.length + p.length
        · exact (no_at rfl (hp p (.head _)) h1 a1 ((at_iff (Nat.le_refl _)).mp h2).2).elim
        · by_cases a2 : pre.length + p.length < c
          · exact absurd hat (h3 _ (Nat.le_add_right _ _) a2)
          · exact Nat.le_antisymm (Nat.le_of_not_lt a2) (Nat.le_of_not_lt a1)
      subst hcc
      show strSub _ _ _ :: partsFrom _ 3 (pre.length + p.length + 3) r = mkS p :: (q :: ps).map mkS
      rw [sub_mid]
      have e2 : pre ++ (p ++ ([46, 46, 46] ++ joinL [46, 46, 46] (q :: ps))) = (pre ++ p ++ [46, 46, 46]) ++ joinL [46, 46, 46] (q :: ps) := by rw [List.append_assoc, List.append_assoc]
      have e3 : pre.length + p.length + 3 = (pre ++ p ++ [46, 46, 46]).length := by rw [List.length_append, List.length_append]; rfl
      have e4 : pre.length + p.length + (mkS [46, 46, 46]).length = (pre ++ p ++ [46, 46, 46]).length := e3
      rw [e2] at h4 hn ⊢
      rw [e4] at h4
      rw [e3, ih q (pre ++ p ++ [46, 46, 46]) r f (fun z hz => hp z (.tail _ hz)) h4 hn]
theorem kind_le (x : PySem.Str) : 1 ≤ Str.strKind x := by unfold Str.strKind; split <;> (try split) <;> decide
theorem split_join (p q : List Nat) (ps : List (List Nat)) (hp : ∀ z ∈ p :: q :: ps, 46 ∉ z) : Txt.split (mkS (joinL [46, 46, 46] (p :: q :: ps))) (mkS [46, 46, 46]) = (p :: q :: ps).map mkS ∧ occurrences (mkS (joinL [46, 46, 46] (p :: q :: ps))) (mkS [46, 46, 46]) 0 (mkS (joinL [46, 46, 46] (p :: q :: ps))).length 1 ≠ [] := by
  have e : joinL [46, 46, 46] (p :: q :: ps) = p ++ ([46, 46, 46] ++ joinL [46, 46, 46] (q :: ps)) := rfl
  have hat : StrLaws.At (mkS (joinL [46, 46, 46] (p :: q :: ps))) (mkS [46, 46, 46]) (joinL [46, 46, 46] (p :: q :: ps)).length p.length := by
    rw [e]
    refine (at_iff (Nat.le_refl _)).mpr ⟨by rw [List.length_append, List.length_append, ← Nat.add_assoc]; exact Nat.le_add_right _ _, ?_⟩
    rw [List.drop_left]
    exact List.prefix_append _ _
  constructor
  · unfold Txt.split
    rw [if_neg (by
      rw [Bool.or_eq_true, decide_eq_true_eq, decide_eq_true_eq, mkS_len, mkS_len]
      have h1 : Str.strKind (mkS [46, 46, 46]) = 1 := by decide +kernel
      have h2 := kind_le (mkS (joinL [46, 46, 46] (p :: q :: ps)))
      have h3 := hat.1
      rw [mkS_len] at h3
      (first | lia | omega))]
    have ht := occ_tight (mkS (joinL [46, 46, 46] (p :: q :: ps))) (mkS [46, 46, 46]) (by decide)
    rw [mkS_len] at ht ⊢
    generalize hcu : occurrences (mkS (joinL [46, 46, 46] (p :: q :: ps))) (mkS [46, 46, 46]) 0 (joinL [46, 46, 46] (p :: q :: ps)).length ((joinL [46, 46, 46] (p :: q :: ps)).length + 1) = cuts at ht ⊢
    obtain ⟨f, h1, h2⟩ := ht
    rw [if_neg (by
      rw [List.isEmpty_iff]
      rintro rfl
      have hf : f = 0 := h1
      exact h2 _ (hf ▸ Nat.zero_le _) hat), partsBetween_eq]
    exact split_parts (q :: ps) p [] cuts f hp h1 h2
  · rcases occ_head (mkS (joinL [46, 46, 46] (p :: q :: ps))) (mkS [46, 46, 46]) 1 (Nat.le_refl _) with ⟨_, hn⟩ | ⟨i, r, h0, _⟩
    · rw [mkS_len] at hn
      exact absurd hat (hn _)
    · rw [h0]; exact List.cons_ne_nil _ _
theorem occ_nil {l w : List Nat} {c : Nat} (h : c ∉ l) : occurrences (mkS l) (mkS (c :: w)) 0 (mkS l).length 1 = [] := by
  rcases occ_head (mkS l) (mkS (c :: w)) 1 (Nat.le_refl _) with ⟨h0, _⟩ | ⟨i, r, _, h1, _⟩
  · exact h0
  · exfalso
    rw [mkS_len] at h1
    have h2 := ((at_iff (Nat.le_refl _)).mp h1).2
    exact h (List.mem_of_mem_drop (h2.subset (.head _)))
theorem find_nil {l w : List Nat} {c : Nat} (h : c ∉ l) : Txt.find (mkS l) (mkS (c :: w)) = -1 := by
  unfold Txt.find; rw [occ_nil h]
theorem findIn4_nil {l w : List Nat} {c : Nat} (h : c ∉ l) : findIn4 (mkS l) (mkS (c :: w)) 0 ((mkS l).length : Int) = -1 := by
  unfold findIn4
  rw [fromIndex_nat, show fromIndex (mkS l).length 0 = 0 from rfl, Nat.min_self, occ_nil h]
theorem slice_some (x : PySem.Str) (i j : Int) : Txt.slice x (some i) (some j) = sliceText x (some i) (some j) := rfl
theorem strip_one {r : List Nat} (h : 46 ∉ r) : stripDet (mkS r) = mkS r := by
  have e : rfindIn4 (mkS r) (mkS [46]) 0 ((mkS r).length : Int) = -1 := by
    unfold rfindIn4
    rw [fromIndex_nat, show fromIndex (mkS r).length 0 = 0 from rfl, Nat.min_self]
    rcases last_spec (mkS r) (mkS [46]) with ⟨h0, _⟩ | ⟨i, _, h1, _⟩
    · rw [h0]
    · exfalso
      rw [mkS_len] at h1
      have h2 := ((at_iff (Nat.le_refl _)).mp h1).2
      exact h (List.mem_of_mem_drop (h2.subset (.head _)))
  unfold stripDet
  rw [dot1, e, slice_some, show (-1 : Int) + 1 = 0 from rfl, sliceText_plain ⟨Int.le_refl _, Int.natCast_nonneg _, by simp [PySem.Str.length]⟩]
  simp [PySem.Str.length]
theorem strip_two {a r : List Nat} (h : 46 ∉ r) : stripDet (mkS (a ++ 46 :: r)) = mkS r := by
  have e : rfindIn4 (mkS (a ++ 46 :: r)) (mkS [46]) 0 ((mkS (a ++ 46 :: r)).length : Int) = (a.length : Int) := by
    unfold rfindIn4
    rw [fromIndex_nat, show fromIndex (mkS (a ++ 46 :: r)).length 0 = 0 from rfl, Nat.min_self]
    have hat : StrLaws.At (mkS (a ++ 46 :: r)) (mkS [46]) (a ++ 46 :: r).length a.length := by
      refine (at_iff (Nat.le_refl _)).mpr ⟨by simp, ?_⟩
      rw [List.drop_left]
      exact ⟨r, rfl⟩
    rcases last_spec (mkS (a ++ 46 :: r)) (mkS [46]) with ⟨_, h1⟩ | ⟨i, h0, h1, h2⟩
    · rw [mkS_len] at h1; exact absurd hat (h1 _)
    · rw [h0]
      rw [mkS_len] at h1 h2
      have h3 : ¬ i < a.length := fun q => h2 _ q hat
      have h4 : ¬ a.length < i := fun q => by
        have h5 := ((at_iff (Nat.le_refl _)).mp h1).2
        rw [List.drop_append, List.drop_eq_nil_of_le (Nat.le_of_lt q), List.nil_append] at h5
        obtain ⟨k, hk⟩ : ∃ k, i - a.length = k + 1 := ⟨i - a.length - 1, (Nat.sub_add_cancel (Nat.sub_pos_of_lt q)).symm⟩
        rw [hk, List.drop_succ_cons] at h5
        exact h (List.mem_of_mem_drop (h5.subset (.head _)))
      have : i = a.length := Nat.le_antisymm (Nat.le_of_not_lt h4) (Nat.le_of_not_lt h3)
      rw [this]
  unfold stripDet
  rw [dot1, e, slice_some, mkS_len, sliceText_plain ⟨Int.le_add_one (Int.natCast_nonneg _), Int.ofNat_le.mpr (show a.length + 1 ≤ _ by rw [List.length_append]; exact Nat.add_le_add_left (Nat.succ_le_succ (Nat.zero_le _)) _), by simp⟩]
  apply Str.ext'
  have e1 : ((a.length : Int) + 1).toNat = a.length + 1 := rfl
  show (((a ++ 46 :: r).drop _).take _).toArray = r.toArray
  rw [e1, List.drop_append, List.drop_eq_nil_of_le (Nat.le_succ _), List.nil_append, Nat.add_sub_cancel_left]
  rw [List.take_of_length_le (by simp; (first | lia | omega))]
  rfl
theorem cut_two (a r : List Nat) : Txt.slice (mkS (a ++ 46 :: r)) none (some (-((mkS r).length : Int) - 1)) = mkS a := by
  show sliceText _ _ _ = _
  rw [sliceText_to_neg (by (first | lia | omega)) (by simp [PySem.Str.length]; (first | lia | omega))]
  apply Str.ext'
  show (((a ++ 46 :: r).drop 0).take _).toArray = a.toArray
  rw [List.drop_zero, show (-((mkS r).length : Int) - 1 + ((mkS (a ++ 46 :: r)).length : Int) - 0).toNat = a.length by simp [PySem.Str.length]; (first | lia | omega), List.take_left]
theorem cut_one (r : List Nat) : Txt.slice (mkS r) none (some (-((mkS r).length : Int) - 1)) = mkS [] := by
  have e : strSliceIndices none (some (-((mkS r).length : Int) - 1)) 1 (mkS r).length = [] := by
    generalize (mkS r).length = n
    show sliceRange 0 (max 0 (min (if -(n : Int) - 1 < 0 then -(n : Int) - 1 + n else -(n : Int) - 1) n)) 1 = []
    rw [show -(n : Int) - 1 + n = -1 by (first | lia | omega), if_pos (by (first | lia | omega)), Int.min_eq_left (Int.le_trans (by decide) (Int.natCast_nonneg n))]
    rfl
  unfold Txt.slice
  rw [e]
  split
  · rename_i q
    simp [mkS_len] at q
    have : r = [] := by first | exact q | exact q.symm | exact List.length_eq_zero_iff.mp q.symm | exact List.length_eq_zero_iff.mp q
    rw [this]
  · rfl
end

section
open PySem PySem.W PySem.Spec PySem.Calls PyProof.Rows PyProof.V PySem.SeqAt
/-- a row of words as signs -/
noncomputable def rowL (r : List (List Nat)) : List Nat := r.flatMap fun ds => 32 :: wordL ds
theorem joinL_nil : ∀ ps : List (List Nat), joinL [] ps = ps.flatten
  | [] => rfl
  | [x] => by simp [joinL]
  | x :: y :: r => by
    show x ++ ([] ++ joinL [] (y :: r)) = _
    rw [joinL_nil (y :: r)]; simp
theorem blank_mk : blank = mkS [32] := by decide +kernel
theorem pair_mk (ds : List Nat) : pairText (blank, wordStr ds) = mkS (32 :: wordL ds) := by
  show Txt.join (Str.ofString "") [blank, wordStr ds] = _
  rw [emp1, blank_mk, show wordStr ds = mkS (wordL ds) from rfl, show [mkS [32], mkS (wordL ds)] = [[32], wordL ds].map mkS from rfl, join_mk', joinL_nil]
  simp
theorem rowText_mk (r : List (List Nat)) : rowText r = mkS (rowL r) := by
  unfold rowText partText
  rw [List.map_map, emp1, show (r.map (pairText ∘ fun ds => (blank, wordStr ds))) = (r.map fun ds => 32 :: wordL ds).map mkS from by
    rw [List.map_map]; exact List.map_congr_left fun ds _ => pair_mk ds, join_mk', joinL_nil]
  rfl
theorem pageText_mk (rs : List (List (List Nat))) : pageText rs = mkS (joinL [46] (rs.map rowL)) := by
  unfold pageText
  rw [dot1, show rs.map rowText = (rs.map rowL).map mkS from by rw [List.map_map]; exact List.map_congr_left fun r _ => rowText_mk r, join_mk']
theorem rowL_signs {r : List (List Nat)} {c : Nat} (h : c ∈ rowL r) : c = 32 ∨ c = 44 ∨ 64 ≤ c := by
  unfold rowL at h
  obtain ⟨ds, _, h⟩ := List.mem_flatMap.mp h
  rcases List.mem_cons.mp h with rfl | h
  · exact .inl rfl
  · unfold wordL at h
    rcases List.mem_append.mp h with h | h
    · obtain ⟨d, _, rfl⟩ := List.mem_map.mp h
      exact .inr (.inr (by (first | lia | omega)))
    · exact .inr (.inl (List.mem_singleton.mp h))
theorem rowL_len {r : List (List Nat)} (h : ∀ ds ∈ r, ds.length ≤ 6) : (rowL r).length ≤ 8 * r.length := by
  induction r with
  | nil => simp [rowL]
  | cons a r ih =>
    have h1 := ih fun ds hd => h ds (.tail _ hd)
    have h2 := h a (.head _)
    unfold rowL at h1 ⊢
    rw [List.flatMap_cons, List.length_append]
    simp only [List.length_cons, wordL, List.length_append, List.length_map, List.length_nil] at h1 ⊢
    (first | lia | omega)
theorem rowL_nil {r : List (List Nat)} (h : rowL r = []) : r = [] := by
  cases r with
  | nil => rfl
  | cons a r => simp [rowL] at h
theorem joinL_signs {sep : List Nat} {c : Nat} : ∀ {ps : List (List Nat)}, c ∈ joinL sep ps → c ∈ sep ∨ ∃ p ∈ ps, c ∈ p
  | [], h => by cases h
  | [x], h => .inr ⟨x, .head _, h⟩
  | x :: y :: r, h => by
    rcases List.mem_append.mp (show c ∈ x ++ (sep ++ joinL sep (y :: r)) from h) with h | h
    · exact .inr ⟨x, .head _, h⟩
    rcases List.mem_append.mp h with h | h
    · exact .inl h
    · rcases joinL_signs h with h | ⟨p, hp, h⟩
      · exact .inl h
      · exact .inr ⟨p, .tail _ hp, h⟩
theorem joinL_len {sep : List Nat} {B : Nat} : ∀ {ps : List (List Nat)}, (∀ p ∈ ps, p.length ≤ B) → (joinL sep ps).length ≤ ps.length * (B + sep.length)
  | [], _ => by simp [joinL]
  | [x], h => by
    have := h x (.head _)
    show x.length ≤ _
    simp only [List.length_cons, List.length_nil]; (first | lia | omega)
  | x :: y :: r, h => by
    have h1 := joinL_len (sep := sep) (ps := y :: r) fun p hp => h p (.tail _ hp)
    have h2 := h x (.head _)
    show (x ++ (sep ++ joinL sep (y :: r))).length ≤ _
    rw [List.length_append, List.length_append]
    rw [List.length_cons (a := x), Nat.succ_mul]
    (first | lia | omega)
theorem all_ne {rs : List (List (List Nat))} (ok : RowsOk rs) {r : List (List Nat)} (hr : rs[0]? = some r) (hn : r ≠ []) : ∀ r ∈ rs, r ≠ [] := by
  intro q hq
  obtain ⟨i, hi⟩ := List.getElem?_of_mem hq
  cases i with
  | zero => rw [hr] at hi; cases hi; exact hn
  | succ i => exact ok.some _ q (Nat.succ_pos _) hi
theorem page_len {rs : List (List (List Nat))} (ok : RowsOk rs) (k : Nat) : (pageText (rs.take k)).length ≤ 100000 := by
  rw [pageText_mk, mkS_len]
  have h1 := joinL_len (sep := [46]) (B := 800) (ps := (rs.take k).map rowL) (fun p hp => by
    obtain ⟨r, hr, rfl⟩ := List.mem_map.mp hp
    have hr' := List.mem_of_mem_take hr
    have a := rowL_len fun ds hd => (ok.digs r hr' ds hd).1
    have b := ok.fit.2 r hr'
    (first | lia | omega))
  have h2 := ok.fit.1
  simp only [List.length_map, List.length_take, List.length_cons, List.length_nil] at h1
  have h3 : min k rs.length * (800 + (0 + 1)) ≤ 100 * 801 := Nat.mul_le_mul (by (first | lia | omega)) (by (first | lia | omega))
  (first | lia | omega)
theorem page_last {rs : List (List (List Nat))} (ok : RowsOk rs) {k : Nat} (hk : k ≤ rs.length) (ht : pageText (rs.take k) ≠ Str.ofString "") : ∃ j r, k = j + 1 ∧ rs[j]? = some r ∧ r ≠ [] ∧ stripDet (pageText (rs.take k)) = rowText r ∧
    Txt.slice (pageText (rs.take k)) none (some (-((rowText r).length : Int) - 1)) = pageText (rs.take j) ∧ (pageText (rs.take k)).length ≤ 100000 ∧ (rowText r).length ≤ 2000 ∧ Txt.find (pageText (rs.take k)) (Str.ofString "\n") = -1 ∧ findIn4 (pageText (rs.take k)) (Str.ofString ":") 0 ((pageText (rs.take k)).length : Int) = -1 := by
  have hlen := page_len ok k
  have hno : ∀ c, c ≠ 32 → c ≠ 44 → c < 64 → c ≠ 46 → c ∉ joinL [46] ((rs.take k).map rowL) := fun c a1 a2 a3 a4 h => by
    rcases joinL_signs h with h | ⟨p, hp, h⟩
    · exact a4 (List.mem_singleton.mp h)
    · obtain ⟨r, _, rfl⟩ := List.mem_map.mp hp
      rcases rowL_signs h with h | h | h <;> (first | lia | omega)
  have h10 : Txt.find (pageText (rs.take k)) (Str.ofString "\n") = -1 := by
    rw [pageText_mk, nl1]; exact find_nil (hno 10 (by decide) (by decide) (by decide) (by decide))
  have h58 : findIn4 (pageText (rs.take k)) (Str.ofString ":") 0 ((pageText (rs.take k)).length : Int) = -1 := by
    rw [pageText_mk, colon1]; exact findIn4_nil (hno 58 (by decide) (by decide) (by decide) (by decide))
  cases k with
  | zero => exact absurd (by rw [pageText_mk, emp1]; rfl) ht
  | succ j =>
    have hj : j < rs.length := by (first | lia | omega)
    have hr : rs[j]? = some rs[j] := List.getElem?_eq_getElem hj
    have et : rs.take (j + 1) = rs.take j ++ [rs[j]] := List.take_succ_eq_append_getElem hj
    have hm : rs[j] ∈ rs := List.getElem_mem hj
    have h46 : 46 ∉ rowL rs[j] := fun h => by rcases rowL_signs h with h | h | h <;> (first | lia | omega)
    have hl2 : (rowText rs[j]).length ≤ 2000 := by
      rw [rowText_mk, mkS_len]
      have a := rowL_len fun ds hd => (ok.digs _ hm ds hd).1
      have b := ok.fit.2 _ hm
      (first | lia | omega)
    refine ⟨j, rs[j], rfl, hr, ?_, ?_, ?_, hlen, hl2, h10, h58⟩
    · cases j with
      | zero =>
        intro z
        apply ht
        rw [et, z, pageText_mk, emp1]; rfl
      | succ j => exact ok.some _ _ (Nat.succ_pos _) hr
    · rw [pageText_mk, et, List.map_append, rowText_mk]
      cases hz : rs.take j with
      | nil => exact strip_one h46
      | cons p ps =>
        rw [List.map_cons, show ([rs[j]].map rowL) = [rowL rs[j]] from rfl, joinL_snoc]
        exact strip_two h46
    · rw [pageText_mk, pageText_mk, et, List.map_append, rowText_mk]
      cases hz : rs.take j with
      | nil => exact cut_one _
      | cons p ps =>
        rw [List.map_cons, show ([rs[j]].map rowL) = [rowL rs[j]] from rfl, joinL_snoc]
        exact cut_two _ _
theorem filter_ne {rs : List (List (List Nat))} (h : ∀ r ∈ rs, r ≠ []) : rs.filter (fun r => !r.isEmpty) = rs := by
  refine List.filter_eq_self.mpr fun r hr => ?_
  have := h r hr
  cases r with
  | nil => exact absurd rfl this
  | cons => rfl
theorem page_none {rs : List (List (List Nat))} (ok : RowsOk rs) {k : Nat} (hk : k ≤ rs.length) (h0 : k = 0 → ∀ r ∈ rs, r ≠ []) (ht : pageText (rs.take k) = Str.ofString "") : rs.drop k = rs.filter (fun r => !r.isEmpty) := by
  cases k with
  | zero => rw [filter_ne (h0 rfl)]; rfl
  | succ j =>
    cases rs with
    | nil => rfl
    | cons a rs =>
      rw [pageText_mk, emp1, List.take_succ_cons] at ht
      have ht' : joinL [46] ((a :: rs.take j).map rowL) = [] := by
        have := congrArg (fun x : Str => x.cps.toList) ht
        simpa using this
      have hj : rs.take j = [] ∧ a = [] := by
        cases hz : rs.take j with
        | nil =>
          rw [hz] at ht'
          exact ⟨rfl, rowL_nil ht'⟩
        | cons p ps =>
          rw [hz] at ht'
          have := congrArg List.length (show rowL a ++ ([46] ++ joinL [46] ((p :: ps).map rowL)) = [] from ht')
          simp at this
      obtain ⟨h1, rfl⟩ := hj
      have hz : rs.drop j = rs := by
        rcases List.take_eq_nil_iff.mp h1 with q | q
        · rw [q]; rfl
        · rw [q]; simp
      rw [List.drop_succ_cons, hz]
      show rs = rs.filter _
      refine (filter_ne fun r hr => ?_).symm
      obtain ⟨i, hi⟩ := List.getElem?_of_mem hr
      exact ok.some (i + 1) r (Nat.succ_pos _) (by simpa using hi)
end

section
open PySem PySem.W PySem.Spec PySem.Calls PyProof.Rows PyProof.V PySem.SeqAt
section
variable {prog : Program} {w : World} {A : Around} {E : Value → Shared → Prop} {t : Shared} {g : Heap} {C : Addr} {m₂ mg mb : Str → Option Value} {K : Frag} {p : Program} {loose : List Str} {mean : ExcName → Option Value} {env : Env}
theorem gen_ord {y : Str} {c : Nat} {ta : Tok} {p1 p2 pos : Pos} {Q : Value → Shared → Prop} (hgs : ∀ b o, g.get? b = some o → t.heap.get? b = some o) (hns : t.heap.Ns C m₂) (X : K.In g) (T : Top p loose mean mg mb g) (hn : nsIn K mainGlobals "ord" = some none) (hk : env.scope.kind = .function) (hx : env.kindOf "ord" = some .globalImplicit)
    (hg : env.globals = mainGlobals) (hbi : env.builtins = builtinsNs) (hy : env.kindOf y = some .local) (hlo : env.locals = C) (hm : m₂ y = some (.str ⟨#[c]⟩ ta)) (hyd : (y == ("__debug__" : Str)) = false) (hboot : bootBuiltins "ord" = some (.builtin "ord")) (h : ∀ k k', Q (.int c k) { t with toks := k' }) :
    wpAny (model prog w) A (eval (.Call (.Name "ord" p1) [.Name y p2] [] pos) env) Q E t := by
  refine wpAny_Call_NameR ?_
  refine wpAny_Name ?_
  refine ks_loadName_global hk hx (loadGlobal_builtin (by rw [hg]; exact T.g.keeps hgs) (mg_none_of X T.g hn) (by rw [hbi]; exact T.b.keeps hgs) ((T.builtins _ (by decide +kernel)).trans hboot) ?_)
  refine PyProof.Rows.callWith_builtin1 ?_
  refine spliced_more ?_
  refine wpAny_Name ?_ hyd
  refine wpAny_loadName_local hk hy (by rw [hlo]; exact hns) hm ?_
  refine spliced_none ?_
  refine PyProof.Rows.ord_of_one rfl ?_
  exact h _ _
end
section
variable {prog : Program} {w : World} {A : Around} {E : Value → Shared → Prop} {s : Shared} {g : Heap} {L : Addr} {m mg mb : Str → Option Value} {news : List (Addr × Obj)} {K : Frag} {p : Program} {loose : List Str} {mean : ExcName → Option Value} {env : Env}
theorem ints_paired {vs zs : List Value} (x : Paired (fun (v : Value) (r : Value) => ∃ (c : Nat) (u u' : Tok), v = .str ⟨#[c]⟩ u ∧ r = .int c u') vs zs) : ∀ cs : List Nat, vs.length = cs.length → (∀ (j : Nat) (v : Value), vs[j]? = some v → ∃ c u, cs[j]? = some c ∧ v = .str ⟨#[c]⟩ u) → IntsAre zs (cs.map fun c : Nat => (c : Int)) := by
  induction x with
  | nil => intro cs hl _; cases cs with | nil => exact .nil | cons c r => simp at hl
  | @cons v r vs zs hf _ ih =>
    intro cs hl hg
    cases cs with
    | nil => simp at hl
    | cons c0 cr =>
      obtain ⟨c, u, u', rfl, rfl⟩ := hf
      obtain ⟨c1, u1, h1, h2⟩ := hg 0 _ rfl
      simp at h1 h2
      obtain ⟨rfl, _⟩ := h2
      subst h1
      exact .cons _ _ (ih cr (by simpa using hl) fun j v hv => by simpa using hg (j + 1) v (by simpa using hv))
theorem ords_comp {x y : Str} {t : Tok} {px p1 p2 cpos pos : Pos} {iter : Expr} {scope : Scope} {Q : Value → Shared → Prop} (F : Fr g L s.heap m) (N : News g L s.heap news) (X : K.In g) (T : Top p loose mean mg mb g) (hh : A.handled = none)
    (hev : ∀ Q' : Value → Shared → Prop, Q' (.str y t) s → wpAny (model prog w) A (eval iter env) Q' E s) (hsz : y.cps.size ≤ sizeLine)
    (hclos : closureFor scope env = pure []) (hcell : ∀ y ∈ scope.names, y.2 ≠ .cell) (hkind : scope.kind = .function)
    (hnames : ∀ y ∈ scope.names, y.2 = .local → scope.names.lookup y.1 = some .local) (hx : scope.names.lookup x = some .local)
    (hn : nsIn K mainGlobals "ord" = some none) (hxo : ∀ C, (compEnvC scope [] C env).kindOf "ord" = some .globalImplicit) (hxx : ∀ C, (compEnvC scope [] C env).kindOf x = some .local) (hkk : ∀ C, (compEnvC scope [] C env).scope.kind = .function) (hg : env.globals = mainGlobals) (hbi : env.builtins = builtinsNs)
    (hyd : (x == ("__debug__" : Str)) = false) (hboot : bootBuiltins "ord" = some (.builtin "ord"))
    (h : ∀ D h' tk vs n, Fr g L h' m → News g L h' ((D, listOf vs.toArray n) :: news) → (∀ q ∈ news, q.1 ≠ D) → s.heap.get? D = none → IntsAre vs (y.cps.toList.map fun c : Nat => (c : Int)) → Q (.ref D) { s with heap := h', toks := tk })
    (hs : autoParam (∀ x, foldedSetIterable iter env x = pure x) au2._auto_1) :
    wpAny (model prog w) A (eval (.ListComp (.Call (.Name "ord" p1) [.Name x p2] [] cpos) [⟨.Name x px, iter, [], 0⟩] scope pos) env) Q E s := by
  refine wpAny_ListComp_free (cl := []) (fun _ => true) (fun v r => ∃ c u u', v = .str ⟨#[c]⟩ u ∧ r = .int c u') hclos hcell hkind hnames hx (hev _ ?_) hs
  refine wpAny_pyIter_str fun o St W hst => ?_
  have up : ∀ (h' : Heap), (∀ b o', b ∉ [s.heap.objs.size] → (s.heap.push o).get? b = some o' → h'.get? b = some o') → ∀ b o', s.heap.get? b = some o' → h'.get? b = some o' :=
    fun h' hk b o' e => hk b o' (old_not_new e) (Heap.get?_push_of_some _ e)
  refine ⟨s.heap.objs.size, [s.heap.objs.size], [s.heap.objs.size], y.cps.size, SignAt y, St, rfl, W A hh, hsz, hst, ?_, ⟨?_, ?_⟩, ?_⟩
  · intro b hb
    show b < (s.heap.push o).objs.size
    rw [Heap.size_push, List.mem_singleton.mp hb]
    exact Nat.lt_succ_self _
  · intro C i v s₃ m₃ E' _ hP hns hm hk htk
    show wpAny _ _ (pure true) _ _ _
    exact wpAny_pure ⟨rfl, ⟨_, _, rfl, fun b o e => e⟩⟩
  · intro C i v s₃ m₃ E' _ hP _ hns hm hk htk
    obtain ⟨c, u, hc, rfl⟩ := hP
    refine gen_ord (fun b o' e => up _ hk b o' (F.keep b o' e)) hns X T hn (hkk C) (hxo C) hg hbi (hxx C) rfl hm hyd hboot fun k k' => ?_
    exact ⟨⟨c, u, k, rfl, rfl⟩, ⟨_, _, rfl, fun b o e => e⟩⟩
  · intro D h' tk ys vs hD hl hpl hlen hP hF hk
    obtain ⟨n, hD'⟩ := hpl
    have hDs : s.heap.get? D = none := by
      cases e : s.heap.get? D with
      | none => rfl
      | some o' => have := Heap.get?_push_of_some o e; rw [hD] at this; cases this
    have hk' := up _ hk
    have hLD : D ≠ L := by
      rintro rfl
      obtain ⟨oL, es, ep, hLo, r⟩ := F.ns
      rw [hDs] at hLo; cases hLo
    have F' : Fr g L h' m := by
      obtain ⟨oL, es, ep, hLo, r⟩ := F.ns
      exact ⟨⟨oL, es, ep, hk' _ _ hLo, r⟩, fun b o' e => hk' _ _ (F.keep b o' e), F.above⟩
    have hgD : g.get? D = none := by
      cases e : g.get? D with
      | none => rfl
      | some o' => have := F.keep _ _ e; rw [hDs] at this; cases this
    refine h D h' tk ys.toList n F' ?_ ?_ hDs ?_
    · intro q hq
      cases hq with
      | head => exact ⟨by simpa using hD', hLD, hgD⟩
      | tail _ hm => exact ⟨hk' _ _ (N q hm).1, (N q hm).2⟩
    · intro q hq e
      have := (N q hq).1
      rw [e, hDs] at this; cases this
    · rw [List.filter_eq_self.mpr (fun _ _ => rfl)] at hF
      exact ints_paired hF y.cps.toList (by rw [hlen]; simp) fun j v hv => by
        obtain ⟨c, u, hc, rfl⟩ := hP j v hv
        exact ⟨c, u, by simpa using hc, rfl⟩
end
open PySem PySem.W PySem.Spec PySem.Calls PyProof.Rows PyProof.V PySem.SeqAt
noncomputable abbrev iterObj (l : Addr) : Obj := { cls := .type "list_iterator", data := .fields #[.ref l, .int 0 0] }
theorem iter_new {prog : Program} {w : World} {A : Around} {E : Value → Shared → Prop} {s : Shared} {h₀ : Heap} {L l : Addr} {m : Str → Option Value} {news : List (Addr × Obj)} {items : Array Value} {Q : Value → Shared → Prop} (F : Fr h₀ L s.heap m) (N : News h₀ L s.heap news) (hl : s.heap.IsList l items)
    (h : ∀ q h', Fr h₀ L h' m → News h₀ L h' ((q, iterObj l) :: news) → (∀ p ∈ news, p.1 < q) → Q (.ref q) { s with heap := h' }) :
    wpAny (model prog w) A (call (.builtin "iter") [.ref l]) Q E s := by
  refine call_function_entry (by decide +kernel) (by decide +kernel) kdk_entry_iter (kdk_args_iter _) ?_
  unfold Builtin.«iter»
  refine wpAny_bind (m := someArgs "iter" 1 2 _) (wpAny_of_eq (a := [Value.ref l]) (by first | rfl | kernel_rfl!) ?_)
  dsimp only
  refine wpAny_bind (wpAny_pyIter_list hl ?_)
  obtain ⟨hh, g, d, tk, os⟩ := s
  obtain ⟨F', N', l'⟩ := ks_newsPush (s := ⟨hh, g, d, tk, os⟩) (o := iterObj l) F N rfl (Heap.get?_push_at rfl rfl) (fun b o e => Heap.get?_push_of_some _ e)
  exact wpAny_pure ⟨_, rfl, h _ _ F' N' l'⟩
end

section
open PySem PySem.W PySem.Spec PySem.Calls PyProof.Rows PyProof.V PySem.SeqAt
/-- what a reading of numbers takes up: digits that go on, and the last one -/
noncomputable def readItems (r : List (List Nat)) : List (List Int × Int) := r.flatMap fun ds => [([], 32), (ds.map (fun d : Nat => (d : Int)), 44)]
noncomputable def itemSigns (q : List Int × Int) : List Int := q.1.map (64 + ·) ++ [q.2]
noncomputable def itemNum (q : List Int × Int) : Int := horner 0 (q.1 ++ [q.2])
theorem items_nums : ∀ r : List (List Nat), (readItems r).map itemNum = rowNums r
  | [] => rfl
  | ds :: r => by
    have h := items_nums r
    unfold readItems rowNums at h ⊢
    rw [List.flatMap_cons, List.flatMap_cons, List.map_append, h]
    rfl
theorem items_signs (r : List (List Nat)) : ((rowText r).cps.toList.map fun c : Nat => (c : Int)) = (readItems r).flatMap itemSigns := by
  rw [rowText_mk]
  show (rowL r).map _ = _
  unfold rowL readItems
  induction r with
  | nil => rfl
  | cons ds r ih =>
    rw [List.flatMap_cons, List.map_append, ih, List.flatMap_cons, List.flatMap_append]
    congr 1
    simp [itemSigns, wordL]
theorem items_ok {r : List (List Nat)} (h : ∀ ds ∈ r, ds.length ≤ 6 ∧ ∀ d ∈ ds, d < 64) : ∀ q ∈ readItems r, (∀ d ∈ q.1, 0 ≤ d ∧ d < 64) ∧ (0 ≤ q.2 ∧ q.2 < 64) ∧ q.1.length ≤ 8 := by
  intro q hq
  unfold readItems at hq
  obtain ⟨ds, hds, hq⟩ := List.mem_flatMap.mp hq
  obtain ⟨h1, h2⟩ := h ds hds
  simp only [List.mem_cons, List.not_mem_nil, or_false] at hq
  rcases hq with rfl | rfl
  · exact ⟨(fun d hd => nomatch hd), ⟨(by decide : (0 : Int) ≤ 32), (by decide : (32 : Int) < 64)⟩, Nat.zero_le _⟩
  · refine ⟨fun d hd => ?_, ⟨(by decide : (0 : Int) ≤ 44), (by decide : (44 : Int) < 64)⟩, by simp only [List.length_map]; (first | lia | omega)⟩
    obtain ⟨k, hk, rfl⟩ := List.mem_map.mp hd
    have := h2 k hk
    (first | lia | omega)
structure JI (m5 : Str → Option Value) (rest : List (Addr × Obj)) (g : Heap) (TD I D : Addr) (cs : List Int) (its : List (List Int × Int)) (k : Nat) (g' : Heap) (m : Str → Option Value) (news : List (Addr × Obj)) : Prop where
  base : g' = g
  map : m = m5
  vals : ∃ done todo i tvs nT io, its = done ++ todo ∧ todo.length + 1 = k ∧ news = (TD, listOf tvs.toArray nT) :: (I, io) :: rest ∧ ItO io D i ∧ cs.drop i = todo.flatMap itemSigns ∧ IntsAre tvs (done.map itemNum)
open PySem PySem.W PySem.Spec PySem.Calls PyProof.Rows PyProof.V PySem.SeqAt
theorem fr_unset {h₀ h : Heap} {L : Addr} {m : Str → Option Value} {x : Str} {v : Value} (F : Fr h₀ L h (fun y => if y = x then some v else m y)) (e : m x = some v) : Fr h₀ L h m := by
  have : (fun y => if y = x then some v else m y) = m := by
    funext y; by_cases q : y = x
    · rw [if_pos q, q, e]
    · rw [if_neg q]
  rw [this] at F; exact F
open PySem PySem.W PySem.Spec PySem.Calls PyProof.Rows PyProof.V PySem.SeqAt
theorem allLt_ne {d : Addr} : ∀ {l : List (Addr × Obj)}, AllLt d l → ∀ p ∈ l, p.1 ≠ d
  | [], _, p, hp => nomatch hp
  | q :: l, h, p, hp => by
    cases hp with
    | head => exact Nat.ne_of_lt h.1
    | tail _ hm => exact allLt_ne h.2 p hm
theorem news_hide {g h : Heap} {L I : Addr} {led : List (Addr × Obj)} (N : News g L h led) (hn : ∀ q ∈ led, q.1 ≠ I) : News g L (hideAll h [I]) led := fun q hq => ⟨hideAll_get _ (N q hq).1 (by simpa using hn q hq), (N q hq).2⟩
theorem drop_item {cs : List Int} {i : Nat} {q : List Int × Int} {rest : List Int} (h : cs.drop i = itemSigns q ++ rest) : cs.drop (i + q.1.length + 1) = rest := by
  have e : i + q.1.length + 1 = (itemSigns q).length + i := by simp [itemSigns]; (first | lia | omega)
  rw [e, Nat.add_comm, ← List.drop_drop, h]
  simp
open PySem PySem.W PySem.Spec PySem.Calls PyProof.Rows PyProof.V PySem.SeqAt
theorem stop_exc : isSubtype (.type "StopIteration") (.type "BaseException") = pure true := by rw [isSubtype_type]; kernel_rfl
theorem stop_tup : isSubtype (.type ((Manifest.find? "StopIteration").elim "type" fun x => x.metatype)) (.type "tuple") = pure false := by
  rw [show (Manifest.find? "StopIteration").elim "type" (fun x => x.metatype) = "type" from by kernel_rfl, isSubtype_type]; kernel_rfl
theorem stop_boot : bootBuiltins (Str.ofString "StopIteration") = some (.type "StopIteration") := by first | rfl | kernel_rfl
open PySem PySem.W PySem.Spec PySem.Calls PyProof.Rows PyProof.V PySem.SeqAt
section
variable {s : Shared} {h₀ g' h' : Heap} {L L' : Addr} {m m' : Str → Option Value} {hid wr : List Addr} {news : List (Addr × Obj)}
theorem read_in (F : Fr h₀ L s.heap m) (hL : L ∉ hid) (hhid : ∀ b ∈ hid, h₀.get? b = none) : ∃ oL es ep, (hideAll s.heap hid).get? L = some oL ∧ oL.data = .dict es ep ∧ (∀ (sl : Array (Option Value)) h', h'.get? L = some { oL with slots := sl } → Heap.Ns h' L m) ∧ h₀.StaysIn (hideAll s.heap hid) := by
  obtain ⟨oL, es, ep, hLo, hLd, hLk, hLf⟩ := F.ns
  refine ⟨oL, es, ep, hideAll_get _ hLo hL, hLd, fun sl h' e => ⟨_, es, ep, e, hLd, hLk, hLf⟩, fun b o e => hideAll_get _ (F.keep b o e) fun q => ?_⟩
  rw [hhid b q] at e; cases e
theorem read_out (F : Fr h₀ L s.heap m) (hL : L ∉ hid) (hhid : ∀ b ∈ hid, h₀.get? b = none) (T : KtsTurn [L] (hideAll s.heap hid) g') (F' : Fr g' L' h' m') : Fr h₀ L h' m ∧ KeepsBut (L :: hid) s.heap h' := by
  obtain ⟨oL, es, ep, hLg, _, hNs, st⟩ := read_in F hL hhid
  have nL₀ : h₀.get? L = none := kts_self F
  obtain ⟨sl, hs⟩ := T.up hLg
  refine ⟨⟨hNs sl _ (F'.keep _ _ hs), fun b o e => F'.keep b o (T.other b o (st b o e) fun q => ?_), F.above⟩, fun b o hb e => ?_⟩
  · rw [List.mem_singleton.mp q, nL₀] at e; cases e
  · simp only [List.mem_cons, not_or] at hb
    exact F'.keep b o (T.other b o (hideAll_get _ e hb.2) (by simpa using hb.1))
theorem read_keeps {g : Heap} {Lx : Addr} (kb : KeepsBut (L :: hid) s.heap h') (N : News g Lx h' news) (hk : KeptIn news s.heap wr hid) : KeepsBut (L :: wr) s.heap h' := fun b o hb e => by
  simp only [List.mem_cons, not_or] at hb
  by_cases q : b ∈ hid
  · obtain ⟨o', h1, h2⟩ := hk.all b q hb.2
    rw [e] at h2; cases h2
    exact (N _ h1).1
  · exact kb b o (by simp [hb.1, q]) e
end
open PySem PySem.W PySem.Spec PySem.Calls PyProof.Rows PyProof.V PySem.SeqAt
theorem RowsAt.reverse {h : Heap} : ∀ {vs : List Value} {rs : List (List Int)}, RowsAt h vs rs → RowsAt h vs.reverse rs.reverse := fun x => by
  induction x with
  | nil => exact .nil
  | cons l i _ ih =>
    rw [List.reverse_cons, List.reverse_cons]
    exact ih.append (.cons l i .nil)
theorem items_len (r : List (List Nat)) : (readItems r).length = 2 * r.length := by
  unfold readItems
  induction r with
  | nil => rfl
  | cons a r ih => rw [List.flatMap_cons, List.length_append, ih]; simp; (first | lia | omega)
theorem drop_rev {rs : List (List (List Nat))} {j : Nat} {r : List (List Nat)} (h : rs[j]? = some r) : (rs.drop j).reverse = (rs.drop (j + 1)).reverse ++ [r] := by
  obtain ⟨hj, e⟩ := List.getElem?_eq_some_iff.mp h
  rw [List.drop_eq_getElem_cons hj, e, List.reverse_cons]
theorem not_in_lt {news : List (Addr × Obj)} {l : List Addr} {D : Addr} (x : HidIn news l) (h : ∀ p ∈ news, p.1 < D) : D ∉ l := fun hm => by
  obtain ⟨o, ho⟩ := x.mem _ hm
  exact Nat.lt_irrefl _ (h _ ho)
theorem unhold {P : Prop} (h : P) : Hold P := h
end

end

section
open PySem PySem.W PySem.Spec PySem.Calls PyProof.Rows PyProof.V PySem.SeqAt
set_option hygiene false in
local macro_rules | `(tactic| walk_at "execs cons") => `(tactic| (k_here; first | k_gentoks | ((try clear Q9); (try clear Q9); with_reducible refine execs_let ?_; intro Q9)))
set_option hygiene false in
local macro_rules | `(tactic| walk_at "execs cons Assign cons") => `(tactic| (k_here; first | k_gentoks | ((try clear Q9); (try clear Q9); with_reducible refine execs_let ?_; intro Q9)))
local macro_rules | `(tactic| walk_at "call ref") => `(tactic| (k_here; refine hold ?_))
local macro_rules | `(tactic| walk_at "eval ListComp") => `(tactic| (k_here; refine hold ?_))
local macro_rules | `(tactic| walk_at "exec For") => `(tactic| (k_here; refine for_a ?_))
local macro_rules | `(tactic| walk_at "pyIter ref") => `(tactic| (k_here; refine hold ?_))
local macro_rules | `(tactic| k_all) => `(tactic| assumption)

section
open PySem PySem.W PySem.Spec PySem.Calls PyProof.Rows
local macro_rules | `(tactic| walk_at "call builtin:list.append") => `(tactic| (k_here; refine append_K (h := ?_); intro h' F' N'; (try k_sweep)))
local macro_rules | `(tactic| walk_at "subscriptTail Name Slice ref ref") => `(tactic| (k_here; refine hold ?_))
local macro_rules | `(tactic| walk_at "exec While Compare cons nil") => `(tactic| (k_here; refine hold ?_))

theorem law_read {w : World} {A A₀ : Around} {s : Shared} {base h₀ : Heap} {m mg mb mgB mbB : Str → Option Value} {mean meanB : ExcName → Option Value} {cn : Str} {cs : Scope} {a : Addr} {ccd : Value} {cl' : List (Str × Addr)} {L : Addr} {p dp l c dc : Addr} {pt : PT} {mx ws wl sc : Value} {ls : List Value} {nl : Nat} {ps : List Value} {ep : Nat} {hs : Int} {tkd ti : Tok} {ini : Int} {tp1 tp2 : Array Value} {qs : List (Str × Str)} {lsx : List Str} {Q E : Value → Shared → Prop}
    (hh : A.handled = none) (hdp' : A.depth ≤ 340) (hun : A.units ≤ 1400) (hA : A.frames = some [envX cn cs L a ccd cl']) (hke : cs.kind = .function) (B : Below A₀ base [] h₀) (F : Fr h₀ L s.heap m) (X : (hd.heap_1 w.params).In h₀) (T : Top hd.view_39 (looseW hd.view_39 [Str.ofString "_Accumulator"]) mean mg mb h₀) (XB : (hd.heap_1 w.params).In base) (TB : Top hd.view_39 (looseW hd.view_39 [Str.ofString "_Accumulator"]) meanB mgB mbB base) (hL : L ∉ [p, dp, l, c, dc, 161, 168]) (hhid : ∀ b ∈ [p, dp, l, c, dc, 161, 168], h₀.get? b = none)
    (hb : AllBare s.gens) (hp : s.heap.get? p = some (instObj 115 dp)) (hdp : s.heap.get? dp = some (pageDict pt mx ws wl sc (.ref l) (.ref c))) (hl : s.heap.get? l = some (listOf ls.toArray nl)) (hc : s.heap.get? c = some (accObj dc ps.toArray ep)) (hdc : s.heap.get? dc = some (accDict hs tkd (.int ini ti))) (ht1 : s.heap.get? 161 = some (tabObj tp1)) (htp1 : tp1 = #[] ∨ ∃ c' : Addr, tp1 = #[rawInt 144, rawInt 19, .ref c']) (ht2 : s.heap.get? 168 = some (tabObj tp2)) (htp2 : tp2 = #[] ∨ ∃ c' : Addr, tp2 = #[rawInt 147, rawInt 32, .ref c']) (hlx : StrsAre ls lsx) (hpa : PartsAt s.heap ps qs) (hcl : Closing qs) (hi : 0 ≤ ini) (hi2 : ini < 2 ^ 30) (hls : ls.length < 900) (hfit : partLen qs < 2 ^ 20) (hqs : qs.length < 1000) (hw : ((closeLs (lsx, qs, ini)).map (·.length)).sum + (closeLs (lsx, qs, ini)).length ≤ 1048576)
    (rs : List (List (List Nat))) (hrs : closeLs (lsx, qs, ini) = rs.map rowText) (hok : RowsOk rs)
    (hret : ∀ R us h' gs' tk' ls' nl' n' t0, AllBare gs' → Fr h₀ L h' m → KeepsBut [L, l, c, dc, 161, 168] s.heap h' → h'.get? l = some (listOf ls'.toArray nl') → h'.get? c = some (accObj dc #[] n') → h'.get? dc = some (accDict hs tkd (.int 0 t0)) → TabSt h' 161 144 19 → TabSt h' 168 147 32 → StrsAre ls' (closeLs (lsx, qs, ini)) →
      s.heap.get? R = none → h'.IsList R us.toArray → RowsAt h' us ((rs.filter (fun r => !r.isEmpty)).map rowNums) → Q (.ref R) ⟨h', gs', s.drawn, tk', s.os⟩) :
    wpAny (model PySem.Challenge.rw_ty0042_01.row.prog w) A (call (.ref 222) [.ref p]) Q E s := by
  w_top off
  have htext : Txt.join (Str.ofString ".") (closeLs (lsx, qs, ini)) = pageText (rs.take rs.length) := by rw [hrs, List.take_length]; rfl
  refine wpAny_call ?_
  refine' enterQ (binds := [(Str.ofString "page", .ref p)]) [p, dp, l, c, dc, 161, 168] hh hdp' hun hA hke B F X T hL hhid ?k6 ?k7 ?k8 ?k9 ?kB ?_ ?c5 ?c2 ?c3 ?c4
  case k6 => k_is
  case k7 => k_is
  case k8 => decide
  case k9 => exact BindsTo.of_eq rfl
  case kB => exact locs rfl
  case c2 => exact rfl
  case c3 => exact rfl
  case c4 => exact rfl
  case c5 => decide
  refine gen_goal fun G9 hG9 => ?_
  obtain ⟨oL0, es0, ep0, hLg0, hLd0, -, -⟩ := read_in F hL hhid
  refine hG9 ?_
  clear hG9 G9
  have hout := fun (g' h' : Heap) (Lx : Addr) (mx : Str → Option Value) => read_out (g' := g') (h' := h') (L' := Lx) (m' := mx) F hL hhid
  generalize hgg : hideAll s.heap [p, dp, l, c, dc, 161, 168] = g at hLg0 hout ⊢
  intro L' h₁ F' N B' KX T' hg hgn hk1 hL'
  have DG : KtsDicts ([envX cn cs L a ccd cl'].filterMap (·.frame)) g := fun b hb => by
    rw [List.mem_singleton.mp (show b ∈ [L] from hb)]; exact ⟨oL0, es0, ep0, hLg0, hLd0⟩
  clear F X T B hLg0
  try dsimp only
  try k_fold
  try (with_reducible refine wp_letA ?_; intro A9)
  have ne1 : (p : Addr) ≠ dp := ne_tag hp hdp (by with_unfolding_all rfl)
  have ne2 : (p : Addr) ≠ l := ne_tag hp hl (by with_unfolding_all rfl)
  have ne3 : (p : Addr) ≠ c := ne_tag hp hc (by with_unfolding_all rfl)
  have ne4 : (p : Addr) ≠ dc := ne_tag hp hdc (by with_unfolding_all rfl)
  have ne5 : (p : Addr) ≠ 161 := ne_tag hp ht1 (by with_unfolding_all rfl)
  have ne6 : (p : Addr) ≠ 168 := ne_tag hp ht2 (by with_unfolding_all rfl)
  have ne7 : (dp : Addr) ≠ l := ne_tag hdp hl (by with_unfolding_all rfl)
  have ne8 : (dp : Addr) ≠ c := ne_tag hdp hc (by with_unfolding_all rfl)
  have ne9 : (dp : Addr) ≠ dc := ne_tag hdp hdc (by with_unfolding_all rfl)
  have ne10 : (dp : Addr) ≠ 161 := ne_tag hdp ht1 (by with_unfolding_all rfl)
  have ne11 : (dp : Addr) ≠ 168 := ne_tag hdp ht2 (by with_unfolding_all rfl)
  have ne12 : (l : Addr) ≠ c := ne_tag hl hc (by with_unfolding_all rfl)
  have ne13 : (l : Addr) ≠ dc := ne_tag hl hdc (by with_unfolding_all rfl)
  have ne14 : (l : Addr) ≠ 161 := ne_tag hl ht1 (by with_unfolding_all rfl)
  have ne15 : (l : Addr) ≠ 168 := ne_tag hl ht2 (by with_unfolding_all rfl)
  have ne16 : (c : Addr) ≠ dc := ne_tag hc hdc (by with_unfolding_all rfl)
  have ne17 : (c : Addr) ≠ 161 := ne_tag hc ht1 (by with_unfolding_all rfl)
  have ne18 : (c : Addr) ≠ 168 := ne_tag hc ht2 (by with_unfolding_all rfl)
  have ne19 : (dc : Addr) ≠ 161 := ne_tag hdc ht1 (by with_unfolding_all rfl)
  have ne20 : (dc : Addr) ≠ 168 := ne_tag hdc ht2 (by with_unfolding_all rfl)
  have ne21 : (161 : Addr) ≠ 168 := by decide
  have al : AllAt s.heap [(p, instObj 115 dp), (dp, pageDict pt mx ws wl sc (.ref l) (.ref c)), (l, listOf ls.toArray nl), (c, accObj dc ps.toArray ep), (dc, accDict hs tkd (.int ini ti)), (161, tabObj tp1), (168, tabObj tp2)] := .cons hp (.cons hdp (.cons hl (.cons hc (.cons hdc (.cons ht1 (.cons ht2 .nil))))))
  have N1 := newsAll al hk1 hgn hL'
  have hpg := parts_g hpa hg (al.cls rfl)
  clear N hpa
  try (with_reducible refine wp_letQ ?_; intro Qz1)
  k_steps
  refine unhold ?_
  (with_reducible rename Fr _ _ _ _ => F1)
  refine fr_let F1 ?_
  clear F1
  intro mz1x F1
  (with_reducible rename News _ _ _ _ => N1)
  refine' pstr_call (ls := ls) (qs := qs) (lsx := lsx) (site_of rfl ?k1 ?k2 ?k3 ?k4 rfl ?k5 ?k6 rfl ?k7 ?k8) hb ?kc ?kd ?ke ?kf ?kg ?ki htp1 ?kk htp2 hlx (hpg.keep fun T o e _ => F1.keep T o e) hcl hi hi2 hls hfit hqs (Nat.le_of_ble_eq_true rfl) hw ?_
  case k1 => k_asm
  case k2 => k_asm
  case k3 => k_asm
  case k4 => k_asm
  case k5 => exact Nat.le_of_ble_eq_true rfl
  case k6 => exact Nat.le_of_ble_eq_true rfl
  case kc => exact News.get N1 (by k_mem)
  case kd => exact News.get N1 (by k_mem)
  case ke => exact News.get N1 (by k_mem)
  case kf => exact News.get N1 (by k_mem)
  case kg => exact News.get N1 (by k_mem)
  case ki => exact News.get N1 (by k_mem)
  case kk => exact News.get N1 (by k_mem)
  case k7 => exact not_hid N1 (by repeat (first | exact HidIn.nil | refine HidIn.cons (by k_mem) ?_))
  case k8 => exact none_hid N1 (by repeat (first | exact HidIn.nil | refine HidIn.cons (by k_mem) ?_))
  intro h' gs' tk' t' ls' nl' n' t0 hb' kb' w1 w2 w3 ⟨tq1, w4, w4'⟩ ⟨tq2, w5, w5'⟩ w6
  have F2 := fr_but F1 kb' (none_hid N1 (by repeat (first | exact HidIn.nil | refine HidIn.cons (by k_mem) ?_))) (not_hid N1 (by repeat (first | exact HidIn.nil | refine HidIn.cons (by k_mem) ?_)))
  have N2 : News g L' h' [(p, instObj 115 dp), (dp, pageDict pt mx ws wl sc (.ref l) (.ref c)), (l, listOf ls'.toArray nl'), (c, accObj dc #[] n'), (dc, accDict hs tkd (.int 0 t0)), (161, tabObj tq1), (168, tabObj tq2)] := news_turn N1 kb' (by repeat (first | exact Turned.nil | refine Turned.new (by assumption) (by k_mem) ?_ | refine Turned.old (by k_mem) (by repeat (first | exact OffL.nil | refine OffL.cons (by k_ne) ?_)) ?_))
  clear N1 F1 kb' w1 w2 w3 w4 w5
  dsimp only
  try (with_reducible refine wp_letQ ?_; intro Qz2)
  k_steps
  refine unhold ?_
  (with_reducible rename Fr _ _ _ _ => F3)
  (with_reducible rename News _ _ _ _ => N3)
  rw [htext] at F3
  refine fr_let F3 ?_
  clear F3
  intro mz2x F3
  refine fr_gen F3 ?_
  intro m3 hm3 F3'
  refine while_g (JR2 w (ktrTop 340 1400 A.guards cn cs L a ccd cl' []) base g [envX cn cs L a ccd cl'] [(p, instObj 115 dp), (dp, pageDict pt mx ws wl sc (.ref l) (.ref c)), (l, listOf ls'.toArray nl'), (c, accObj dc #[] n'), (dc, accDict hs tkd (.int 0 t0)), (161, tabObj tq1), (168, tabObj tq2)] rs m3 [Str.ofString "text", Str.ofString "rows", Str.ofString "line", Str.ofString "signs", Str.ofString "told"]) rs.length ?_ F3' N3 (by assumption) ?_ (by passes_own)
  · refine ⟨KtsTurn.refl, B', KX, ⟨_, _, _, T'⟩, DG, Nat.le_refl _, (fun z r hr => by rw [List.length_eq_zero_iff.mp z] at hr; cases hr), t', _, none, none, none, [], _, [], ?_, rfl, ?_, ?_⟩
    · subst hm3; refine (kstO_self _ [Str.ofString "text", Str.ofString "rows", Str.ofString "line", Str.ofString "signs", Str.ofString "told"]).symm.trans ?_; with_unfolding_all rfl
    · rw [List.drop_length]; exact .nil
    · refine gen_goal fun G9 hG9 => ?_
      obtain ⟨b1, b2, b3, b4, b5, b6, b7⟩ := ‹p < _ ∧ dp < _ ∧ l < _ ∧ c < _ ∧ dc < _ ∧ 161 < _ ∧ 168 < _›
      refine hG9 ?_
      clear hG9 G9
      intro q hq
      simp only [List.append_nil, List.mem_cons, List.not_mem_nil, or_false] at hq
      rcases hq with rfl | rfl | rfl | rfl | rfl | rfl | rfl <;> exact Nat.ne_of_lt (by assumption)
  · rintro k g' m₁ news₁ h gs tk J hgs F4 N4
    refine gen_goal fun G9 hG9 => ?_
    obtain ⟨jturn, B4, KX4, ⟨mean4, mg4, mb4, T4⟩, D4, hk, hfst, t, R, o1, o2, o3, rowsV, nR, tt, rfl, rfl, hled, hRt⟩ := J
    refine hG9 ?_
    clear hG9 G9
    clear F3 F3' N3 B' KX T' hm3
    refine fr_let F4 ?_
    clear F4
    intro mz3x F4
    try (with_reducible refine wp_letQ ?_; intro Qz3)
    k_steps
    · refine unhold ?_
      (with_reducible rename Fr _ _ _ _ => F5)
      refine fr_let F5 ?_
      clear F5
      intro mz4x F5
      (with_reducible rename News _ _ _ _ => N5)
      refine gen_goal fun G9 hG9 => ?_
      obtain ⟨j, r, rfl, hr, hrn, ps1, ps2, ps3, ps6, ps4, ps5⟩ := page_last hok hk (bne_iff_ne.mp (by assumption))
      refine hG9 ?_
      clear hG9 G9
      refine' strip_call (site_of rfl ?k1 ?k2 ?k3 ?k4 rfl ?k5 ?k6 rfl ?k7 ?k8) ps3 ps4 ps5 ?_
      case k1 => k_asm
      case k2 => k_asm
      case k3 => k_asm
      case k4 => k_asm
      case k5 => exact Nat.le_of_ble_eq_true rfl
      case k6 => exact Nat.le_of_ble_eq_true rfl
      case k7 => exact List.not_mem_nil
      case k8 => exact fun b hb => nomatch hb
      intro t6 h6 tk6 kb6
      have F6 := fr_keep F5 kb6
      have N6 := news_keep N5 kb6
      clear F5 N5 kb6
      rw [ps1]
      try (with_reducible refine wp_letQ ?_; intro Qz4)
      k_steps
      refine unhold ?_
      (with_reducible rename Fr _ _ _ _ => F7)
      (with_reducible rename News _ _ _ _ => N7)
      refine' ords_comp F7 N7 KX4 T4 rfl ?khv ?ksz rfl (by decide) rfl (by decide) rfl (by k_is) ?kxo ?kxx ?kkk rfl rfl (by decide) (by first | rfl | kernel_rfl) ?_
      case khv =>
        intro Q' hq
        try (with_reducible refine wp_letQ ?_; intro Qz5)
        k_steps
        exact hq
      case ksz => exact Nat.le_trans ps6 (by rw [sizeLine_eq]; exact Nat.le_of_ble_eq_true rfl)
      case kxo => intro C; rfl
      case kxx => intro C; rfl
      case kkk => intro C; rfl
      intro D h8 tk8 cvs nD F8 N8 hDn hDs hcv
      clear F7 N7
      simp only [List.forall_mem_cons] at hDn
      (try dsimp only at hDn)
      try (with_reducible refine wp_letQ ?_; intro Qz6)
      k_steps
      (with_reducible rename Fr _ _ _ _ => F9)
      (with_reducible rename News _ _ _ _ => N9)
      refine iter_new F9 N9 ⟨_, (N9 (D, _) (.head _)).1, rfl, _, rfl⟩ ?_
      intro I h10 F10 N10 hIl
      have hIn := lt_ne hIl
      k_lt hIl
      clear F9 N9
      try (with_reducible refine wp_letQ ?_; intro Qz7)
      k_steps
      refine unhold ?_
      (with_reducible rename Fr _ _ _ _ => F11)
      (with_reducible rename News _ _ _ _ => N11)
      rename_i TD hq1 hltTD hq2
      refine wpAny_Try_except ?_
      refine fr_gen F11 ?_
      intro m5 hm5 F11'
      have hmt : m5 (Str.ofString "told") = some (.ref TD) := by subst hm5; rfl
      have hms : m5 (Str.ofString "signs") = some (.ref I) := by subst hm5; rfl
      refine wpAny_execs_cons ?_
      refine while_g (JI m5 ((D, listOf cvs.toArray nD) :: (R, listOf rowsV.toArray nR) :: ([(p, instObj 115 dp), (dp, pageDict pt mx ws wl sc (.ref l) (.ref c)), (l, listOf ls'.toArray nl'), (c, accObj dc #[] n'), (dc, accDict hs tkd (.int 0 t0)), (161, tabObj tq1), (168, tabObj tq2)] ++ tt)) g' TD I D ((readItems r).flatMap itemSigns) (readItems r)) ((readItems r).length + 1) ?_ F11' N11 hgs ?_ (by passes_own)
      · exact ⟨rfl, rfl, [], readItems r, 0, [], _, _, rfl, rfl, rfl, ⟨rfl, rfl⟩, rfl, .nil⟩
      intro k g5 m6 news5 h12 gs12 tk12 hz24x hgs12 F12 N12
      refine gen_goal fun G9 hG9 => ?_
      obtain ⟨rfl, rfl, done, todo, i, tvs, nT, io, hits, htk, rfl, hio, hdrop, htv⟩ := hz24x
      refine hG9 ?_
      clear hG9 G9
      have F13 := fr_set (fr_set F12 hms) (x := Str.ofString "told") (v := .ref TD) (by rw [if_neg (by decide)]; exact hmt)
      clear F12 F11 F11' N11
      have hTDn : ∀ q ∈ (I, io) :: (D, listOf cvs.toArray nD) :: (R, listOf rowsV.toArray nR) :: ([(p, instObj 115 dp), (dp, pageDict pt mx ws wl sc (.ref l) (.ref c)), (l, listOf ls'.toArray nl'), (c, accObj dc #[] n'), (dc, accDict hs tkd (.int 0 t0)), (161, tabObj tq1), (168, tabObj tq2)] ++ tt), q.1 ≠ TD := allLt_ne hltTD
      cases todo with
      | nil =>
        try (with_reducible refine wp_letQ ?_; intro Qz8)
        k_steps
        refine unhold ?_
        (with_reducible rename Fr _ _ _ _ => F14)
        refine fr_let F14 ?_
        clear F14
        intro mz8x F14
        (with_reducible rename News _ _ _ _ => N14)
        have hxe : cvs.toArray[i]? = none := by
          have e1 := hcv.length
          have e2 : (readItems r).flatMap itemSigns = ((rowText r).cps.toList.map fun c : Nat => (c : Int)) := (items_signs r).symm
          rw [e2] at hdrop
          have e3 := congrArg List.length hdrop
          simp only [List.length_drop, List.flatMap_nil, List.length_nil] at e3
          simp only [List.getElem?_toArray]
          exact List.getElem?_eq_none (by (first | lia | omega))
        have NG : News g5 L' (hideAll _ [I]) ((TD, listOf tvs.toArray nT) :: (D, listOf cvs.toArray nD) :: (R, listOf rowsV.toArray nR) :: ([(p, instObj 115 dp), (dp, pageDict pt mx ws wl sc (.ref l) (.ref c)), (l, listOf ls'.toArray nl'), (c, accObj dc #[] n'), (dc, accDict hs tkd (.int 0 t0)), (161, tabObj tq1), (168, tabObj tq2)] ++ tt)) := news_hide (news_sub N14 (fun q hq => by
          rcases List.mem_cons.mp hq with rfl | hq
          · exact .head _
          · exact .tail _ (.tail _ hq))) (fun q hq => by
          rcases List.mem_cons.mp hq with rfl | hq
          · exact (hTDn _ (.head _)).symm
          · exact hIn q hq)
        have FG := fr_hide (led := [(I, io)]) F14 (fun q hq => by rw [List.mem_singleton.mp hq]; exact N14 _ (.tail _ (.head _)))
        refine parse_end rfl (Nat.le_of_ble_eq_true rfl) (Nat.le_of_ble_eq_true rfl) rfl rfl B4 F14 KX4 T4 ?kL ?kh (N14 (I, io) (.tail _ (.head _))).1 hio ⟨_, (N14 (D, _) (.tail _ (.tail _ (.head _)))).1, rfl, _, rfl⟩ hxe ?_
        case kL => exact fun q => (N14 (I, io) (.tail _ (.head _))).2.1 (List.mem_singleton.mp q).symm
        case kh => exact fun b q => by rw [List.mem_singleton.mp q]; exact (N14 (I, io) (.tail _ (.head _))).2.2
        intro e t15 h15 news15 R15 up15 tk15
        have R16 := raised_more R15 B4.stays NG ?kfr
        case kfr =>
          intro b hb'
          rcases kts_mem hb' with q | q
          · exact .inl q
          · refine gen_goal fun G9 hG9 => ?_
            obtain ⟨_, o, ho, _⟩ := B4.frames.mem q
            refine hG9 ?_
            clear hG9 G9
            exact .inr ⟨o, ho⟩
        have F16 := fr_hide FG NG
        refine caught_S0 (X := "StopIteration") (T' := "StopIteration") (KF := hd.heap_1 w.params) (g₀ := g) R16 F16 B4 (up_hide up15) XB TB D4 jturn ?kex stop_boot (by decide) stop_exc stop_tup isSubtype_stop ?_
        case kex => k_is
        intro h17 g7 news7 turn7 F17 _ got N17 B7 KX7 T7 D7
        clear F16 R16 NG FG F14 N14 B4 KX4 T4 D4 jturn R15
        have F18 := fr_unset (fr_unset F17 (by rw [if_neg (by decide)]; exact hmt)) hms
        clear F17
        subst hm5
        rw [ps2] at F18
        have hRl : rowsV.length ≤ sizeLine := by
          have e1 := hled.length
          have e2 := hok.fit.1
          rw [List.length_map, List.length_reverse, List.length_drop] at e1
          rw [sizeLine_eq]; (first | lia | omega)
        try (with_reducible refine wp_letQ ?_; intro Qz9)
        k_steps
        refine append_K (by assumption) (by assumption) (UpdF.tail (hTDn (R, _) (.tail _ (.tail _ (.head _)))).symm (UpdF.tail hDn.1.symm (UpdF.head hRt))) hRl ?_
        intro h18 F18' N18'
        clear F18 N17
        try (with_reducible refine wp_letQ ?_; intro Qz10)
        k_steps
        show Hold _
        (with_reducible rename Fr _ _ _ _ => F19)
        refine fr_let F19 ?_
        clear F19
        intro mz9x F19
        (with_reducible rename News _ _ _ _ => N19)
        have N20 := news_sub N19 (b := (R, listOf (rowsV ++ [Value.ref TD]).toArray (nR + 1)) :: ([(p, instObj 115 dp), (dp, pageDict pt mx ws wl sc (.ref l) (.ref c)), (l, listOf ls'.toArray nl'), (c, accObj dc #[] n'), (dc, accDict hs tkd (.int 0 t0)), (161, tabObj tq1), (168, tabObj tq2)] ++ ((TD, listOf tvs.toArray nT) :: tt))) (fun q hq => by
          rcases List.mem_cons.mp hq with rfl | hq
          · exact .tail _ (.tail _ (.head _))
          rcases List.mem_append.mp hq with hq | hq
          · exact .tail _ (.tail _ (.tail _ (List.mem_append_left _ hq)))
          rcases List.mem_cons.mp hq with rfl | hq
          · exact .head _
          · exact .tail _ (.tail _ (.tail _ (List.mem_append_right _ hq))))
        refine ⟨_, _, _, g7, _, _, j, rfl, by assumption, F19, N20, by (first | lia | omega), turn7, B7, KX7, ⟨_, _, _, T7⟩, D7, by (first | lia | omega), fun z => all_ne hok (z ▸ hr) hrn, _, R, _, _, _, rowsV ++ [Value.ref TD], _, (TD, listOf tvs.toArray nT) :: tt, by (refine same_fun [Str.ofString "text", Str.ofString "rows", Str.ofString "line", Str.ofString "signs", Str.ofString "told"] (by with_unfolding_all exact ⟨rfl, rfl, rfl, rfl, rfl, trivial⟩) ?_; rintro y ⟨q_text, q_rows, q_line, q_signs, q_told, -⟩; dsimp only [kstO, List.zip_cons_cons, List.zip_nil_right, List.zip_nil_left]; (repeat (refine (if_neg (by with_reducible assumption)).trans ?_)); refine Eq.symm ?_; (repeat (refine (if_neg (by with_reducible assumption)).trans ?_)); rfl), rfl, ?_, ?_⟩
        · rw [drop_rev hr, List.map_append]
          refine (hled.mono fun q hq => .tail _ hq).append (.cons (.head _) ?_ .nil)
          rw [← items_nums, hits, List.append_nil]
          exact htv
        · intro q hq
          rcases List.mem_append.mp hq with hq | hq
          · exact hRt q (List.mem_append_left _ hq)
          rcases List.mem_cons.mp hq with rfl | hq
          · exact (hTDn (R, _) (.tail _ (.tail _ (.head _)))).symm
          · exact hRt q (List.mem_append_right _ hq)
      | cons q todo =>
        try (with_reducible refine wp_letQ ?_; intro Qz11)
        k_steps
        refine unhold ?_
        (with_reducible rename Fr _ _ _ _ => F14)
        refine fr_let F14 ?_
        clear F14
        intro mz10x F14
        (with_reducible rename News _ _ _ _ => N14)
        have hqm : q ∈ readItems r := by rw [hits]; exact List.mem_append_right _ (.head _)
        have hrm : r ∈ rs := List.mem_of_getElem? hr
        refine gen_goal fun G9 hG9 => ?_
        obtain ⟨hq1', hq2', hq3'⟩ := items_ok (hok.digs r hrm) q hqm
        refine hG9 ?_
        clear hG9 G9
        have hcv' : IntsAre cvs ((readItems r).flatMap itemSigns) := by rw [← items_signs]; exact hcv
        have hdr' : ((readItems r).flatMap itemSigns).drop i = itemSigns q ++ todo.flatMap itemSigns := by rw [hdrop, List.flatMap_cons]
        have htl : tvs.length ≤ sizeLine := by
          have e1 := htv.length
          have e2 := items_len r
          have e3 := hok.fit.2 r hrm
          rw [hits] at e2
          simp only [List.length_append, List.length_cons, List.length_map] at e1 e2
          rw [sizeLine_eq]; (first | lia | omega)
        have hII : HidIn ((TD, listOf tvs.toArray nT) :: (I, io) :: (D, listOf cvs.toArray nD) :: (R, listOf rowsV.toArray nR) :: ([(p, instObj 115 dp), (dp, pageDict pt mx ws wl sc (.ref l) (.ref c)), (l, listOf ls'.toArray nl'), (c, accObj dc #[] n'), (dc, accDict hs tkd (.int 0 t0)), (161, tabObj tq1), (168, tabObj tq2)] ++ tt)) [I] := .cons (.tail _ (.head _)) .nil
        refine' parse_ok (i := i) (ds := q.1) (e := q.2) (rest := todo.flatMap itemSigns) (site_of rfl ?k1 ?k2 ?k3 ?k4 rfl ?k5 ?k6 rfl ?k7 ?k8) hgs12 (hio.at (N14 (I, io) (.tail _ (.head _))).1) ⟨_, (N14 (D, _) (.tail _ (.tail _ (.head _)))).1, rfl, _, rfl⟩ hcv' ?kdr hq1' hq2' hq3' ?_
        case k1 => k_asm
        case k2 => k_asm
        case k3 => k_asm
        case k4 => k_asm
        case k5 => exact Nat.le_of_ble_eq_true rfl
        case k6 => exact Nat.le_of_ble_eq_true rfl
        case k7 => exact not_hid N14 hII
        case k8 => exact none_hid N14 hII
        case kdr => rw [hdr']; unfold itemSigns; rw [List.append_assoc]; rfl
        intro t'' h'' gs'' tk'' hb'' kb'' hit''
        refine gen_goal fun G9 hG9 => ?_
        obtain ⟨io', hio', hc', hd'⟩ := hit''
        refine hG9 ?_
        clear hG9 G9
        have F16 := fr_but F14 kb'' (none_hid N14 hII) (not_hid N14 hII)
        have N16 := news_upd1 N14 (gg := fun o => (TD, listOf tvs.toArray nT) :: (I, o) :: (D, listOf cvs.toArray nD) :: (R, listOf rowsV.toArray nR) :: ([(p, instObj 115 dp), (dp, pageDict pt mx ws wl sc (.ref l) (.ref c)), (l, listOf ls'.toArray nl'), (c, accObj dc #[] n'), (dc, accDict hs tkd (.int 0 t0)), (161, tabObj tq1), (168, tabObj tq2)] ++ tt)) (by k_updF) kb'' hio'
        clear F14 N14 kb''
        try (with_reducible refine wp_letQ ?_; intro Qz12)
        k_steps
        show Hold _
        (with_reducible rename Fr _ _ _ _ => F17)
        refine fr_let F17 ?_
        clear F17
        intro mz11x F17
        (with_reducible rename News _ _ _ _ => N17)
        have F18 := fr_unset (fr_unset F17 (by rw [if_neg (by decide)]; exact hmt)) hms
        refine ⟨_, _, _, _, _, _, todo.length + 1, rfl, by assumption, F18, N17, ?_, rfl, rfl, done ++ [q], todo, i + q.1.length + 1, _, _, io', by rw [hits]; simp, rfl, rfl, ⟨hc', hd'⟩, drop_item hdr', ?_⟩
        · rw [← htk]; simp only [List.length_cons]; (first | lia | omega)
        · rw [List.map_append]; exact IntsAre.snoc' htv _ _
    · refine unhold ?_
      (with_reducible rename Fr _ _ _ _ => F5)
      refine fr_let F5 ?_
      clear F5
      intro mz12x F5
      (with_reducible rename News _ _ _ _ => N5)
      have hz : pageText (rs.take k) = Str.ofString "" := by
        have q := ‹(pageText (rs.take k) != Str.ofString "") = false›
        simpa using q
      have hRl : rowsV.length ≤ sizeLine := by
        have e1 := hled.length
        have e2 := hok.fit.1
        rw [List.length_map, List.length_reverse, List.length_drop] at e1
        rw [sizeLine_eq]; (first | lia | omega)
      refine krv_lit (zs := rowsV.reverse) F5 N5 ⟨_, (N5 (R, _) (.head _)).1, rfl, _, rfl⟩ (IsPart.int _ _) rfl ?_ (by with_unfolding_all rfl) (by kmk_pure) (by simpa using hRl)
      intro R2 h6 F6 N6 l6
      have hne : R2 ∉ [p, dp, l, c, dc, 161, 168] := not_in_lt (HidIn.cons (.tail _ (List.mem_append_left _ (by k_mem))) (HidIn.cons (.tail _ (List.mem_append_left _ (by k_mem))) (HidIn.cons (.tail _ (List.mem_append_left _ (by k_mem))) (HidIn.cons (.tail _ (List.mem_append_left _ (by k_mem))) (HidIn.cons (.tail _ (List.mem_append_left _ (by k_mem))) (HidIn.cons (.tail _ (List.mem_append_left _ (by k_mem))) (HidIn.cons (.tail _ (List.mem_append_left _ (by k_mem))) .nil))))))) l6
      have hR2 : s.heap.get? R2 = none := by
        cases e : s.heap.get? R2 with
        | none => rfl
        | some o =>
          obtain ⟨sl, q⟩ := jturn.up (hg _ _ e hne)
          have := (N6 (R2, _) (.head _)).2.2
          rw [q] at this; cases this
      clear F5 N5 l6
      try (with_reducible refine wp_letQ ?_; intro Qz13)
      k_steps
      (with_reducible rename Fr _ _ _ _ => F7)
      refine fr_let F7 ?_
      clear F7
      intro mz13x F7
      (with_reducible rename News _ _ _ _ => N7)
      obtain ⟨Fh, kbh⟩ := hout _ _ _ _ jturn F7
      have hrev := (RowsLed.at N7 (hled.mono fun q hq => .tail _ (.tail _ (List.mem_append_right _ hq)))).reverse
      rw [page_none hok hk hfst hz, ← List.map_reverse, List.reverse_reverse] at hrev
      exact hret R2 rowsV.reverse _ _ _ ls' nl' n' t0 (by assumption) Fh (read_keeps kbh N7 (KeptIn.keep (.tail _ (.tail _ (List.mem_append_left _ (.head _)))) hp (KeptIn.keep (.tail _ (.tail _ (List.mem_append_left _ (.tail _ (.head _))))) hdp (KeptIn.skip (.head _) (KeptIn.skip (.tail _ (.head _)) (KeptIn.skip (.tail _ (.tail _ (.head _))) (KeptIn.skip (.tail _ (.tail _ (.tail _ (.head _)))) (KeptIn.skip (.tail _ (.tail _ (.tail _ (.tail _ (.head _))))) .nil))))))))
        (N7 (l, _) (.tail _ (.tail _ (List.mem_append_left _ (by k_mem))))).1 (N7 (c, _) (.tail _ (.tail _ (List.mem_append_left _ (by k_mem))))).1 (N7 (dc, _) (.tail _ (.tail _ (List.mem_append_left _ (by k_mem))))).1 ⟨tq1, (N7 (161, _) (.tail _ (.tail _ (List.mem_append_left _ (by k_mem))))).1, w4'⟩ ⟨tq2, (N7 (168, _) (.tail _ (.tail _ (List.mem_append_left _ (by k_mem))))).1, w5'⟩ w6 hR2 ⟨_, (N7 (R2, _) (.head _)).1, rfl, _, rfl⟩ hrev
end

section
open PySem PySem.W PySem.Spec PySem.Calls PyProof.Rows PyProof.V PySem.SeqAt
section
variable {p : Program} {loose : List Str} {mean : ExcName → Option Value} {mg mb m : Str → Option Value} {h : Heap} {K : Frag} {l : List Addr}
theorem get_hid (ht : ∀ P ∈ l, h.get? P = some (tabObj #[])) {b : Addr} {o : Obj} (e : h.get? b = some o) (hn : o ≠ tabObj #[]) : (hideAll h l).get? b = some o :=
  hideAll_get _ e fun q => hn (by rw [ht b q] at e; cases e; rfl)
theorem ns_hid (ht : ∀ P ∈ l, h.get? P = some (tabObj #[])) {a : Addr} (G : h.Ns a m) : (hideAll h l).Ns a m := by
  obtain ⟨o, es, ep, ho, hd, r⟩ := G
  exact ⟨o, es, ep, get_hid ht ho (fun q => by rw [q] at hd; cases hd), hd, r⟩
theorem in_hid (ht : ∀ P ∈ l, h.get? P = some (tabObj #[])) (X : K.In h) (hK : K.all (fun p => match p.2.cls with | .none => (match p.2.data with | .dict _ _ => true | _ => false) | _ => true) = true) : K.In (hideAll h l) := by
  intro a o e
  refine get_hid ht (X a o e) fun q => ?_
  have := List.all_eq_true.mp hK (a, o) (kb_mem e)
  rw [q] at this
  cases this
noncomputable def vRef : Value → Option Addr
  | .ref a => some a
  | _ => none
noncomputable def dFunc : Data → Option FuncData
  | .func f => some f
  | _ => none
noncomputable def dFields : Data → Option (Array Value)
  | .fields v => some v
  | _ => none
/-- the table of a top def's code -/
noncomputable def tabP (K : Frag) (x : Str) : Option Addr :=
  (nsIn K mainGlobals x).bind fun v => v.bind fun v => (vRef v).bind fun a => (K.lookup a).bind fun o => (dFunc o.data).bind fun fd => (vRef fd.code).bind fun c => (K.lookup c).bind fun o => (dFields o.data).bind fun vs => (vs[11]?).bind vRef
/-- it is none of the hidden -/
noncomputable def tabOff (K : Frag) (l : List Addr) (x : Str) : Bool := (tabP K x).any fun P => !l.contains P
theorem bind_at {α β : Type} {o : Option α} {f : α → Option β} {b : β} (x : α) (e : o.bind f = some b) (hx : ∀ a, o = some a → a = x) : f x = some b := by
  cases o with
  | none => cases e
  | some a => exact hx a rfl ▸ e
theorem tabOff_of (X : K.In h) (G : h.Ns mainGlobals mg) {x : Str} {a c P : Addr} {o : Obj} {fd : FuncData} {ps : Array Value} (e : tabOff K l x = true) (hm : mg x = some (.ref a)) (ho : h.get? a = some o) (hd : o.data = .func fd) (hc : fd.code = .ref c) (T : h.TableAt c P ps) : P ∉ l := by
  have two : ∃ P', tabP K x = some P' ∧ (!l.contains P') = true := by
    revert e
    unfold tabOff
    cases tabP K x with
    | none => exact fun e => nomatch e
    | some P' => exact fun e => ⟨P', rfl, e⟩
  clear e
  obtain ⟨P', e, e'⟩ := two
  have e := bind_at (some (.ref a)) e fun v hv => by
    cases v with
    | none => unfold tabP at e; rw [hv] at e; cases e
    | some v => exact (mg_of X G hv).symm.trans hm
  have e := bind_at o (show (K.lookup a).bind _ = some P' from e) fun v hv => Option.some.inj ((X _ _ hv).symm.trans ho)
  rw [hd] at e
  have e : (vRef fd.code).bind _ = some P' := e
  rw [hc] at e
  obtain ⟨⟨o', vs', h2, _, h3, h4⟩, _⟩ := T
  have e := bind_at o' (show (K.lookup c).bind _ = some P' from e) fun v hv => Option.some.inj ((X _ _ hv).symm.trans h2)
  rw [h3] at e
  have e : (vs'[11]?).bind vRef = some P' := e
  rw [h4] at e
  cases e
  intro hm
  rw [List.contains_iff_mem.mpr hm] at e'
  cases e'
theorem top_hid (T : Top p loose mean mg mb h) (X : K.In h) (ht : ∀ P ∈ l, h.get? P = some (tabObj #[])) (hrec : (recsOf p).all (fun d => tabOff K l d.name) = true) (hown : ownsOf p = []) : Top p loose mean mg mb (hideAll h l) where
  g := ns_hid ht T.g
  b := ns_hid ht T.b
  nolimit := let ⟨mc, h1, h2⟩ := T.nolimit; ⟨mc, ns_hid ht h1, h2⟩
  nodigits := let ⟨mc, h1, h2⟩ := T.nodigits; ⟨mc, ns_hid ht h1, h2⟩
  fn := fun d hd => by
    obtain ⟨a, o, pm, code, doc, h1, h2, h3, c, oc, vs, t, h4, h5, h6, h7⟩ := T.fn d hd
    refine ⟨a, o, pm, code, doc, h1, get_hid ht h2 (fun q => by rw [q] at h3; cases h3), h3, c, oc, vs, t, h4, get_hid ht h5 (fun q => ?_), h6, h7⟩
    rw [q] at h6
    cases h6
    simp at h7
  own := fun o ho => by rw [hown] at ho; cases ho
  const := T.const
  free := T.free
  builtins := T.builtins
  tab := fun d hd => by
    obtain ⟨a, o, fd, c, P, h1, h2, h3, h4, h5, h6⟩ := T.tab d hd
    have hP : P ∉ l := tabOff_of X T.g (List.all_eq_true.mp hrec d hd) h1 h2 h3 h4 h6
    have hgc : ∀ o', h.get? c = some o' → o'.cls = .type "code" → (hideAll h l).get? c = some o' := fun o' e hc => get_hid ht e fun q => by rw [q] at hc; cases hc
    obtain ⟨⟨o1, vs1, k1, k2, k3, k4⟩, k5⟩ := h6
    refine ⟨a, o, fd, c, P, h1, get_hid ht h2 (fun q => by rw [q] at h3; cases h3), h3, h4, ?_, ⟨o1, vs1, hgc _ k1 k2, k2, k3, k4⟩, hideAll_get _ k5 hP⟩
    obtain ⟨oc, vs, file, tf, flags, tg, inF, text, tt, op, z1, z2, z3, z4, z5, z6, z7, z8, z9⟩ := h5
    rw [k1] at z1
    cases z1
    exact ⟨o1, vs, file, tf, flags, tg, inF, text, tt, op, hgc _ k1 k2, z2, z3, z4, z5, z6, z7, hideAll_get _ z8 hP, z9⟩
  bmain := by
    obtain ⟨bm, ob, h1, h2, h3, h4, r⟩ := T.bmain
    exact ⟨bm, ob, h1, h2, get_hid ht h3 (fun q => by rw [q] at h4; cases h4), h4, r⟩
  seer := fun e => by
    obtain ⟨⟨mc, a1, a2⟩, ⟨mm, b1, b2⟩, ⟨mb', c1, c2⟩, ⟨mg', bm, ob, d1, d2, d3, d4, d5⟩⟩ := T.seer e
    exact ⟨⟨mc, ns_hid ht a1, a2⟩, ⟨mm, ns_hid ht b1, b2⟩, ⟨mb', ns_hid ht c1, c2⟩, ⟨mg', bm, ob, ns_hid ht d1, d2, get_hid ht d3 (fun q => by rw [q] at d4; cases d4), d4, d5⟩⟩
theorem recs_off (w : World) : (recsOf hd.view_39).all (fun d => tabOff (hd.heap_1 w.params) [161, 168] d.name) = true := by kernel_rfl
theorem own_none : ownsOf hd.view_39 = [] := by kernel_rfl
theorem heap_off (w : World) : (hd.heap_1 w.params).all (fun p => match p.2.cls with | .none => (match p.2.data with | .dict _ _ => true | _ => false) | _ => true) = true := by kernel_rfl
/-- the law's frame, its two tables of nested code laid into the ledger -/
theorem law_ground {w : World} {mean : ExcName → Option Value} {mg mb : Str → Option Value} {h₀ h₁ : Heap} {L : Addr} {m : Str → Option Value} (X : (hd.heap_1 w.params).In h₀) (T : Top hd.view_39 (looseW hd.view_39 [Str.ofString "_Accumulator"]) mean mg mb h₀) (F : Fr h₀ L h₁ m)
    (ht : ∀ P ∈ ([161, 168] : List Addr), h₀.get? P = some (tabObj #[])) :
    ∃ g, (∀ b o, h₀.get? b = some o → b ∉ ([161, 168] : List Addr) → g.get? b = some o) ∧ (hd.heap_1 w.params).In g ∧ Top hd.view_39 (looseW hd.view_39 [Str.ofString "_Accumulator"]) mean mg mb g ∧ Fr g L h₁ m ∧ News g L h₁ [(161, tabObj #[]), (168, tabObj #[])] ∧ Below callerA g [] g := by
  refine ⟨hideAll h₀ [161, 168], fun b o e nb => hideAll_get _ e nb, in_hid ht X (heap_off w), top_hid T X ht (recs_off w) own_none, ⟨F.ns, fun b o e => F.keep b o (of_hideAll _ e), by rw [hideAll_size]; exact F.above⟩, ?_, below_caller _⟩
  intro q hq
  have hL : ∀ P ∈ ([161, 168] : List Addr), P ≠ L := fun P hP e => by
    have := ht P hP
    rw [e, kts_self F] at this; cases this
  revert q
  refine all_cons ?_ ?_
  · exact ⟨F.keep _ _ (ht _ (.head _)), hL _ (.head _), hideAll_none _ (.head _)⟩
  refine all_cons ?_ all_nil
  exact ⟨F.keep _ _ (ht _ (.tail _ (.head _))), hL _ (.tail _ (.head _)), hideAll_none _ (.tail _ (.head _))⟩
end
end

section
open PySem PySem.W PySem.Spec PySem.Calls PyProof.Rows PyProof.V PySem.SeqAt
theorem compTurn_two0 (elt t1 it1 t2 it2 : Expr) (scope : Scope) (pos : Pos) (it acc : Value) (env : Env) :
    compTurn (.ListComp elt [⟨t1, it1, [], 0⟩, ⟨t2, it2, [], 0⟩] scope pos) 0 it acc env = (do
      standAt it1.pos
      match ← pyNext it with
      | none => pure (.done .next)
      | some v =>
        letOwnedTupleGo t1 it v
        assign t1 env v
        let mut ok := true
        for c in ([] : List Expr) do
          if ok then ok ← isTrue c env (eval c env)
        if ok then
          let x ← eval it2 env
          standAt it2.pos
          let x ← foldedSetIterable it2 env x
          let _ ← runOwn (.compStart (.ListComp elt [⟨t1, it1, [], 0⟩, ⟨t2, it2, [], 0⟩] scope pos) 1 (← holding [x] (pyIter x)) acc env) env
        again (.compLoop (.ListComp elt [⟨t1, it1, [], 0⟩, ⟨t2, it2, [], 0⟩] scope pos) 0 it acc env)) := by rfl
theorem compTurn_two1 (elt t1 it1 t2 it2 : Expr) (scope : Scope) (pos : Pos) (it acc : Value) (env : Env) :
    compTurn (.ListComp elt [⟨t1, it1, [], 0⟩, ⟨t2, it2, [], 0⟩] scope pos) 1 it acc env = (standAt it2.pos >>= fun _ => pyNext it >>= fun r => match r with
      | none => pure (.done .next)
      | some v => letOwnedTupleGo t2 it v >>= fun _ => assign t2 env v >>= fun _ =>
        (eval elt env >>= fun x => call (.builtin "list.append") [acc, x] >>= fun _ => pure ()) >>= fun _ =>
          again (.compLoop (.ListComp elt [⟨t1, it1, [], 0⟩, ⟨t2, it2, [], 0⟩] scope pos) 1 it acc env)) := by rfl
section
variable {prog : Program} {w : World} {A : Around} {E : Value → Shared → Prop} {R : Result → Shared → Prop} {s : Shared} {env : Env}
theorem codeAny_two0 {elt t1 it1 t2 it2 : Expr} {scope : Scope} {pos : Pos} {it acc : Value} (I : Nat → Shared → Prop)
    (turn : ∀ n s, I n s → wpAny (model prog w) A (pyNext it) (fun r s₁ => match r with
      | none => R (.ok .next) s₁
      | some v => wpAny (model prog w) A (assign t1 env v) (fun _ s₂ => wpAny (model prog w) A (eval it2 env) (fun x s₃ => wpAny (model prog w) A (pyIter x) (fun i2 s₄ =>
          codeAny (model prog w) (A.mark none) (.compStart (.ListComp elt [⟨t1, it1, [], 0⟩, ⟨t2, it2, [], 0⟩] scope pos) 1 i2 acc env) (fun r s₅ => match r with | .ok _ => ∃ m, m < n ∧ I m s₅ | .error _ => False) s₄)
          (fun _ _ => False) s₃) (fun _ _ => False) s₂) (fun _ _ => False) s₁) (fun _ _ => False) s)
    (n : Nat) (h : I n s) (ht : autoParam (∀ v, letOwnedTupleGo t1 it v = pure ()) au2._auto_1) (hs : autoParam (∀ x, foldedSetIterable it2 env x = pure x) au2._auto_1) :
    codeAny (model prog w) A (.compLoop (.ListComp elt [⟨t1, it1, [], 0⟩, ⟨t2, it2, [], 0⟩] scope pos) 0 it acc env) R s := by
  refine codeAny_loop rfl I (fun n s hI => ?_) n h
  show wpAny _ A ((compTurn (.ListComp elt [⟨t1, it1, [], 0⟩, ⟨t2, it2, [], 0⟩] scope pos) 0 it acc env).onRaise (fun x => do noteFrame x env; theTreesLotGoes x)) _ _ s
  refine wpAny_noted ?_
  rw [compTurn_two0]
  refine wpAny_bind (wpAny_standAt (wpAny_bind (wpAny_mono (turn n s hI) (fun r s₁ h₁ => ?_) fun _ _ h' => h'.elim)))
  cases r with
  | none => exact wpAny_pure h₁
  | some v =>
    refine wpAny_bind (wpAny_of_eq (ht v) ?_)
    refine wpAny_bind (wpAny_mono h₁ (fun _ s₂ h₂ => wpAny_bind (wpAny_mono (wpAny_tests_nil (Q := fun ok s₃ => ok = true ∧ s₃ = s₂) ⟨rfl, rfl⟩) (fun ok s₃ h₃ => ?_) fun _ _ h' => h')) fun _ _ h' => h'.elim)
    obtain ⟨rfl, rfl⟩ := h₃
    refine wpAny_bind (wpAny_mono h₂ (fun x s₃ h₃ => ?_) fun _ _ h' => h'.elim)
    refine wpAny_bind (wpAny_standAt (wpAny_bind (wpAny_of_eq (hs x) (wpAny_bind (wpAny_holding (wpAny_mono h₃ (fun i2 s₄ h₄ => ?_) fun _ _ h' => h'.elim))))))
    refine wpAny_bind (wpAny_runOwn (h := none) (codeAny_mono h₄ fun r s' hr => ?_))
    cases r with
    | ok f => exact wpAny_pure ⟨rfl, hr⟩
    | error e => exact hr.elim
theorem codeAny_two1 {elt t1 it1 t2 it2 : Expr} {scope : Scope} {pos : Pos} {it acc : Value} (I : Nat → Shared → Prop)
    (turn : ∀ n s, I n s → wpAny (model prog w) A (pyNext it) (fun r s₁ => match r with
      | none => R (.ok .next) s₁
      | some v => wpAny (model prog w) A (assign t2 env v) (fun _ s₂ => wpAny (model prog w) A (eval elt env) (fun x s₃ =>
          wpAny (model prog w) A (call (.builtin "list.append") [acc, x]) (fun _ s₄ => ∃ m, m < n ∧ I m s₄) (fun _ _ => False) s₃) (fun _ _ => False) s₂) (fun _ _ => False) s₁) (fun _ _ => False) s)
    (n : Nat) (h : I n s) (ht : autoParam (∀ v, letOwnedTupleGo t2 it v = pure ()) au2._auto_1) :
    codeAny (model prog w) A (.compLoop (.ListComp elt [⟨t1, it1, [], 0⟩, ⟨t2, it2, [], 0⟩] scope pos) 1 it acc env) R s := by
  refine codeAny_loop rfl I (fun n s hI => ?_) n h
  show wpAny _ A ((compTurn (.ListComp elt [⟨t1, it1, [], 0⟩, ⟨t2, it2, [], 0⟩] scope pos) 1 it acc env).onRaise (fun x => do noteFrame x env; theTreesLotGoes x)) _ _ s
  refine wpAny_noted ?_
  rw [compTurn_two1]
  refine wpAny_bind (wpAny_standAt (wpAny_bind (wpAny_mono (turn n s hI) (fun r s₁ h₁ => ?_) fun _ _ h' => h'.elim)))
  cases r with
  | none => exact wpAny_pure h₁
  | some v =>
    refine wpAny_bind (wpAny_of_eq (ht v) ?_)
    exact wpAny_bind (wpAny_mono h₁ (fun _ s₂ h₂ => wpAny_bind (wpAny_bind (wpAny_mono h₂ (fun x s₃ h₃ => wpAny_bind (wpAny_mono h₃
      (fun _ s₄ h₄ => wpAny_pure (wpAny_pure ⟨rfl, h₄⟩)) fun _ _ h' => h'.elim)) fun _ _ h' => h'.elim))) fun _ _ h' => h'.elim)
theorem codeAny_two1_start {elt t1 it1 t2 it2 : Expr} {scope : Scope} {pos : Pos} {it acc : Value}
    (h0 : codeAny (model prog w) A (.compLoop (.ListComp elt [⟨t1, it1, [], 0⟩, ⟨t2, it2, [], 0⟩] scope pos) 1 it acc env) R s)
    (h : wpAny (model prog w) A (pyIter it) (fun it' s' => codeAny (model prog w) A (.compLoop (.ListComp elt [⟨t1, it1, [], 0⟩, ⟨t2, it2, [], 0⟩] scope pos) 1 it' acc env) R s') (fun _ _ => False) s) :
    codeAny (model prog w) A (.compStart (.ListComp elt [⟨t1, it1, [], 0⟩, ⟨t2, it2, [], 0⟩] scope pos) 1 it acc env) R s := by
  refine codeAny_of_tree ?_
  show wpAny _ _ ((compStart (.ListComp elt [⟨t1, it1, [], 0⟩, ⟨t2, it2, [], 0⟩] scope pos) 1 it acc env).onRaise (fun x => do noteFrame x env; standAt theWindowsPlace)) _ _ s
  refine wpAny_notedAt ?_
  unfold compStart
  show wpAny _ _ (ask >>= _) _ _ s
  refine wpAny_bind (wpAny_askSetting (wpAny_ite ?_))
  split
  · exact wpAny_pure (And.intro rfl h0)
  · refine wpAny_bind (wpAny_rule ?_)
    show wpAny _ _ (standAt it2.pos >>= _) _ _ s
    exact wpAny_bind (wpAny_standAt (wpAny_bind (wpAny_mono h (fun it' s' h' => wpAny_pure (And.intro rfl h')) fun _ _ x => x.elim)))
end
end

section
open PySem PySem.W PySem.Spec PySem.Calls PyProof.Rows PyProof.V PySem.SeqAt
section
variable {prog : Program} {w : World} {A : Around} {E : Value → Shared → Prop} {R : Result → Shared → Prop} {s : Shared} {env cenv : Env}
/-- the inner clause lays a tuple's two items down -/
inductive CInv1 (s : Shared) (C J T D : Addr) (v0 v1 : Value) (ys : Array Value) (y : Str) (m : Str → Option Value) (k : Nat) (s' : Shared) : Prop
  | mk : ∀ h' tk m' j, s' = { s with heap := h', toks := tk } → h'.IsTupleIter J T j → h'.IsTuple T #[v0, v1] → h'.PlainList D (ys ++ (#[v0, v1].take j)) → h'.Ns C m' → (∀ x, x ≠ y → m' x = m x) → (∀ b o, b ≠ C → b ≠ J → b ≠ D → s.heap.get? b = some o → h'.get? b = some o) → j ≤ 2 → k = 3 - j → CInv1 s C J T D v0 v1 ys y m k s'
inductive CInv0 (s : Shared) (I a D C : Addr) (us : List Value) (r : List Int) (f : Int → Int × Int) (k : Nat) (s' : Shared) : Prop
  | mk : ∀ (h' : Heap) (tk : Nat) (m' : Str → Option Value) (ys : Array Value) (i : Nat), s' = ⟨h', s.gens, s.drawn, tk, s.os⟩ → h'.IsListIter I a i → h'.IsList a us.toArray → h'.PlainList D ys → h'.Ns C m' → IntsAre ys.toList ((r.take i).flatMap fun n => [(f n).1, (f n).2]) → (∀ b o, s.heap.get? b = some o → h'.get? b = some o) → i ≤ r.length → k = r.length + 1 - i → CInv0 s I a D C us r f k s'
theorem two1_loop {y : Str} {pe py : Pos} {t1 it1 it2 : Expr} {scope : Scope} {pos : Pos} {J T D : Addr} {v0 v1 : Value} {ys : Array Value} {m : Str → Option Value} (hh : A.handled = none)
    (hy : cenv.kindOf y = some .local) (hp : (cenv.scope.kind == .class || (cenv.scope.kind == .module && cenv.locals != cenv.globals)) = false) (hk : cenv.scope.kind = .function) (hyd : (y == ("__debug__" : Str)) = false)
    (hJT : T ≠ J) (hDJ : D ≠ J) (hDT : D ≠ T) (hDC : D ≠ cenv.locals) (hCJ : cenv.locals ≠ J) (hCT : cenv.locals ≠ T) (hit : s.heap.IsTupleIter J T 0) (ht : s.heap.IsTuple T #[v0, v1]) (hD : s.heap.PlainList D ys) (hn : s.heap.Ns cenv.locals m) (hsz : ys.size + 2 ≤ sizeLine)
    (hR : ∀ h' tk m', h'.PlainList D (ys ++ #[v0, v1]) → h'.Ns cenv.locals m' → (∀ x, x ≠ y → m' x = m x) → (∀ b o, b ≠ cenv.locals → b ≠ J → b ≠ D → s.heap.get? b = some o → h'.get? b = some o) → R (.ok .next) { s with heap := h', toks := tk }) :
    codeAny (model prog w) A (.compLoop (.ListComp (.Name y pe) [⟨t1, it1, [], 0⟩, ⟨.Name y py, it2, [], 0⟩] scope pos) 1 (.ref J) (.ref D) cenv) R s := by
  have W := Walks.tuple (prog := prog) (w := w) hh J T hJT #[v0, v1]
  refine codeAny_two1 (CInv1 s cenv.locals J T D v0 v1 ys y m) ?_ 3
    ⟨s.heap, s.toks, m, 0, rfl, hit, ht, by simpa using hD, hn, fun _ _ => rfl, fun _ _ _ _ _ e => e, by (first | lia | omega), rfl⟩
  rintro k s' ⟨h', tk, m', j, rfl, hit', ht', hD', hn', hm', hk', hj, rfl⟩
  by_cases hlt : j < 2
  · refine W.item j _ _ _ hlt ⟨hit', ht'⟩ fun v h₁ tk₁ hv hst₁ hk₁ => ?_
    have hCw : cenv.locals ∉ [J] := by simpa using hCJ
    refine wpAny_assign_Name (wpAny_storeName_local hy (hn'.at' fun o e => hk₁ _ o hCw e) (fun h₂ hn₂ hs₂ => ?_) hp)
    refine wpAny_Name ?_ hyd
    refine wpAny_loadName_local hk hy hn₂ (show (if y = y then some v else m' y) = some v from if_pos rfl) ?_
    have up₂ : ∀ b o, b ≠ cenv.locals → b ≠ J → h'.get? b = some o → h₂.get? b = some o := fun b o hbC hbJ e => hs₂.extBut b o hbC (hk₁ b o (by simpa using hbJ) e)
    have hzz : (ys ++ (#[v0, v1].take j)).size ≤ sizeLine := by
      have : (ys ++ (#[v0, v1].take j)).size = ys.size + j := by simp; (first | lia | omega)
      (first | lia | omega)
    refine wpAny_list_append_plain (hsz := hzz) (hD'.at fun o e => up₂ _ o hDC hDJ e) fun h₃ hl₃ hs₃ => ?_
    refine ⟨3 - (j + 1), by exact Nat.sub_succ_lt_self _ _ (Nat.lt_succ_of_lt (by assumption)), h₃, _, _, j + 1, rfl, ?_, ?_, ?_, hn₂.sameBut hs₃ (Ne.symm hDC), ?_, fun b o hbC hbJ hbD e => hs₃.extBut b o hbD (up₂ b o hbC hbJ (hk' b o hbC hbJ hbD e)), hlt, rfl⟩
    · exact (hst₁.1.at fun o e => hs₂.extBut _ o (Ne.symm hCJ) e).at fun o e => hs₃.extBut _ o (Ne.symm hDJ) e
    · exact (hst₁.2.at fun o e => hs₂.extBut _ o (Ne.symm hCT) e).at fun o e => hs₃.extBut _ o (Ne.symm hDT) e
    · have e : ys ++ (#[v0, v1].take (j + 1)) = (ys ++ (#[v0, v1].take j)).push v := by
        have hj2 : j = 0 ∨ j = 1 := by (first | lia | omega)
        rcases hj2 with rfl | rfl
        · simp at hv; subst hv; exact Array.toList_inj.mp (by simp)
        · simp at hv; subst hv; exact Array.toList_inj.mp (by simp)
      rw [e]; exact hl₃
    · intro x hx
      show (if x = y then _ else m' x) = _
      rw [if_neg hx]; exact hm' x hx
  · have hj2 : j = 2 := by (first | lia | omega)
    subst hj2
    refine W.done _ _ _ ⟨hit', ht'⟩ fun h₁ tk₁ hk₁ => ?_
    have hDw : D ∉ [J] := by simpa using hDJ
    have hCw : cenv.locals ∉ [J] := by simpa using hCJ
    refine hR h₁ tk₁ m' ?_ (hn'.at' fun o e => hk₁ _ o hCw e) hm' fun b o hbC hbJ hbD e => hk₁ b o (by simpa using hbJ) (hk' b o hbC hbJ hbD e)
    have e : (#[v0, v1].take 2) = #[v0, v1] := by simp
    rw [e] at hD'
    exact hD'.at fun o e => hk₁ _ o hDw e
theorem intsAre_append {vs us : List Value} {ns ks : List Int} (h : IntsAre vs ns) (g : IntsAre us ks) : IntsAre (vs ++ us) (ns ++ ks) := by
  induction h with
  | nil => exact g
  | cons k t _ ih => exact .cons k t ih
theorem pairs_comp {x y : Str} {px py pe : Pos} {iter it2 : Expr} {scope : Scope} {pos : Pos} {Q : Value → Shared → Prop} {a : Addr} {us : List Value} {r : List Int} (f : Int → Int × Int) (hh : A.handled = none)
    (hclos : closureFor scope env = pure []) (hcell : ∀ y ∈ scope.names, y.2 ≠ .cell) (hkind : scope.kind = .function) (hnames : ∀ y ∈ scope.names, y.2 = .local → scope.names.lookup y.1 = some .local) (hx : scope.names.lookup x = some .local) (hy : scope.names.lookup y = some .local) (hyd : (y == ("__debug__" : Str)) = false)
    (hev : ∀ Q' : Value → Shared → Prop, Q' (.ref a) s → wpAny (model prog w) A (eval iter env) Q' E s) (hl : s.heap.IsList a us.toArray) (hi : IntsAre us r) (hr : r.length ≤ 1000)
    (hpair : ∀ C s₃ m₃ n t, n ∈ r → s₃.heap.Ns C m₃ → m₃ x = some (.int n t) → ∀ (Q' : Value → Shared → Prop), (∀ T h' tk t1 t2, (∀ b o, s₃.heap.get? b = some o → h'.get? b = some o) → s₃.heap.get? T = none → h'.IsTuple T #[.int (f n).1 t1, .int (f n).2 t2] → Q' (.ref T) { s₃ with heap := h', toks := tk }) →
      wpAny (model prog w) A (eval it2 (compEnvC scope [] C env)) Q' (fun _ _ => False) s₃)
    (h : ∀ D h' tk vs, s.heap.get? D = none → h'.IsList D vs.toArray → IntsAre vs (r.flatMap fun n => [(f n).1, (f n).2]) → (∀ b o, s.heap.get? b = some o → h'.get? b = some o) → Q (.ref D) { s with heap := h', toks := tk })
    (hs : ∀ x, foldedSetIterable iter env x = pure x) (hs2 : ∀ C x, foldedSetIterable it2 (compEnvC scope [] C env) x = pure x) :
    wpAny (model prog w) A (eval (.ListComp (.Name y pe) [⟨.Name x px, iter, [], 0⟩, ⟨.Name y py, it2, [], 0⟩] scope pos) env) Q E s := by
  rw [eval_ListComp]
  refine wpAny_comprehension_free (use := none) rfl hs hclos hkind hnames (hev _ (wpAny_pyIter_list hl ?_))
  generalize hH : s.heap.push { cls := .type "list_iterator", data := .fields #[.ref a, .int 0 0] } = H1
  have old1 : ∀ b o, s.heap.get? b = some o → H1.get? b = some o := fun b o e => hH ▸ Heap.get?_push_of_some _ e
  have hI : H1.get? s.heap.objs.size = some { cls := .type "list_iterator", data := .fields #[.ref a, .int 0 0] } := hH ▸ Heap.get?_push_size _ rfl
  have hz1 : H1.objs.size = s.heap.objs.size + 1 := by rw [← hH, Heap.size_push]
  refine wpAny_newObj_type (wpAny_newFunctionEnv hcell (by intro y hy; simp at hy) (fun h₁ hns₁ hsb₁ => ?_) hkind)
  dsimp only at hns₁ hsb₁ ⊢
  generalize hH2 : H1.push { cls := .type "list", dict := none, data := .seq ([] : List Value).toArray } = H2 at hns₁ hsb₁ ⊢
  have hz2 : H2.objs.size = s.heap.objs.size + 2 := by rw [← hH2, Heap.size_push, hz1]
  have hD2 : H2.get? H1.objs.size = some { cls := .type "list", dict := none, data := .seq ([] : List Value).toArray } := hH2 ▸ Heap.get?_push_size _ rfl
  have old2 : ∀ b o, b ≠ H2.objs.size → H1.get? b = some o → h₁.get? b = some o := fun b o hb e => hsb₁.extBut b o hb (Heap.get?_push_of_some _ (hH2 ▸ Heap.get?_push_of_some _ e))
  obtain ⟨oa, hoa, _⟩ := id hl
  have hal : a < s.heap.objs.size := Heap.lt_size hoa
  have n1 : a ≠ s.heap.objs.size := by intro q; rw [← q] at hal; exact Nat.lt_irrefl _ hal
  have n2 : H1.objs.size ≠ s.heap.objs.size := by rw [hz1]; exact Nat.succ_ne_self _
  have n3 : H2.objs.size ≠ s.heap.objs.size := by rw [hz2]; exact Nat.ne_of_gt (Nat.lt_add_of_pos_right (by decide))
  have n4 : H1.objs.size ≠ H2.objs.size := by rw [hz1, hz2]; exact Nat.ne_of_lt (Nat.lt_succ_self _)
  have n5 : a ≠ H1.objs.size := by rw [hz1]; exact Nat.ne_of_lt (Nat.lt_succ_of_lt hal)
  have n6 : a ≠ H2.objs.size := by rw [hz2]; exact Nat.ne_of_lt (Nat.lt_succ_of_lt (Nat.lt_succ_of_lt hal))
  have hacc : h₁.PlainList H1.objs.size #[] := ⟨_, hsb₁.extBut _ _ n4 (Heap.get?_push_of_some _ hD2)⟩
  have hit₁ : h₁.IsListIter s.heap.objs.size a 0 := ⟨_, old2 _ _ (Ne.symm n3) hI, rfl, rfl⟩
  have hl₁ : h₁.IsList a us.toArray := hl.at fun o e => old2 _ _ n6 (old1 _ _ e)
  have hxk := lookup_relabel_local (env := env) hx
  have hyk := lookup_relabel_local (env := env) hy
  have fresh : ∀ b, s.heap.objs.size ≤ b → s.heap.get? b = none := fun b hb => by
    cases e : s.heap.get? b with
    | none => rfl
    | some o' => exact absurd (Heap.lt_size e) (Nat.not_lt.mpr hb)
  have W := fun (A' : Around) (hA' : A'.handled = none) => Walks.list (prog := prog) (w := w) hA' s.heap.objs.size a n1 us.toArray
  have hhm : (A.mark none).handled = none := by
    first | exact hh | (simp only [Around.mark]; exact hh) | (unfold Around.mark; simp [hh])
  have loop : ∀ s₃ : Shared, s₃ = ⟨h₁, s.gens, s.drawn, s.toks + ([] : List (Str × Value)).length, s.os⟩ →
      codeAny (model prog w) A (.compLoop (.ListComp (.Name y pe) [⟨.Name x px, iter, [], 0⟩, ⟨.Name y py, it2, [], 0⟩] scope pos) 0 (.ref s.heap.objs.size) (.ref H1.objs.size) (compEnvC scope [] H2.objs.size env))
        (compPost (model prog w) A E none Q (.ref H1.objs.size) H2.objs.size) s₃ := by
    rintro s₃ rfl
    refine codeAny_two0 (CInv0 s s.heap.objs.size a H1.objs.size H2.objs.size us r f) ?_ (r.length + 1)
      ⟨h₁, _, _, #[], 0, rfl, hit₁, hl₁, hacc, hns₁, by simpa using IntsAre.nil, fun b o e => old2 _ _ (by intro q; rw [q, fresh _ (by rw [hz2]; (first | lia | omega))] at e; cases e) (old1 _ _ e), Nat.zero_le _, rfl⟩ (hs := hs2 _)
    rintro k s' ⟨h', tk, m', ys, i, rfl, hit', hl', hD', hn', hys, hk', hi', rfl⟩
    have hus : us.toArray.size = r.length := by simp [hi.length]
    by_cases hlt : i < r.length
    · refine (W _ hh).item i _ _ _ (by rw [hus]; exact hlt) ⟨hit', hl'⟩ fun v h₂ tk₂ hv hst₂ hk₂ => ?_
      obtain ⟨n, t, rfl, hdr, hnm⟩ := ints_at hi hv
      have hCw : H2.objs.size ∉ [s.heap.objs.size] := by simpa using n3
      refine wpAny_assign_Name (wpAny_storeName_local hxk (hn'.at' fun o e => hk₂ _ o hCw e) (fun h₃ hn₃ hs₃ => ?_) (by simp [compEnvC, relabel, hkind]))
      have up₃ : ∀ b o, b ≠ H2.objs.size → b ≠ s.heap.objs.size → h'.get? b = some o → h₃.get? b = some o := fun b o hbC hbI e => hs₃.extBut b o hbC (hk₂ b o (by simpa using hbI) e)
      refine hpair _ _ _ n t hnm hn₃ (by simp) _ fun T h₄ tk₄ t1 t2 hk₄ hT₄ ht₄ => ?_
      refine wpAny_pyIter_tuple ht₄ ?_
      have hJ : h₄.get? h₄.objs.size = none := Heap.get?_none_of_le (Nat.le_refl _)
      obtain ⟨oT, hoT, _⟩ := id ht₄
      have hTJ : T ≠ h₄.objs.size := by intro q; rw [q] at hoT; rw [hJ] at hoT; cases hoT
      have inst : ∀ b o, h₃.get? b = some o → b ≠ T ∧ b ≠ h₄.objs.size := fun b o e => ⟨(by rintro rfl; rw [hT₄] at e; cases e), (by rintro rfl; have := hk₄ _ _ e; rw [hJ] at this; cases this)⟩
      have hD₃ : h₃.PlainList H1.objs.size ys := hD'.at fun o e => up₃ _ o n4 n2 e
      have hit₃ : h₃.IsListIter s.heap.objs.size a (i + 1) := hst₂.1.at fun o e => hs₃.extBut _ o (Ne.symm n3) e
      have hl₃ : h₃.IsList a us.toArray := hst₂.2.at fun o e => hs₃.extBut _ o n6 e
      have push : ∀ b o, h₃.get? b = some o → (h₄.push { cls := .type "tuple_iterator", data := .fields #[.ref T, .int 0 0] }).get? b = some o := fun b o e => Heap.get?_push_of_some _ (hk₄ _ _ e)
      obtain ⟨oD, hoD⟩ := id hD₃
      obtain ⟨oC, _, _, hoC, _⟩ := id hn₃
      obtain ⟨oI, hoI, _⟩ := id hit₃
      obtain ⟨oa', hoa', _⟩ := id hl₃
      have l1 := hys.length
      have l2 : ((r.take i).flatMap fun n => [(f n).1, (f n).2]).length = 2 * i := by
        have : ∀ l : List Int, (l.flatMap fun n => [(f n).1, (f n).2]).length = 2 * l.length := fun l => by
          induction l with
          | nil => rfl
          | cons a l ih => rw [List.flatMap_cons, List.length_append, ih]; simp; (first | lia | omega)
        rw [this, List.length_take]; (first | lia | omega)
      have hfin : ∀ (s₅ : Shared), s₅ = ⟨h₄.push { cls := .type "tuple_iterator", data := .fields #[.ref T, .int 0 0] }, s.gens, s.drawn, tk₄, s.os⟩ → codeAny (model prog w) (A.mark none) (.compLoop (.ListComp (.Name y pe) [⟨.Name x px, iter, [], 0⟩, ⟨.Name y py, it2, [], 0⟩] scope pos) 1 (.ref h₄.objs.size) (.ref H1.objs.size) (compEnvC scope [] H2.objs.size env))
          (fun r_1 s₅ => match r_1 with | .ok _ => ∃ m, m < r.length + 1 - i ∧ CInv0 s s.heap.objs.size a H1.objs.size H2.objs.size us r f m s₅ | .error _ => False) s₅ := by
        rintro s₅ rfl
        refine two1_loop (T := T) (v0 := .int (f n).1 t1) (v1 := .int (f n).2 t2) (cenv := compEnvC scope [] H2.objs.size env) hhm hyk (by simp [compEnvC, relabel, hkind]) (by simp [compEnvC, relabel, hkind]) hyd hTJ (inst _ _ hoD).2 (inst _ _ hoD).1 n4 (inst _ _ hoC).2 (inst _ _ hoC).1 ⟨_, Heap.get?_push_size _ rfl, rfl, rfl⟩ (ht₄.at fun o e => Heap.get?_push_of_some _ e) (hD₃.at fun o e => push _ _ e) (hn₃.at' fun o e => push _ _ e) ?_ ?_
        · rw [l2] at l1
          rw [sizeLine_eq]
          have : ys.size = 2 * i := by simpa using l1
          (first | lia | omega)
        · intro h₆ tk₆ m₆ hD₆ hn₆ _ hk₆
          refine ⟨r.length + 1 - (i + 1), by exact Nat.sub_succ_lt_self _ _ (Nat.lt_succ_of_lt (by assumption)), h₆, tk₆, m₆, _, i + 1, rfl, ?_, ?_, hD₆, hn₆, ?_, ?_, hlt, rfl⟩
          · exact hit₃.at fun o e => hk₆ _ _ (Ne.symm n3) (inst _ _ hoI).2 (Ne.symm n2) (push _ _ e)
          · exact hl₃.at fun o e => hk₆ _ _ n6 (inst _ _ hoa').2 n5 (push _ _ e)
          · have e : r.take (i + 1) = r.take i ++ [n] := by
              rw [List.take_succ_eq_append_getElem hlt]
              have : r[i] = n := by
                have := congrArg List.head? hdr
                rw [List.head?_drop, List.getElem?_eq_getElem hlt] at this
                simpa using this
              rw [this]
            rw [e, List.flatMap_append, Array.toList_append]
            exact intsAre_append hys (.cons _ _ (.cons _ _ .nil))
          · intro b o e
            have hb : b < s.heap.objs.size := Heap.lt_size e
            have b1 : b ≠ H2.objs.size := by rw [hz2]; exact Nat.ne_of_lt (Nat.lt_succ_of_lt (Nat.lt_succ_of_lt hb))
            have b2 : b ≠ s.heap.objs.size := by intro q; rw [q] at hb; exact Nat.lt_irrefl _ hb
            have b3 : b ≠ H1.objs.size := by rw [hz1]; exact Nat.ne_of_lt (Nat.lt_succ_of_lt hb)
            have e3 := up₃ b o b1 b2 (hk' b o e)
            exact hk₆ b o b1 (inst _ _ e3).2 b3 (push _ _ e3)
      refine codeAny_two1_start (hfin _ rfl) ?_
      exact (Walks.tuple (prog := prog) (w := w) (A := A.mark none) hhm h₄.objs.size T hTJ #[.int (f n).1 t1, .int (f n).2 t2]).self 0 _ _ _ ⟨⟨_, Heap.get?_push_size _ rfl, rfl, rfl⟩, ht₄.at fun o e => Heap.get?_push_of_some _ e⟩ (hfin _ rfl)
    · have hin : i = r.length := by (first | lia | omega)
      subst hin
      refine (W _ hh).done _ _ _ (by rw [hus]; exact ⟨hit', hl'⟩) fun h₂ tk₂ hk₂ => ?_
      have hCw : H2.objs.size ∉ [s.heap.objs.size] := by simpa using n3
      have hDw : H1.objs.size ∉ [s.heap.objs.size] := by simpa using n2
      refine ⟨m', hn'.at' fun o e => hk₂ _ o hCw e, fun h₃ hs₃ => ?_⟩
      have hD₃ : h₃.PlainList H1.objs.size ys := (hD'.at fun o e => hk₂ _ o hDw e).at fun o e => hs₃.extBut _ o n4 e
      rw [List.take_length] at hys
      refine h _ h₃ tk₂ ys.toList (fresh _ (by rw [hz1]; (first | lia | omega))) (by simpa using hD₃.isList) hys fun b o e => ?_
      have hb : b < s.heap.objs.size := Heap.lt_size e
      have b1 : b ≠ H2.objs.size := by rw [hz2]; exact Nat.ne_of_lt (Nat.lt_succ_of_lt (Nat.lt_succ_of_lt hb))
      have b2 : b ∉ [s.heap.objs.size] := by simp; intro q; rw [q] at hb; exact Nat.lt_irrefl _ hb
      exact hs₃.extBut b o b1 (hk₂ b o b2 (hk' b o e))
  exact codeAny_compStart_list (loop _ rfl) ((W _ hh).self 0 _ _ _ ⟨hit₁, hl₁⟩ (loop _ rfl))
end
end

section
open PySem PySem.W PySem.Spec PySem.Calls PyProof.Rows PyProof.V PySem.SeqAt
theorem ints_fun {us : List Value} {r r' : List Int} (h : IntsAre us r) (h' : IntsAre us r') : r = r' := by
  induction h generalizing r' with
  | nil => cases h'; rfl
  | cons k t _ ih => cases h' with | cons k' t' h'' => rw [ih h'']
section
variable {prog : Program} {w : World} {A : Around} {E : Value → Shared → Prop} {s : Shared} {env : Env} {g : Heap} {L : Addr} {m : Str → Option Value} {news : List (Addr × Obj)}
theorem ne_ints {a b : Addr} {us vs : List Value} {r q : List Int} {Q : Value → Shared → Prop} (hl : s.heap.IsList a us.toArray) (hi : IntsAre us r) (hl' : s.heap.IsList b vs.toArray) (hi' : IntsAre vs q) (hu : A.units + 64 < cLine)
    (h : Q (.bool (!decide (r = q))) s) : wpAny (model prog w) A (compareOp .NotEq (.ref a) (.ref b)) Q E s :=
  ne_dataH_same (reads_of_ints hl hi) (reads_of_ints hl' hi') (shaped_ints r) (shaped_ints q) hu (by simp only [noMix]; exact noMix_ints r q) (by simp only [PySem.Spec.same]; rw [same_ints]; exact h)
/-- a list of lists is built, clause by clause, and laid under a name -/
theorem assign_rows {elt test iter : Expr} {x y : Str} {px py : Pos} {scope : Scope} {pos spos : Pos} {Q : Flow → Shared → Prop} {R : Addr} {us : List Value} {rows : List (List Int)} (f : List Int → List Int) (hh : A.handled = none)
    (hsw : swapsWith (.ListComp elt [⟨.Name x px, iter, [test], 0⟩] scope pos) (some (.Name y py)) spos.line env = pure true)
    (hclos : closureFor scope env = pure []) (hcell : ∀ z ∈ scope.names, z.2 ≠ .cell) (hkind : scope.kind = .function)
    (hnames : ∀ z ∈ scope.names, z.2 = .local → scope.names.lookup z.1 = some .local) (hx : scope.names.lookup x = some .local)
    (hy : env.kindOf y = some .local) (hp : (env.scope.kind == .class || (env.scope.kind == .module && env.locals != env.globals)) = false) (hLe : env.locals = L)
    (hev : ∀ Q' : Value → Shared → Prop, Q' (.ref R) s → wpAny (model prog w) A (eval iter env) Q' E s) (F : Fr g L s.heap m) (N : News g L s.heap news) (hl : s.heap.IsList R us.toArray) (hr : RowsAt s.heap us rows) (hz : us.length ≤ 1000)
    (htest : ∀ C a ua r s₃ m₃ E', r ∈ rows → s₃.heap.IsList a ua.toArray → IntsAre ua r → s₃.heap.Ns C m₃ → m₃ x = some (.ref a) → wpAny (model prog w) A (isTrue test (compEnvC scope [] C env) (eval test (compEnvC scope [] C env))) (fun b s₄ => b = !r.isEmpty ∧ PySem.Keeps s₃ s₄) E' s₃)
    (helt : ∀ C a ua r s₃ m₃ E', r ∈ rows → s₃.heap.IsList a ua.toArray → IntsAre ua r → s₃.heap.Ns C m₃ → m₃ x = some (.ref a) →
      wpAny (model prog w) A (eval elt (compEnvC scope [] C env)) (fun v s₄ => (∃ T its, v = .ref T ∧ s₃.heap.get? T = none ∧ s₄.heap.IsList T its ∧ IntsAre its.toList (f r)) ∧ PySem.Keeps s₃ s₄) E' s₃)
    (h : ∀ D h' tk ys n, Fr g L h' (fun z => if z = y then some (.ref D) else m z) → News g L h' ((D, listOf (List.toArray ys) n) :: news) → (∀ q ∈ news, q.1 ≠ D) → RowsAt h' ys ((rows.filter fun r => !r.isEmpty).map f) → (∀ a, Value.ref a ∈ ys → s.heap.get? a = none ∧ a ≠ D) → Q .next { s with heap := h', toks := tk })
    (hs : autoParam (∀ x, foldedSetIterable iter env x = pure x) au2._auto_1) :
    wpAny (model prog w) A (exec (.Assign [.Name y py] (.ListComp elt [⟨.Name x px, iter, [test], 0⟩] scope pos) spos) env) Q E s := by
  subst hLe
  rw [exec_Assign_Name_used _ _ _ _ hsw]
  refine wpAny_bind (wpAny_standAt (wpAny_bind ?_))
  show wpAny _ A (do let _ ← comprehension (.ListComp elt [⟨.Name x px, iter, [test], 0⟩] scope pos) scope env _ (newList []) false (eval iter env) (some (assign (.Name y py) env))) _ _ s
  refine wpAny_bind (wpAny_mono (wpAny_comprehension_free (use := some (assign (.Name y py) env)) (Q := fun _ s' => Q .next s') rfl hs hclos hkind hnames
    (hev _ (wpAny_pyIter_list hl ?_))) (fun _ s' hq => wpAny_pure (wpAny_pure hq)) fun _ _ e => e)
  obtain ⟨oR, hoR, _⟩ := id hl
  have hRI : R ≠ s.heap.objs.size := Nat.ne_of_lt (Heap.lt_size hoR)
  have uniq : ∀ v r r', (v, r) ∈ us.zip rows → (v, r') ∈ us.zip rows → r = r' := fun v r r' h1 h2 => by
    obtain ⟨i, hi⟩ := List.getElem?_of_mem h1
    obtain ⟨j, hj⟩ := List.getElem?_of_mem h2
    rw [List.getElem?_zip_eq_some] at hi hj
    obtain ⟨a, ua, r1, e1, e2, e3, e4⟩ := hr.at i v hi.1
    obtain ⟨a', ua', r2, e1', e2', e3', e4'⟩ := hr.at j v hj.1
    rw [hi.2] at e2; cases e2
    rw [hj.2] at e2'; cases e2'
    rw [e1] at e1'; cases e1'
    obtain ⟨o, ho, _, n, hd⟩ := e3
    obtain ⟨o', ho', _, n', hd'⟩ := e3'
    rw [ho] at ho'; cases ho'
    rw [hd] at hd'
    simp at hd'
    obtain ⟨rfl, _⟩ := hd'
    exact ints_fun e4 e4'
  have old : ∀ b o, s.heap.get? b = some o → (s.heap.push { cls := .type "list_iterator", data := .fields #[.ref R, .int 0 0] }).get? b = some o := fun b o e => Heap.get?_push_of_some _ e
  have W := Walks.list (prog := prog) (w := w) hh s.heap.objs.size R hRI us.toArray
  have at_v : ∀ (i : Nat) (v : Value) (s₃ : Shared), us.toArray[i]? = some v → (∀ b o, b ∉ [s.heap.objs.size] → (s.heap.push { cls := .type "list_iterator", data := .fields #[.ref R, .int 0 0] }).get? b = some o → s₃.heap.get? b = some o) →
      ∃ a ua r, v = .ref a ∧ (v, r) ∈ us.zip rows ∧ r ∈ rows ∧ s₃.heap.IsList a ua.toArray ∧ IntsAre ua r := fun i v s₃ hv hk => by
    obtain ⟨a, ua, r, rfl, e2, e3, e4⟩ := hr.at i v (by simpa using hv)
    refine ⟨a, ua, r, rfl, ?_, List.mem_of_getElem? e2, e3.at fun o e => hk _ o ?_ (old _ _ e), e4⟩
    · exact List.mem_of_getElem? (i := i) (by rw [List.getElem?_zip_eq_some]; exact ⟨by simpa using hv, e2⟩)
    · obtain ⟨o', ho', _⟩ := e3
      simp only [List.mem_cons, List.not_mem_nil, or_false]
      exact Nat.ne_of_lt (Heap.lt_size ho')
  refine comp_block_walkCO (RR := fun acc C => compPost (model prog w) A E (some (assign (.Name y py) env)) (fun _ s' => Q .next s') acc C) (s₂ := { s with heap := s.heap.push { cls := .type "list_iterator", data := .fields #[.ref R, .int 0 0] } }) W (by rw [sizeLine_eq]; simp; (first | lia | omega))
    (fun v => @decide (∃ r, (v, r) ∈ us.zip rows ∧ r ≠ []) (Classical.propDecidable _)) (fun v its => ∃ r, (v, r) ∈ us.zip rows ∧ IntsAre its.toList (f r)) ?_ hcell hkind hx ⟨⟨_, Heap.get?_push_size _ rfl, rfl, rfl⟩, hl.at fun o e => old _ _ e⟩ ?_ ⟨?_, ?_⟩ ?_
  · intro i h hst b hb
    rw [List.mem_singleton.mp hb]
    obtain ⟨o, ho, _⟩ := hst.1
    exact ⟨o, ho⟩
  · intro b hb
    show b < (s.heap.push _).objs.size
    rw [Heap.size_push]
    rcases List.mem_cons.mp hb with rfl | hb
    · exact Nat.lt_succ_self _
    · rw [List.mem_singleton.mp hb]; exact Nat.lt_succ_of_lt (Heap.lt_size hoR)
  · intro C i v s₃ m₃ E' _ hv hns hm hk _
    obtain ⟨a, ua, r, rfl, e1, e2, e3, e4⟩ := at_v i v s₃ hv hk
    refine wpAny_tests_one (wpAny_mono (htest C a ua r s₃ m₃ E' e2 e3 e4 hns hm) (fun b s₄ hb => ⟨?_, hb.2⟩) fun _ _ z => z)
    rw [hb.1]
    cases r with
    | nil =>
      refine (@decide_eq_false _ (Classical.propDecidable _) ?_).symm
      rintro ⟨r', h1, h2⟩
      exact h2 (uniq _ _ _ h1 e1)
    | cons z q => exact (@decide_eq_true _ (Classical.propDecidable _) ⟨_, e1, List.cons_ne_nil _ _⟩).symm
  · intro C i v s₃ m₃ E' _ hv _ hns hm hk _
    obtain ⟨a, ua, r, rfl, e1, e2, e3, e4⟩ := at_v i v s₃ hv hk
    refine wpAny_mono (helt C a ua r s₃ m₃ E' e2 e3 e4 hns hm) (fun b s₄ hb => ?_) fun _ _ z => z
    obtain ⟨⟨T, its, h1, h2, h3, h4⟩, h5⟩ := hb
    exact ⟨⟨T, its, h1, h2, h3, r, e1, h4⟩, h5⟩
  · intro D C h' tk m' ys vs hD hC hDC hnC hlD hplD hlen hP hF hnd hk
    have hvs : vs = us := by
      apply List.ext_getElem?
      intro i
      by_cases q : i < vs.length
      · have e := hP i vs[i] (List.getElem?_eq_getElem q)
        rw [List.getElem?_eq_getElem q]
        simpa using e.symm
      · rw [List.getElem?_eq_none (by (first | lia | omega)), List.getElem?_eq_none (by simp at hlen; (first | lia | omega))]
    subst hvs
    have hns := F.ns
    have hLn : ∀ b, (s.heap.push { cls := .type "list_iterator", data := .fields #[.ref R, .int 0 0] }).get? b = none → s.heap.get? b = none := fun b e => by
      cases q : s.heap.get? b with
      | none => rfl
      | some o => rw [old b o q] at e; cases e
    have up : ∀ b o, s.heap.get? b = some o → h'.get? b = some o := fun b o e => hk b o (by simp only [List.mem_cons, List.not_mem_nil, or_false]; exact Nat.ne_of_lt (Heap.lt_size e)) (old b o e)
    have hDs := hLn D hD
    have hCs := hLn C hC
    have hLC : env.locals ≠ C := by rintro rfl; obtain ⟨o, _, _, ho, _⟩ := hns; rw [hCs] at ho; cases ho
    have hLD : env.locals ≠ D := by rintro rfl; obtain ⟨o, _, _, ho, _⟩ := hns; rw [hDs] at ho; cases ho
    show wpAny _ A (assign (.Name y py) env (.ref D)) _ _ _
    refine wpAny_assign_Name (wpAny_storeName_local hy (hns.at' fun o e => up _ o e) (fun h₂ hn₂ hs₂ => ?_) hp)
    refine ⟨m', hnC.sameBut hs₂ (Ne.symm hLC), fun h₃ hs₃ => ?_⟩
    have up₃ : ∀ b o, b ≠ env.locals → b ≠ C → h'.get? b = some o → h₃.get? b = some o := fun b o hbL hbC e => hs₃.extBut b o hbC (hs₂.extBut b o hbL e)
    have hgL : g.get? env.locals = none := kts_self F
    have hg : ∀ b, s.heap.get? b = none → g.get? b = none := fun b e => by
      cases q : g.get? b with
      | none => rfl
      | some o => have := F.keep b o q; rw [e] at this; cases this
    have F₃ : Fr g env.locals h₃ (fun z => if z = y then some (.ref D) else m z) :=
      ⟨hn₂.sameBut hs₃ hLC, fun b o e => up₃ b o (by rintro rfl; rw [hgL] at e; cases e) (by rintro rfl; rw [hg _ hCs] at e; cases e) (up b o (F.keep b o e)), F.above⟩
    obtain ⟨nD, hDo⟩ := hplD
    refine h D h₃ _ ys.toList nD F₃ ?_ (fun q hq e => by have := (N q hq).1; rw [e, hDs] at this; cases this) ?_ ?_
    · intro q hq
      cases hq with
      | head => exact ⟨by simpa using up₃ _ _ (Ne.symm hLD) hDC hDo, Ne.symm hLD, hg _ hDs⟩
      | tail _ hm => exact ⟨up₃ _ _ (N q hm).2.1 (by rintro rfl; have := (N q hm).1; rw [hCs] at this; cases this) (up _ _ (N q hm).1), (N q hm).2⟩
    · have key : ∀ (us' : List Value) (rows' : List (List Int)) (ys' : List Value), us'.length = rows'.length → (∀ p ∈ us'.zip rows', p ∈ vs.zip rows) →
          Paired (LstAt (s.heap.push { cls := .type "list_iterator", data := .fields #[.ref R, .int 0 0] }) C D [s.heap.objs.size] (fun v its => ∃ r, (v, r) ∈ vs.zip rows ∧ IntsAre its.toList (f r)) h') (us'.filter fun v => @decide (∃ r, (v, r) ∈ vs.zip rows ∧ r ≠ []) (Classical.propDecidable _)) ys' → RowsAt h₃ ys' ((rows'.filter fun r => !r.isEmpty).map f) := by
        intro us'
        induction us' with
        | nil =>
          intro rows' ys' hl' _ hF'
          cases rows' with
          | nil => cases hF'; exact .nil
          | cons => simp at hl'
        | cons v us' ih =>
          intro rows' ys' hl' hsub hF'
          cases rows' with
          | nil => simp at hl'
          | cons r rows' =>
            have hm : (v, r) ∈ vs.zip rows := hsub _ (by simp)
            have hsub' : ∀ p ∈ us'.zip rows', p ∈ vs.zip rows := fun p hp => hsub p (by simp [hp])
            have hl'' : us'.length = rows'.length := by simpa using hl'
            cases hre : r with
            | nil =>
              have hdec : @decide (∃ r, (v, r) ∈ vs.zip rows ∧ r ≠ []) (Classical.propDecidable _) = false := @decide_eq_false _ (Classical.propDecidable _) (by
                rintro ⟨r', h1, h2⟩
                exact h2 ((uniq _ _ _ h1 hm).trans hre))
              rw [List.filter_cons_of_neg (by rw [hdec]; decide)] at hF'
              exact ih rows' ys' hl'' hsub' hF'
            | cons z q =>
              have hdec : @decide (∃ r, (v, r) ∈ vs.zip rows ∧ r ≠ []) (Classical.propDecidable _) = true := @decide_eq_true _ (Classical.propDecidable _) ⟨r, hm, by rw [hre]; exact List.cons_ne_nil _ _⟩
              rw [List.filter_cons_of_pos (by exact hdec)] at hF'
              cases hF' with
              | cons hy ht =>
                obtain ⟨T, its, rfl, h1, hTC, hTw, hTD, hlT, r', hr', hints⟩ := hy
                have : r' = r := uniq _ _ _ hr' hm
                subst this
                have hTL : T ≠ env.locals := by
                  rintro rfl
                  obtain ⟨o, _, _, ho, _⟩ := hns
                  rw [hLn _ h1] at ho; cases ho
                rw [← hre]
                have e : ((r' :: rows').filter fun r => !r.isEmpty) = r' :: (rows'.filter fun r => !r.isEmpty) := List.filter_cons_of_pos (by rw [hre]; rfl)
                rw [e, List.map_cons]
                refine .cons (us := its.toList) ?_ hints (ih rows' _ hl'' hsub' ht)
                have := hlT.at (h' := h₃) fun o e => up₃ _ _ hTL hTC e
                simpa using this
      exact key vs rows ys.toList hr.length (fun p hp => hp) hF
    · intro a ha
      obtain ⟨_, T, its, e, h1, _, _, hTD, _⟩ := Paired.right hF _ ha
      cases e
      exact ⟨hLn _ h1, hTD⟩
end
end

section
open PySem PySem.W PySem.Spec PySem.Calls PyProof.Rows PyProof.V PySem.SeqAt
section
variable {prog : Program} {w : World} {A : Around} {s : Shared} {env : Env} {h₀ : Heap}
/-- names laid by turns -/
theorem kst_start (m : Str → Option Value) (xs : List Str) : m = kstO m (xs.zip (xs.map m)) := (kstO_self m xs).symm
theorem iter_v {target : Expr} {body orelse : List Stmt} {l : Addr} {items : Array Value} {m : Str → Option Value} {news : List (Addr × Obj)} {R : Result → Shared → Prop} (xs : List Str)
    (J : Nat → List (Option Value) → List (Addr × Obj) → Prop) (upd : Nat → Value → (Str → Option Value) → (Str → Option Value))
    (F : Fr h₀ env.locals s.heap m) (N : News h₀ env.locals s.heap news) (hg : AllBare s.gens) (h0 : J 0 (xs.map m) news)
    (hl : ∀ i vals news₁ h, J i vals news₁ → News h₀ env.locals h news₁ → (∀ b o, h₀.get? b = some o → h.get? b = some o) → h.IsList l items)
    (go : ∀ i v vals news₁ (s₁ : Shared) I (Q' : Unit → Shared → Prop), items[i]? = some v → J i vals news₁ → s₁.heap.IsListIter I l (i + 1) → Q' () s₁ → wpAny (model prog w) A (letOwnedTupleGo target (.ref I) v) Q' (fun _ _ => False) s₁)
    (asg : ∀ i v vals m₁ news₁ (s₁ : Shared) (Q' : Unit → Shared → Prop), items[i]? = some v → J i vals news₁ → Fr h₀ env.locals s₁.heap m₁ → News h₀ env.locals s₁.heap news₁ →
      (∀ h' tk', Fr h₀ env.locals h' (upd i v m₁) → (∀ b o, b ≠ env.locals → s₁.heap.get? b = some o → h'.get? b = some o) → Q' () { s₁ with heap := h', toks := tk' }) → wpAny (model prog w) A (assign target env v) Q' (fun _ _ => False) s₁)
    (turn : ∀ i v vals news₁ h gs tk I io, items[i]? = some v → J i vals news₁ → AllBare gs → ItO io l (i + 1) → (∀ p ∈ news₁, p.1 ≠ I) → (∀ p ∈ news, p.1 < I) →
      Fr h₀ env.locals h (upd i v (kstO m (xs.zip vals))) → News h₀ env.locals h ((I, io) :: news₁) →
      wpAny (model prog w) A (execs body env) (TurnW h₀ env.locals I io xs m (J (i + 1)) s (fun s' => R (.ok .next) s') fun v s' => R (.ok (.ret v)) s') (fun _ _ => False) ⟨h, gs, s.drawn, tk, s.os⟩)
    (done : ∀ h gs tk vals news₁, J items.size vals news₁ → AllBare gs → Fr h₀ env.locals h (kstO m (xs.zip vals)) → News h₀ env.locals h news₁ →
      wpAny (model prog w) A (execs orelse env) (fun f s' => R (.ok f) s') (fun _ _ => False) ⟨h, gs, s.drawn, tk, s.os⟩)
    (hh : A.handled = none) :
    wpAny (model prog w) A (pyIter (.ref l)) (fun it s₂ => codeAny (model prog w) A (.forLoop target it body orelse env) R s₂) (fun _ _ => False) s := by
  refine iter_gen (items := items) (fun i m' news' => ∃ vals, m' = kstO m (xs.zip vals) ∧ J i vals news') upd F N hg ⟨_, kst_start m xs, h0⟩ ?_ ?_ ?_ ?_ ?_ hh
  · rintro i m₁ news₁ h ⟨vals, rfl, hJ⟩ F₁ N₁
    exact hl i vals news₁ h hJ N₁ F₁.keep
  · rintro i v m₁ news₁ s₁ I Q' hv ⟨vals, rfl, hJ⟩ hit hq
    exact go i v vals news₁ s₁ I Q' hv hJ hit hq
  · rintro i v m₁ news₁ s₁ Q' hv ⟨vals, rfl, hJ⟩ F₁ N₁ hq
    exact asg i v vals _ news₁ s₁ Q' hv hJ F₁ N₁ hq
  · rintro i v m₁ news₁ h gs tk I io hv ⟨vals, rfl, hJ⟩ hgs hio hI1 hI2 F₁ N₁
    refine wpAny_mono (turn i v vals news₁ h gs tk I io hv hJ hgs hio hI1 hI2 F₁ N₁) (fun f s₃ h₃ => ?_) fun _ _ x => x
    have fin : Hold (TurnWE h₀ env.locals I io xs m (J (i + 1)) s s₃) → Hold (TurnLE h₀ env.locals I io (fun m' news' => ∃ vals, m' = kstO m (xs.zip vals) ∧ J (i + 1) vals news') s s₃) := TurnWE.toL
    cases f with
    | ret v => exact h₃
    | brk => exact h₃
    | cont => exact fin h₃
    | next => exact fin h₃
  · rintro h gs tk m₁ news₁ ⟨vals, rfl, hJ⟩ hgs F₁ N₁
    exact done h gs tk vals news₁ hJ hgs F₁ N₁
end
section
variable {prog : Program} {w : World} {A : Around} {E : Value → Shared → Prop} {s : Shared} {env : Env} {h₀ : Heap} {m : Str → Option Value} {Q : Unit → Shared → Prop}
theorem asg2 {x y : Str} {px py tp : Pos} {k : Nat} {T : Addr} {v u : Value} (hh : A.handled = none) (hx : env.kindOf x = some .local) (hy : env.kindOf y = some .local) (hp : (env.scope.kind == .class || (env.scope.kind == .module && env.locals != env.globals)) = false) (F : Fr h₀ env.locals s.heap m)
    (ht : IsTup s.heap T #[v, u])
    (h : ∀ h' tk', Fr h₀ env.locals h' (fun z => if z = y then some u else if z = x then some v else m z) → (∀ b o, b ≠ env.locals → s.heap.get? b = some o → h'.get? b = some o) → Q () { s with heap := h', toks := tk' }) :
    wpAny (model prog w) A (assign (.Tuple [.Name x px, .Name y py] k tp) env (.ref T)) Q E s := by
  refine assign_Tuple_tuple hh ht rfl rfl fun h₁ hk₁ => ?_
  replace hk₁ : Heap.ExtBut s.heap.objs.size s.heap h₁ := hk₁
  have up : ∀ b o, s.heap.get? b = some o → h₁.get? b = some o := fun b o e => hk₁ b o (Nat.ne_of_lt (Heap.lt_size e)) e
  have F₁ : Fr h₀ env.locals h₁ m := ⟨F.ns.at' fun o e => up _ o e, fun b o e => up b o (F.keep b o e), F.above⟩
  show wpAny _ A (do holding [u] (assign (.Name x px) env v); do holding [] (assign (.Name y py) env u); pure ()) _ _ _
  refine wpAny_bind (wpAny_holding (asg1 hx hp F₁ fun h₂ tk₂ F₂ k₂ => ?_))
  refine wpAny_bind (wpAny_holding (asg1 hy hp F₂ fun h₃ tk₃ F₃ k₃ => ?_))
  exact wpAny_pure (h h₃ _ F₃ fun b o hb e => k₃ b o hb (k₂ b o hb (up b o e)))
theorem asg3 {x y z : Str} {px py pz tp : Pos} {k : Nat} {T : Addr} {v u t : Value} (hh : A.handled = none) (hx : env.kindOf x = some .local) (hy : env.kindOf y = some .local) (hz : env.kindOf z = some .local) (hp : (env.scope.kind == .class || (env.scope.kind == .module && env.locals != env.globals)) = false) (F : Fr h₀ env.locals s.heap m)
    (ht : IsTup s.heap T #[v, u, t])
    (h : ∀ h' tk', Fr h₀ env.locals h' (fun a => if a = z then some t else if a = y then some u else if a = x then some v else m a) → (∀ b o, b ≠ env.locals → s.heap.get? b = some o → h'.get? b = some o) → Q () { s with heap := h', toks := tk' }) :
    wpAny (model prog w) A (assign (.Tuple [.Name x px, .Name y py, .Name z pz] k tp) env (.ref T)) Q E s := by
  refine assign_Tuple_tuple hh ht rfl rfl fun h₁ hk₁ => ?_
  replace hk₁ : Heap.ExtBut s.heap.objs.size s.heap h₁ := hk₁
  have up : ∀ b o, s.heap.get? b = some o → h₁.get? b = some o := fun b o e => hk₁ b o (Nat.ne_of_lt (Heap.lt_size e)) e
  have F₁ : Fr h₀ env.locals h₁ m := ⟨F.ns.at' fun o e => up _ o e, fun b o e => up b o (F.keep b o e), F.above⟩
  show wpAny _ A (do holding [u, t] (assign (.Name x px) env v); do holding [t] (assign (.Name y py) env u); do holding [] (assign (.Name z pz) env t); pure ()) _ _ _
  refine wpAny_bind (wpAny_holding (asg1 hx hp F₁ fun h₂ tk₂ F₂ k₂ => ?_))
  refine wpAny_bind (wpAny_holding (asg1 hy hp F₂ fun h₃ tk₃ F₃ k₃ => ?_))
  refine wpAny_bind (wpAny_holding (asg1 hz hp F₃ fun h₄ tk₄ F₄ k₄ => ?_))
  exact wpAny_pure (h h₄ _ F₄ fun b o hb e => k₄ b o hb (k₃ b o hb (k₂ b o hb (up b o e))))
theorem go_tup {elts : List Expr} {k : Nat} {tp : Pos} {I l T : Addr} {i : Nat} (hit : s.heap.IsListIter I l i) (h : Q () s) : wpAny (model prog w) A (letOwnedTupleGo (.Tuple elts k tp) (.ref I) (.ref T)) Q E s := wpAny_letOwnedTupleGo_listiter hit h
end
end

section
open PySem PySem.W PySem.Spec PySem.Calls PyProof.Rows PyProof.V PySem.SeqAt
section
variable {prog : Program} {w : World} {A : Around} {s : Shared} {env : Env} {h₀ : Heap}
inductive TurnXE (h₀ : Heap) (L : Addr) (wr : List Addr) (own : List (Addr × Obj)) (xs : List Str) (m₀ : Str → Option Value) (Jn : List (Option Value) → List (Addr × Obj) → Prop) (s₀ s₂ : Shared) : Prop
  | mk : ∀ h' gs tk m₂ vals news₂, s₂ = ⟨h', gs, s₀.drawn, tk, s₀.os⟩ → AllBare gs → Fr h₀ L h' m₂ → m₂ = kstO m₀ (xs.zip vals) → News h₀ L h' (own ++ news₂) → (∀ p ∈ news₂, p.1 ∉ wr) → Jn vals news₂ → TurnXE h₀ L wr own xs m₀ Jn s₀ s₂
noncomputable def TurnX (h₀ : Heap) (L : Addr) (wr : List Addr) (own : List (Addr × Obj)) (xs : List Str) (m₀ : Str → Option Value) (Jn : List (Option Value) → List (Addr × Obj) → Prop) (s₀ : Shared) (Qb : Shared → Prop) (Qr : Value → Shared → Prop) (f : Flow) (s₂ : Shared) : Prop :=
  match f with
  | .ret v => Qr v s₂
  | .brk => Qb s₂
  | _ => Hold (TurnXE h₀ L wr own xs m₀ Jn s₀ s₂)
end
end

section
open PySem PySem.W PySem.Spec PySem.Calls PyProof.Rows PyProof.V PySem.SeqAt
section
variable {w : World} {A₀ : Around} {s : Shared} {base h₀ : Heap} {outer : List Env} {m mg mb : Str → Option Value} {mean : ExcName → Option Value}
  {R : Result → Shared → Prop} {name qual : Str} {params : Arguments} {body : List Stmt} {scope : Scope} {dV kV doc pm cdv ct oc : Value} {an od : Option Addr} {osl : Array (Option Value)} {f : Addr} {args : Args} {binds : List (Str × Value)}
/-- a def with names that a comprehension of it keeps -/
theorem enterC {D U : Nat} {A : Around} (S : Site w D U [] A s)
    (ho : (hd.heap_1 w.params).lookup f = some ⟨oc, od, .func (fnX name qual params body scope [] dV kV doc pm an cdv ct), osl⟩) (hcd : codeIn (hd.heap_1 w.params) cdv qual = true)
    (hroom : D < recursionLimit)
    (hbind : BindsTo s (fnX name qual params body scope [] dV kV doc pm an cdv ct) args binds)
    (hkind : ∀ n, ∀ x ∈ binds, scope.names.lookup x.1 = some .local ∨ (scope.names.lookup x.1 = some .cell ∧ ((cellsFrom n scope.names []).lookup x.1).isSome = true))
    (hnd : ((cellsFrom 0 scope.names []).map (·.1)).Nodup)
    (h : ∀ L cn cs a ccd cl' outer base g L' h₁ tk cells mg mb mean, cs.kind = .function →
      Fr g L' h₁ (bindL (envOfC qual scope L' f cdv).kindOf binds fun _ => none) → News g L' h₁ cells → CellsAre (bindC (envOfC qual scope L' f cdv).kindOf binds fun _ => none) (cellsFrom (L' + 1) scope.names []) cells →
      Below (ktrTop D U A.guards cn cs L a ccd cl' outer) base (envX cn cs L a ccd cl' :: outer) g → (hd.heap_1 w.params).In g →
      Top hd.view_39 (looseW hd.view_39 [Str.ofString "_Accumulator"]) mean mg mb g →
      (∀ b o, s.heap.get? b = some o → g.get? b = some o) → Keeps s.heap h₁ → L' = s.heap.objs.size →
      wpAny (model PySem.Challenge.rw_ty0042_01.row.prog w) ((ktrTop D U A.guards cn cs L a ccd cl' outer).deeper (envOfC qual scope L' f cdv)) (execs body (envOfC qual scope L' f cdv))
        (fun fl s' => R (.ok (.ret (match fl with | .ret v => v | _ => .none))) s')
        (fun _ _ => False)
        { s with heap := h₁, toks := tk })
    (hco : autoParam (scope.isCoroutine = false) au1._auto_1) (hgen : autoParam (scope.isGenerator = false) au1._auto_1) (hk : autoParam (scope.kind = .function) au1._auto_1) :
    codeAny (model PySem.Challenge.rw_ty0042_01.row.prog w) A (.call (.ref f) args) R s := by
  obtain ⟨hh, hdp, hun, cn, cs, a, ccd, cl', outer, A₀, base, h₀, L, m, mg, mb, mean, hA, hke, B, F, X, T, hL, hhid⟩ := S
  refine codeAny_le (A' := ktrTop D U A.guards cn cs L a ccd cl' outer) ?_ hh hdp hA rfl hun
  have hst : h₀.StaysIn s.heap := fun b o e => F.keep b o e
  have B₁ := pushX (env := envX cn cs L a ccd cl') B F rfl hke
  have BG : Below (ktrTop D U A.guards cn cs L a ccd cl' outer) base (envX cn cs L a ccd cl' :: outer) s.heap := ⟨rfl, fun b o e => hst b o (B.stays b o e), B₁.frames⟩
  have XG : (hd.heap_1 w.params).In s.heap := X.keeps hst
  have hof : s.heap.get? f = some ⟨oc, od, .func (fnX name qual params body scope [] dV kV doc pm an cdv ct), osl⟩ := XG _ _ ho
  refine codeAny_call_function (fd := fnX name qual params body scope [] dV kV doc pm an cdv ct) hroom hof rfl hco hgen rfl (codeRec_of XG hcd) (hbind _ _ _ _ ?_)
  refine wpAny_newFunctionEnv_cells hk (hkind _) fun env' he s' x => ?_
  subst he
  refine ⟨(T.nolimit.keeps F.keep).keeps x.toInCall.keep, codeAny_func ?_⟩
  obtain ⟨h₁, tk, rfl, _⟩ := x.done
  have hk₁ := x.toInCall.keep
  obtain ⟨cells, NC, Y⟩ := Cl.news (h₀ := s.heap) (Nat.le_refl _) fun n c hm => ⟨x.cell n c (lookup_of_mem_nodup (cellsFrom_names scope.names 0 (s.heap.objs.size + 1) [] [] rfl ▸ hnd) hm), x.above n c hm⟩
  exact wpAny_mono (h L cn cs a ccd cl' outer base s.heap s.heap.objs.size h₁ tk cells mg mb mean hke ⟨x.toInCall.ns, fun b o e => hk₁ b o e, Nat.le_refl _⟩ NC Y BG XG (T.keeps hst) (fun b o e => e) (fun b o e => hk₁ b o e) rfl) (fun _ _ z => z) fun _ _ z => z.elim
end
end

section
open PySem PySem.W PySem.Spec PySem.Calls PyProof.Rows PyProof.V PySem.SeqAt
section
variable {prog : Program} {w : World} {A : Around} {E : Value → Shared → Prop} {s : Shared} {env : Env} {h₀ : Heap} {m : Str → Option Value}
theorem asg1C {x : Str} {px : Pos} {v : Value} {c : Addr} {o : Obj} {v₀ : Option Value} {rest : List (Addr × Obj)} {Q : Unit → Shared → Prop} (hk : env.scope.kind = .function) (hx : env.kindOf x = some .cell) (hc : env.cells.lookup x = some c) (F : Fr h₀ env.locals s.heap m)
    (N : News h₀ env.locals s.heap ((c, o) :: rest)) (hd : o.data = .cell v₀) (hoff : ∀ p ∈ rest, p.1 ≠ c)
    (h : ∀ h' o', Fr h₀ env.locals h' m → News h₀ env.locals h' ((c, o') :: rest) → o'.data = .cell (some v) → (∀ b ob, b ≠ c → s.heap.get? b = some ob → h'.get? b = some ob) → Q () { s with heap := h' }) :
    wpAny (model prog w) A (assign (.Name x px) env v) Q E s := by
  have hmem := N (c, o) (.head _)
  refine wpAny_assign_Name (wpAny_storeName_cell hk hx hc ⟨o, hmem.1, hd⟩ fun h' hv hs => ?_)
  obtain ⟨o', ho', hd'⟩ := hv
  refine h h' o' ⟨F.ns.sameBut hs (Ne.symm hmem.2.1), fun b ob e => (hs.2 b (fun q => ?_)).trans (F.keep b ob e), F.above⟩ ?_ hd' fun b ob hb e => (hs.2 b hb).trans e
  · rw [q, hmem.2.2] at e; cases e
  · intro p hp
    cases hp with
    | head => exact ⟨ho', hmem.2⟩
    | tail _ hm => exact ⟨(hs.2 _ (hoff p hm)).trans (N p (.tail _ hm)).1, (N p (.tail _ hm)).2⟩
inductive CellJ (c : Addr) (J : List (Option Value) → List (Addr × Obj) → Prop) (vals : List (Option Value)) (news : List (Addr × Obj)) : Prop
  | mk : ∀ o v₀ rest, news = (c, o) :: rest → o.data = .cell v₀ → (∀ p ∈ rest, p.1 ≠ c) → J vals rest → CellJ c J vals news
inductive CellInv (h₀ : Heap) (L ck : Addr) (St : Nat → Heap → Prop) (off : Addr → Prop) (n : Nat) (xs : List Str) (m : Str → Option Value) (J : Nat → List (Option Value) → List (Addr × Obj) → Prop) (s₀ : Shared) (k : Nat) (s' : Shared) : Prop
  | mk : ∀ (h' : Heap) (gs : Array GenState) (tk : Nat) (vals : List (Option Value)) (rest' : List (Addr × Obj)) (o' : Obj) (v' : Option Value) (i : Nat), s' = ⟨h', gs, s₀.drawn, tk, s₀.os⟩ → AllBare gs → St i h' → Fr h₀ L h' (kstO m (xs.zip vals)) → News h₀ L h' ((ck, o') :: rest') → o'.data = .cell v' → (∀ p ∈ rest', p.1 ≠ ck) → (∀ p ∈ (ck, o') :: rest', off p.1) → J i vals rest' → i ≤ n → k = n + 1 - i → CellInv h₀ L ck St off n xs m J s₀ k s'
/-- a for over counted items, the count in a cell -/
theorem iter_enumC {xi xc : Str} {pk pv pt : Pos} {x1 : Nat} {body orelse : List Stmt} {l ck : Addr} {o₀ : Obj} {v₀ : Option Value} {items : Array Value} {rest : List (Addr × Obj)} {R : Result → Shared → Prop} {E' : Value → Shared → Prop} (xs : List Str)
    (J : Nat → List (Option Value) → List (Addr × Obj) → Prop) (hh : A.handled = none) (hk : env.scope.kind = .function)
    (hxi : env.kindOf xi = some .cell) (hck : env.cells.lookup xi = some ck) (hxc : env.kindOf xc = some .local) (hp : (env.scope.kind == .class || (env.scope.kind == .module && env.locals != env.globals)) = false)
    (F : Fr h₀ env.locals s.heap m) (N : News h₀ env.locals s.heap ((ck, o₀) :: rest)) (hd : o₀.data = .cell v₀) (hoff : ∀ p ∈ rest, p.1 ≠ ck) (hg : AllBare s.gens) (hl : h₀.IsList l items) (h0 : J 0 (xs.map m) rest)
    (turn : ∀ i t v vals rest₁ o₁ h gs tk own a b, items[i]? = some v → J i vals rest₁ → AllBare gs → (∀ p ∈ (ck, o₁) :: rest₁, p.1 ≠ a ∧ p.1 ≠ b) → (∀ p ∈ own, p.1 = a ∨ p.1 = b) → (∃ o, (a, o) ∈ own) → (∃ o, (b, o) ∈ own) → o₁.data = .cell (some (.int (i : Int) t)) → (∀ p ∈ rest₁, p.1 ≠ ck) →
      Fr h₀ env.locals h (fun y => if y = xc then some v else kstO m (xs.zip vals) y) → News h₀ env.locals h (own ++ (ck, o₁) :: rest₁) →
      wpAny (model prog w) A (execs body env) (TurnX h₀ env.locals [a, b] own xs m (CellJ ck (J (i + 1))) s (fun s' => R (.ok .next) s') fun v s' => R (.ok (.ret v)) s') (fun _ _ => False) ⟨h, gs, s.drawn, tk, s.os⟩)
    (done : ∀ h gs tk vals rest₁ o₁ v₁, J items.size vals rest₁ → o₁.data = .cell v₁ → (∀ p ∈ rest₁, p.1 ≠ ck) → AllBare gs → Fr h₀ env.locals h (kstO m (xs.zip vals)) → News h₀ env.locals h ((ck, o₁) :: rest₁) →
      wpAny (model prog w) A (execs orelse env) (fun f s' => R (.ok f) s') (fun _ _ => False) ⟨h, gs, s.drawn, tk, s.os⟩) :
    wpAny (model prog w) A (call (.type "enumerate") [.ref l]) (fun xv s₁ => wpAny (model prog w) A (pyIter xv) (fun it s₂ => codeAny (model prog w) A (.forLoop (.Tuple [.Name xi pk, .Name xc pv] x1 pt) it body orelse env) R s₂) E' s₁) E s := by
  have hls : s.heap.IsList l items := hl.at fun o e => F.keep _ _ e
  obtain ⟨ol, hol, _⟩ := id hl
  obtain ⟨oL, _, _, hoL, _⟩ := F.ns
  have hlt : l < s.heap.objs.size := Heap.lt_size (F.keep _ _ hol)
  have hLs : env.locals < s.heap.objs.size := Heap.lt_size hoL
  have fresh : ∀ b, s.heap.objs.size ≤ b → h₀.get? b = none := fun b hb => by
    cases q : h₀.get? b with
    | none => rfl
    | some o => exact absurd (Heap.lt_size (F.keep _ _ q)) (Nat.not_lt.mpr hb)
  refine call_enumerate_list hls fun h' hE hI hsz hkk => ?_
  refine wpAny_pyIter_enum hE ?_
  have F' : Fr h₀ env.locals h' m := ⟨F.ns.at' fun o e => hkk _ _ e, fun b o e => hkk b o (F.keep b o e), F.above⟩
  have N' : News h₀ env.locals h' ((ck, o₀) :: rest) := fun p hp => ⟨hkk _ _ (N p hp).1, (N p hp).2⟩
  generalize ha : s.heap.objs.size + 1 = a at hE ⊢
  generalize hb : s.heap.objs.size = b at hE hI ha hlt hLs fresh ⊢
  have hab : a ≠ b := by rw [← ha]; exact Nat.succ_ne_self _
  have hla : l ≠ a := by rw [← ha]; exact Nat.ne_of_lt (Nat.lt_succ_of_lt hlt)
  have hlb : l ≠ b := Nat.ne_of_lt hlt
  have hLa : env.locals ≠ a := by rw [← ha]; exact Nat.ne_of_lt (Nat.lt_succ_of_lt hLs)
  have hLb : env.locals ≠ b := Nat.ne_of_lt hLs
  have hLl : env.locals ≠ l := fun q => by rw [← q, kts_self F] at hol; cases hol
  have hfa : h₀.get? a = none := fresh _ (by rw [← ha]; exact Nat.le_succ _)
  have hfb : h₀.get? b = none := fresh _ (Nat.le_refl _)
  have W := WalksT.enumerate (prog := prog) (w := w) hh a b l hab hla hlb items
  have hLw : env.locals ∉ [a, b] := by simp [hLa, hLb]
  have hLf : env.locals ∉ [a, b, l] := by simp [hLa, hLb, hLl]
  have hckl : ck ≠ l := fun q => by have := (N (ck, o₀) (.head _)).2.2; dsimp only at this; rw [q, hol] at this; cases this
  have old : ∀ c o, h₀.get? c = some o → c ∉ [a, b] := fun c o e hm => by
    first | (rcases List.mem_cons.mp hm with rfl | hm) | (rcases List.mem_append.mp hm with hm | hm)
    · rw [hfa] at e; cases e
    rcases List.mem_singleton.mp hm with rfl
    rw [hfb] at e; cases e
  have hnew : ∀ p ∈ (ck, o₀) :: rest, p.1 ≠ a ∧ p.1 ≠ b := fun p hp => by
    have := Heap.lt_size (N p hp).1
    rw [hb] at this
    exact ⟨by rw [← ha]; exact Nat.ne_of_lt (Nat.lt_succ_of_lt this), Nat.ne_of_lt this⟩
  refine codeAny_forLoop_any
    (CellInv h₀ env.locals ck (fun i h' => (∃ old, IsEnum h' a b (i : Int) old) ∧ h'.IsListIter b l i ∧ h'.IsList l items) (fun q => q ≠ a ∧ q ≠ b) items.size xs m J s) ?_ (items.size + 1)
    ⟨h', s.gens, s.toks, xs.map m, rest, o₀, v₀, 0, rfl, hg, ⟨⟨_, hE⟩, hI, hls.at fun o e => hkk _ _ e⟩, kst_start m xs ▸ F', N', hd, hoff, hnew, h0, Nat.zero_le _, rfl⟩
  rintro k s' ⟨H, gs, tk, vals, rest', o', v', i, rfl, hgs, hst', F₁, N₁, hd₁, hoff₁, hnw₁, hJ, hi, rfl⟩
  have next : ∀ h₁ : Heap, (∀ c o, c ∉ [a, b] → H.get? c = some o → h₁.get? c = some o) → Fr h₀ env.locals h₁ (kstO m (xs.zip vals)) ∧ News h₀ env.locals h₁ ((ck, o') :: rest') := fun h₁ hk₁ =>
    ⟨⟨F₁.ns.at' fun o e => hk₁ _ o hLw e, fun c o e => hk₁ c o (old c o e) (F₁.keep c o e), F₁.above⟩, fun p hp => ⟨hk₁ _ _ (by have := hnw₁ p hp; simp [this.1, this.2]) (N₁ p hp).1, (N₁ p hp).2⟩⟩
  by_cases hlt' : i < items.size
  · refine W.item i _ _ _ hlt' hst' fun T tv h₁ tk₁ hPt _ hT hMid hk₁ => ?_
    obtain ⟨t, v, hx, rfl⟩ := hPt
    refine W.go _ x1 pt i T _ _ _ hMid fun h₂ hst₂ hk₂ => ?_
    have ht₂ : h₂.IsTuple T #[.int (i : Int) t, v] := hT.at fun o e => hk₂ T o (W.apart i T h₁ hMid) e
    obtain ⟨F₂, N₂⟩ := next h₂ fun c o hc x => hk₂ c o hc (hk₁ c o hc x)
    refine assign_Tuple_tuple hh ht₂ rfl rfl fun h₃ hk₃ => ?_
    replace hk₃ : Heap.ExtBut h₂.objs.size h₂ h₃ := hk₃
    have up : ∀ c o, h₂.get? c = some o → h₃.get? c = some o := fun c o e => hk₃ c o (Nat.ne_of_lt (Heap.lt_size e)) e
    have F₃ : Fr h₀ env.locals h₃ (kstO m (xs.zip vals)) := ⟨F₂.ns.at' fun o e => up _ o e, fun c o e => up c o (F₂.keep c o e), F₂.above⟩
    have N₃ : News h₀ env.locals h₃ ((ck, o') :: rest') := fun p hp => ⟨up _ _ (N₂ p hp).1, (N₂ p hp).2⟩
    show wpAny _ A (do holding [v] (assign (.Name xi pk) env (.int (i : Int) t)); do holding [] (assign (.Name xc pv) env v); pure ()) _ _ _
    refine wpAny_bind (wpAny_holding (asg1C hk hxi hck F₃ N₃ hd₁ hoff₁ fun h₄ o₄ F₄ N₄ hd₄ hk₄ => ?_))
    refine wpAny_bind (wpAny_holding (asg1 hxc hp F₄ fun h₅ tk₅ F₅ hk₅ => wpAny_pure ?_))
    have N₅ : News h₀ env.locals h₅ ((ck, o₄) :: rest') := fun p hp => ⟨hk₅ _ _ (N₄ p hp).2.1 (N₄ p hp).1, (N₄ p hp).2⟩
    have hcka : ck ≠ a ∧ ck ≠ b := hnw₁ (ck, o') (.head _)
    have hst₅ := W.frame _ _ h₅ hst₂ fun c hc o e => by
      have hcc : c ≠ ck := by
        first | (rcases List.mem_cons.mp hc with rfl | hc) | (rcases List.mem_append.mp hc with hc | hc)
        · exact hcka.1.symm
        first | (rcases List.mem_cons.mp hc with rfl | hc) | (rcases List.mem_append.mp hc with hc | hc)
        · exact hcka.2.symm
        rcases List.mem_singleton.mp hc with rfl
        exact hckl.symm
      exact hk₅ c o (fun q => hLf (q ▸ hc)) (hk₄ c o hcc (up c o e))
    have hnw₅ : ∀ p ∈ (ck, o₄) :: rest', p.1 ≠ a ∧ p.1 ≠ b := fun p hp => by
      rcases List.mem_cons.mp hp with rfl | hp
      · exact hcka
      · exact hnw₁ p (.tail _ hp)
    have hown : ∀ p ∈ ownOf h₀ [a, b, l] h₅, p.1 = a ∨ p.1 = b := fun p hp => by
      have q := ownOf_sub p hp
      first | (rcases List.mem_cons.mp q with q | q) | (rcases List.mem_append.mp q with q | q)
      · exact .inl q
      first | (rcases List.mem_cons.mp q with q | q) | (rcases List.mem_append.mp q with q | q)
      · exact .inr q
      rcases List.mem_singleton.mp q with q
      have := (news_ownOf (h₀ := h₀) (h := h₅) hLf p hp).2.2
      rw [q, hol] at this; cases this
    have hina : ∃ o, (a, o) ∈ ownOf h₀ [a, b, l] h₅ := by
      obtain ⟨⟨_, he⟩, _⟩ := hst₅
      exact ⟨_, mem_ownOf (.head _) hfa he⟩
    have hinb : ∃ o, (b, o) ∈ ownOf h₀ [a, b, l] h₅ := by
      obtain ⟨_, ⟨o, ho, _⟩, _⟩ := hst₅
      exact ⟨o, mem_ownOf (.tail _ (.head _)) hfb ho⟩
    refine wpAny_mono (turn i t v vals rest' o₄ h₅ gs _ (ownOf h₀ [a, b, l] h₅) a b hx hJ hgs hnw₅ hown hina hinb hd₄ hoff₁ F₅ ((news_ownOf hLf).append N₅)) (fun f s₃ h₆ => ?_) fun _ _ e => e.elim
    have fin : TurnXE h₀ env.locals [a, b] (ownOf h₀ [a, b, l] h₅) xs m (CellJ ck (J (i + 1))) s s₃ → ∃ m_1, m_1 < items.size + 1 - i ∧ CellInv h₀ env.locals ck (fun i h' => (∃ old, IsEnum h' a b (i : Int) old) ∧ h'.IsListIter b l i ∧ h'.IsList l items) (fun q => q ≠ a ∧ q ≠ b) items.size xs m J s m_1 s₃ := by
      rintro ⟨h₇, gs₇, tk₇, m₂, vals₂, news₂, rfl, hgs₇, F₇, rfl, N₇, ha₇, o₇, v₇, rest₇, rfl, hd₇, hoff₇, hJ₇⟩
      refine ⟨items.size + 1 - (i + 1), by exact Nat.sub_succ_lt_self _ _ (Nat.lt_succ_of_lt (by assumption)), h₇, gs₇, tk₇, vals₂, rest₇, o₇, v₇, i + 1, rfl, hgs₇, ?_, F₇, N₇.right, hd₇, hoff₇, fun p hp => by have := ha₇ p hp; simpa [not_or] using this, hJ₇, hlt', rfl⟩
      refine W.frame _ _ _ hst₅ fun c hc o e => ?_
      cases hn : h₀.get? c with
      | some o₀ =>
        have : o₀ = o := by have q := F₅.keep c o₀ hn; rw [e] at q; exact (Option.some.inj q).symm
        exact this ▸ F₇.keep c o₀ hn
      | none => exact (N₇ _ (List.mem_append_left _ (mem_ownOf hc hn e))).1
    cases f with
    | ret v => exact h₆
    | brk => exact h₆
    | cont => exact fin h₆
    | next => exact fin h₆
  · have hin : i = items.size := by (first | lia | omega)
    subst hin
    refine W.done _ _ _ hst' fun h₁ tk₁ hk₁ => ?_
    obtain ⟨F₂, N₂⟩ := next h₁ hk₁
    exact never_noted (done h₁ gs tk₁ vals rest' o' v' hJ hd₁ hoff₁ hgs F₂ N₂)
/-- a for over a range from nought, its name in a cell -/
theorem iter_rangeC {x : Str} {px : Pos} {body orelse : List Stmt} {r cx : Addr} {o₀ : Obj} {v₀ : Option Value} {n : Nat} {rest : List (Addr × Obj)} {R : Result → Shared → Prop} {t u v : Tok} {b : Int} (xs : List Str)
    (J : Nat → List (Option Value) → List (Addr × Obj) → Prop) (hh : A.handled = none) (hk : env.scope.kind = .function)
    (hx : env.kindOf x = some .cell) (hcx : env.cells.lookup x = some cx)
    (F : Fr h₀ env.locals s.heap m) (N : News h₀ env.locals s.heap ((cx, o₀) :: rest)) (hd : o₀.data = .cell v₀) (hoff : ∀ p ∈ rest, p.1 ≠ cx) (hg : AllBare s.gens) (hr : IsRange s.heap r 0 b 1 t u v) (hsmall : Builtin.Range.small 0 b 1 = true) (hn : Builtin.Range.rangeSize 0 b 1 = (n : Int)) (h0 : J 0 (xs.map m) rest)
    (turn : ∀ i t vals rest₁ o₁ h gs tk I io, i < n → J i vals rest₁ → AllBare gs → (∀ p ∈ (cx, o₁) :: rest₁, p.1 ≠ I) → o₁.data = .cell (some (.int (i : Int) t)) → (∀ p ∈ rest₁, p.1 ≠ cx) →
      Fr h₀ env.locals h (kstO m (xs.zip vals)) → News h₀ env.locals h ((I, io) :: (cx, o₁) :: rest₁) →
      wpAny (model prog w) A (execs body env) (TurnX h₀ env.locals [I] [(I, io)] xs m (CellJ cx (J (i + 1))) s (fun s' => R (.ok .next) s') fun v s' => R (.ok (.ret v)) s') (fun _ _ => False) ⟨h, gs, s.drawn, tk, s.os⟩)
    (done : ∀ h gs tk vals rest₁ o₁ v₁, J n vals rest₁ → o₁.data = .cell v₁ → (∀ p ∈ rest₁, p.1 ≠ cx) → AllBare gs → Fr h₀ env.locals h (kstO m (xs.zip vals)) → News h₀ env.locals h ((cx, o₁) :: rest₁) →
      wpAny (model prog w) A (execs orelse env) (fun f s' => R (.ok f) s') (fun _ _ => False) ⟨h, gs, s.drawn, tk, s.os⟩) :
    wpAny (model prog w) A (pyIter (.ref r)) (fun it s₂ => codeAny (model prog w) A (.forLoop (.Name x px) it body orelse env) R s₂) (fun _ _ => False) s := by
  obtain ⟨f1, f2, f3⟩ := fresh_size F N
  refine wpAny_pyIter_range hr hsmall ?_
  have hLs : env.locals ≠ s.heap.objs.size := fun q => f1 (by rw [q]; exact .head _)
  have hI0 : h₀.get? s.heap.objs.size = none := f2 _ (.head _)
  have hnI : ∀ p ∈ (cx, o₀) :: rest, p.1 ≠ s.heap.objs.size := fun p hp q => f3 p hp (by rw [q]; exact .head _)
  generalize hI : s.heap.objs.size = I at hLs hI0 hnI ⊢
  have W := Walks.range (prog := prog) (w := w) hh I 0 1 n
  have hit : ∀ h' : Heap, (h'.get? I = (s.heap.push { cls := .type "range_iterator", data := .fields #[.int 0 0, .int 0 0, .int 0 0] }).get? I) → True := fun _ _ => trivial
  clear hit
  refine codeAny_forLoop_any
    (CellInv h₀ env.locals cx (fun i h' => IsRangeIter h' I ((0 : Int) + (i : Nat) * 1) ((n : Int) - (i : Nat)) 1) (fun q => q ≠ I) n xs m J s) ?_ (n + 1)
    ⟨_, s.gens, _, xs.map m, rest, o₀, v₀, 0, rfl, hg, by subst hI; show IsRangeIter _ _ _ _ _; rw [hn]; simpa using Heap.get?_push_size _ rfl, kst_start m xs ▸ F.push _, fun p hp => ⟨Heap.get?_push_of_some _ (N p hp).1, (N p hp).2⟩, hd, hoff, hnI, h0, Nat.zero_le _, rfl⟩
  rintro k s' ⟨H, gs, tk, vals, rest', o', v', i, rfl, hgs, hst', F₁, N₁, hd₁, hoff₁, hnw₁, hJ, hi, rfl⟩
  have next : ∀ h₁ : Heap, (∀ c o, c ∉ [I] → H.get? c = some o → h₁.get? c = some o) → Fr h₀ env.locals h₁ (kstO m (xs.zip vals)) ∧ News h₀ env.locals h₁ ((cx, o') :: rest') := fun h₁ hk₁ =>
    ⟨⟨F₁.ns.at' fun o e => hk₁ _ o (by simpa using hLs) e, fun c o e => hk₁ c o (by simp; rintro rfl; rw [hI0] at e; cases e) (F₁.keep c o e), F₁.above⟩, fun p hp => ⟨hk₁ _ _ (by simpa using hnw₁ p hp) (N₁ p hp).1, (N₁ p hp).2⟩⟩
  by_cases hlt : i < n
  · refine W.item i _ _ _ hlt hst' fun v h₁ tk₁ hv hst₁ hk₁ => ?_
    obtain ⟨tv, rfl⟩ := hv
    have e0 : (0 : Int) + (i : Nat) * 1 = (i : Int) := by (first | lia | omega)
    rw [e0]
    obtain ⟨F₂, N₂⟩ := next h₁ hk₁
    refine wpAny_of_eq (a := ()) rfl ?_
    refine asg1C hk hx hcx F₂ N₂ hd₁ hoff₁ fun h₄ o₄ F₄ N₄ hd₄ hk₄ => ?_
    have hcI : cx ≠ I := hnw₁ (cx, o') (.head _)
    have hst₄ := W.frame _ _ h₄ hst₁ fun c hc o e => hk₄ c o (by rw [List.mem_singleton.mp hc]; exact hcI.symm) e
    have hio : ∃ io, h₄.get? I = some io := ⟨_, hst₄⟩
    obtain ⟨io, hio⟩ := hio
    have hnw₄ : ∀ p ∈ (cx, o₄) :: rest', p.1 ≠ I := fun p hp => by
      rcases List.mem_cons.mp hp with rfl | hp
      · exact hcI
      · exact hnw₁ p (.tail _ hp)
    have N₅ : News h₀ env.locals h₄ ((I, io) :: (cx, o₄) :: rest') := fun p hp => by
      rcases List.mem_cons.mp hp with rfl | hp
      · exact ⟨hio, hLs.symm, hI0⟩
      · exact N₄ p hp
    refine wpAny_mono (turn i tv vals rest' o₄ h₄ gs _ I io hlt hJ hgs hnw₄ hd₄ hoff₁ F₄ N₅) (fun f s₃ h₆ => ?_) fun _ _ e => e.elim
    have fin : TurnXE h₀ env.locals [I] [(I, io)] xs m (CellJ cx (J (i + 1))) s s₃ → ∃ m_1, m_1 < n + 1 - i ∧ CellInv h₀ env.locals cx (fun i h' => IsRangeIter h' I ((0 : Int) + (i : Nat) * 1) ((n : Int) - (i : Nat)) 1) (fun q => q ≠ I) n xs m J s m_1 s₃ := by
      rintro ⟨h₇, gs₇, tk₇, m₂, vals₂, news₂, rfl, hgs₇, F₇, rfl, N₇, ha₇, o₇, v₇, rest₇, rfl, hd₇, hoff₇, hJ₇⟩
      refine ⟨n + 1 - (i + 1), by exact Nat.sub_succ_lt_self _ _ (Nat.lt_succ_of_lt (by assumption)), h₇, gs₇, tk₇, vals₂, rest₇, o₇, v₇, i + 1, rfl, hgs₇, ?_, F₇, N₇.right, hd₇, hoff₇, fun p hp => by simpa using ha₇ p hp, hJ₇, hlt, rfl⟩
      refine W.frame _ _ _ hst₄ fun c hc o e => ?_
      rw [List.mem_singleton.mp hc] at e ⊢
      rw [hio] at e; cases e
      exact (N₇ _ (.head _)).1
    cases f with
    | ret v => exact h₆
    | brk => exact h₆
    | cont => exact fin h₆
    | next => exact fin h₆
  · have hin : i = n := by (first | lia | omega)
    subst hin
    refine W.done _ _ _ hst' fun h₁ tk₁ hk₁ => ?_
    obtain ⟨F₂, N₂⟩ := next h₁ hk₁
    exact never_noted (done h₁ gs tk₁ vals rest' o' v' hJ hd₁ hoff₁ hgs F₂ N₂)
end
end

section
open PySem PySem.W PySem.Spec PySem.Calls PyProof.Rows PyProof.V PySem.SeqAt
theorem range_size1 (b : Int) : Builtin.Range.rangeSize 0 b 1 = ((b.toNat : Nat) : Int) := by
  unfold Builtin.Range.rangeSize
  rw [if_pos (by decide)]
  by_cases h : 0 < b
  · rw [if_pos (by (first | lia | omega)), Int.ediv_one]; (first | lia | omega)
  · rw [if_neg (by (first | lia | omega))]; (first | lia | omega)
theorem range_small1 {b : Int} (h1 : -2000 < b) (h2 : b < 2000) : Builtin.Range.small 0 b 1 = true := by
  unfold Builtin.Range.small
  rw [range_size1]
  have f : ∀ x : Int, -2000 < x → x < 2001 → Builtin.Range.rangeFitsLong x = true := fun x a c => by unfold Builtin.Range.rangeFitsLong; simp; (first | lia | omega)
  have e1 := f 0 (by decide) (by decide)
  have e2 := f 1 (by decide) (by decide)
  have e3 := f b h1 (by (first | lia | omega))
  have e4 := f (b.toNat : Int) (by (first | lia | omega)) (by (first | lia | omega))
  rw [e1, e2, e3, if_pos (by decide)]
  simp only [Bool.true_and, Bool.and_true, e4]
  first | rfl | (simp; done) | (simp; right; exact e3) | (simp [e3]; done)
/-- what one row's starts have given up to a place -/
noncomputable def laterTo (flat : List Int) (reach : List Nat) (k : Nat) (row : List Int) (n : Nat) : List Nat :=
  ((List.range n).filter fun start => decide ((flat.drop start).take row.length = row) && reach.any fun stop => decide (stop = start ∨ (0 < k ∧ stop < start))).map (· + row.length)
theorem laterTo_succ (flat : List Int) (reach : List Nat) (k : Nat) (row : List Int) (n : Nat) : laterTo flat reach k row (n + 1) = laterTo flat reach k row n ++ (if (decide ((flat.drop n).take row.length = row) && reach.any fun stop => decide (stop = n ∨ (0 < k ∧ stop < n))) = true then [n + row.length] else []) := by
  unfold laterTo
  rw [List.range_succ, List.filter_append, List.map_append]
  congr 1
  by_cases h : (decide ((flat.drop n).take row.length = row) && reach.any fun stop => decide (stop = n ∨ (0 < k ∧ stop < n))) = true
  · rw [if_pos h, List.filter_cons_of_pos (by exact h)]; rfl
  · rw [if_neg h, List.filter_cons_of_neg (by exact h)]; rfl
theorem laterTo_all (flat : List Int) (reach : List Nat) (k : Nat) (row : List Int) : laterTo flat reach k row (flat.length + 1 - row.length) = takeStep flat reach (k, row) := rfl
end

section
open PySem PySem.W PySem.Spec PySem.Calls PyProof.Rows PyProof.V PySem.SeqAt
noncomputable def stopOk (k st : Int) (v : Value) : Bool := match v with | .int n _ => decide (n = st ∨ (0 < k ∧ n < st)) | _ => false
theorem ints_filter {k st : Int} {vs : List Value} {ns : List Int} (h : IntsAre vs ns) : IntsAre (vs.filter (stopOk k st)) (ns.filter fun n => decide (n = st ∨ (0 < k ∧ n < st))) := by
  induction h with
  | nil => exact .nil
  | cons n t _ ih =>
    by_cases q : n = st ∨ (0 < k ∧ n < st)
    · rw [List.filter_cons_of_pos (by simp [stopOk, q]), List.filter_cons_of_pos (by simp [q])]
      exact .cons _ _ ih
    · rw [List.filter_cons_of_neg (by simpa [stopOk] using q), List.filter_cons_of_neg (by simpa using q)]
      exact ih
section
variable {prog : Program} {w : World} {A : Around} {E : Value → Shared → Prop} {s : Shared} {env : Env} {g : Heap} {L : Addr} {m : Str → Option Value} {news : List (Addr × Obj)}
theorem paired_eq {vs us : List Value} (h : Paired (fun v r : Value => r = v) vs us) : us = vs := by
  induction h with
  | nil => rfl
  | cons e _ ih => rw [e, ih]
theorem stops_comp {x xr xs xk : Str} {p1 p2 p3 p4 p5 p6 p7 q1 q2 q3 q4 q5 px pr pos : Pos} {scope : Scope} {cl : List (Str × Addr)} {Q : Value → Shared → Prop} {R cS cK : Addr} {oS oK : Obj} {rvs : List Value} {reach : List Nat} {k st : Nat} {tk ts : Tok}
    (F : Fr g L s.heap m) (N : News g L s.heap news) (hh : A.handled = none)
    (hclos : closureFor scope env = pure cl) (hcell : ∀ y ∈ scope.names, y.2 ≠ .cell) (hkind : scope.kind = .function)
    (hnames : ∀ y ∈ scope.names, y.2 = .local → scope.names.lookup y.1 = some .local) (hx : scope.names.lookup x = some .local)
    (hxx : ∀ C, (compEnvC scope cl C env).kindOf x = some .local) (hxs : ∀ C, (compEnvC scope cl C env).kindOf xs = some .cell) (hxk : ∀ C, (compEnvC scope cl C env).kindOf xk = some .cell) (hkk : ∀ C, (compEnvC scope cl C env).scope.kind = .function)
    (hxd : (x == ("__debug__" : Str)) = false) (hsd : (xs == ("__debug__" : Str)) = false) (hkd : (xk == ("__debug__" : Str)) = false)
    (hcS : cl.lookup xs = some cS) (hcK : cl.lookup xk = some cK) (hmS : (cS, oS) ∈ news) (hmK : (cK, oK) ∈ news) (hdS : oS.data = .cell (some (.int (st : Int) ts))) (hdK : oK.data = .cell (some (.int (k : Int) tk)))
    (hev : ∀ Q' : Value → Shared → Prop, Q' (.ref R) s → wpAny (model prog w) A (eval (.Name xr pr) env) Q' E s) (hl : s.heap.IsList R rvs.toArray) (hi : IntsAre rvs (reach.map fun n : Nat => (n : Int))) (hz : reach.length ≤ 2000)
    (h : ∀ D h' tk vs n, Fr g L h' m → News g L h' ((D, listOf (List.toArray vs) n) :: news) → (∀ q ∈ news, q.1 ≠ D) → IntsAre vs ((reach.filter fun stop => decide (stop = st ∨ (0 < k ∧ stop < st))).map fun n : Nat => (n : Int)) → Q (.ref D) { s with heap := h', toks := tk })
    (hs : autoParam (∀ x, foldedSetIterable (.Name xr pr) env x = pure x) au2._auto_1) :
    wpAny (model prog w) A (eval (.ListComp (.Name x p1) [⟨.Name x px, .Name xr pr, [.BoolOp .Or [.Compare (.Name x p2) [.Eq] [.Name xs p3] q1, .BoolOp .And [.Compare (.Name xk p4) [.Gt] [.Constant (.int 0) 0 p5] q2, .Compare (.Name x p6) [.Lt] [.Name xs p7] q3] q4] q5], 0⟩] scope pos) env) Q E s := by
  refine wpAny_ListComp_free (cl := cl) (stopOk k st) (fun v r => r = v) hclos hcell hkind hnames hx (hev _ (wpAny_pyIter_list hl ?_)) hs
  obtain ⟨oR, hoR, _⟩ := id hl
  have hRI : R ≠ s.heap.objs.size := Nat.ne_of_lt (Heap.lt_size hoR)
  have old : ∀ b o, s.heap.get? b = some o → (s.heap.push { cls := .type "list_iterator", data := .fields #[.ref R, .int 0 0] }).get? b = some o := fun b o e => Heap.get?_push_of_some _ e
  have up : ∀ (h' : Heap), (∀ b o, b ∉ [s.heap.objs.size] → (s.heap.push { cls := .type "list_iterator", data := .fields #[.ref R, .int 0 0] }).get? b = some o → h'.get? b = some o) → ∀ b o, s.heap.get? b = some o → h'.get? b = some o := fun h' hk b o e =>
    hk b o (by simp only [List.mem_cons, List.not_mem_nil, or_false]; exact Nat.ne_of_lt (Heap.lt_size e)) (old b o e)
  refine ⟨s.heap.objs.size, [s.heap.objs.size, R], [s.heap.objs.size], rvs.toArray.size, _, _, rfl, Walks.list hh _ R hRI rvs.toArray, ?_, ⟨⟨_, Heap.get?_push_size _ rfl, rfl, rfl⟩, hl.at fun o e => old _ _ e⟩, ?_, ⟨?_, ?_⟩, ?_⟩
  · have := hi.length
    rw [sizeLine_eq]; simp at this ⊢; (first | lia | omega)
  · intro b hb
    show b < (s.heap.push _).objs.size
    rw [Heap.size_push]
    rcases List.mem_cons.mp hb with rfl | hb
    · exact Nat.lt_succ_self _
    · rw [List.mem_singleton.mp hb]; exact Nat.lt_succ_of_lt (Heap.lt_size hoR)
  · intro C i v s₃ m₃ E' _ hv hns hm hk _
    obtain ⟨n, t, rfl, _, _⟩ := ints_at hi hv
    have hS : s₃.heap.IsCell cS (some (.int (st : Int) ts)) := ⟨oS, up _ hk _ _ (N _ hmS).1, hdS⟩
    have hK : s₃.heap.IsCell cK (some (.int (k : Int) tk)) := ⟨oK, up _ hk _ _ (N _ hmK).1, hdK⟩
    have nx : ∀ {p : Pos} {Q' : Value → Shared → Prop} {tk'} , Q' (.int n t) { s₃ with toks := tk' } → wpAny (model prog w) A (eval (.Name x p) (compEnvC scope cl C env)) Q' E' { s₃ with toks := tk' } := fun hq => wpAny_Name (wpAny_loadName_local (hkk C) (hxx C) hns hm hq) hxd
    have nS : ∀ {p : Pos} {Q' : Value → Shared → Prop} {tk'} , Q' (.int (st : Int) ts) { s₃ with toks := tk' } → wpAny (model prog w) A (eval (.Name xs p) (compEnvC scope cl C env)) Q' E' { s₃ with toks := tk' } := fun hq => wpAny_Name (wpAny_loadName_cell (hkk C) (hxs C) hcS hS hq) hsd
    have nK : ∀ {p : Pos} {Q' : Value → Shared → Prop} {tk'} , Q' (.int (k : Int) tk) { s₃ with toks := tk' } → wpAny (model prog w) A (eval (.Name xk p) (compEnvC scope cl C env)) Q' E' { s₃ with toks := tk' } := fun hq => wpAny_Name (wpAny_loadName_cell (hkk C) (hxk C) hcK hK hq) hkd
    have fin : ∀ (b : Bool) (tk' : Nat), b = stopOk k st (.int n t) → (b = stopOk k st (.int n t) ∧ PySem.Keeps s₃ { s₃ with toks := tk' }) := fun b tk' hb => ⟨hb, _, _, rfl, fun _ _ e => e⟩
    refine wpAny_tests_one ?_
    refine isTrue_or ?_
    refine wpAny_isTrue_Compare1 (nx (tk' := s₃.toks) (nS (PyProof.Rows.eq_int (wpAny_truthy_bool ?_))))
    by_cases e1 : n = (st : Int)
    · rw [if_pos (by simpa using e1)]
      exact fin true _ (by simp [stopOk, e1])
    · rw [if_neg (by simpa using e1)]
      refine isTrue_or (isTrue_and (wpAny_isTrue_Compare1 (nK (wpAny_Constant_int (PyProof.Rows.gt_int (wpAny_truthy_bool ?_))))))
      by_cases e2 : (0 : Int) < k
      · rw [if_pos (by simpa using e2)]
        refine isTrue_and (wpAny_isTrue_Compare1 (nx (nS (PyProof.Rows.lt_int (wpAny_truthy_bool ?_)))))
        by_cases e3 : n < (st : Int)
        · rw [if_pos (by simpa using e3)]
          refine isTrue_and_nil ?_
          rw [if_pos rfl]
          exact fin true _ (by simp [stopOk, e3]; right; (first | lia | omega))
        · rw [if_neg (by simpa using e3), if_neg (by decide)]
          exact isTrue_or_nil (fin false _ (by simp [stopOk]; (first | lia | omega)))
      · rw [if_neg (by simpa using e2), if_neg (by decide)]
        exact isTrue_or_nil (fin false _ (by simp [stopOk]; (first | lia | omega)))
  · intro C i v s₃ m₃ E' _ hv _ hns hm hk _
    exact wpAny_Name (wpAny_loadName_local (hkk C) (hxx C) hns hm ⟨rfl, ⟨_, _, rfl, fun b o e => e⟩⟩) hxd
  · intro D h' tk' ys vs hD hlD hplD hlen hP hF hk
    have hvs : vs = rvs := by
      apply List.ext_getElem?
      intro i
      by_cases q : i < vs.length
      · have e := hP i vs[i] (List.getElem?_eq_getElem q)
        rw [List.getElem?_eq_getElem q]
        simpa using e.symm
      · rw [List.getElem?_eq_none (by (first | lia | omega)), List.getElem?_eq_none (by simp at hlen; (first | lia | omega))]
    subst hvs
    have hDs : s.heap.get? D = none := by
      cases e : s.heap.get? D with
      | none => rfl
      | some o' => have := old D o' e; rw [hD] at this; cases this
    have up' := up _ hk
    have hLD : D ≠ L := by
      rintro rfl
      obtain ⟨oL, es, ep, hLo, r⟩ := F.ns
      rw [hDs] at hLo; cases hLo
    have hgD : g.get? D = none := by
      cases e : g.get? D with
      | none => rfl
      | some o' => have := F.keep _ _ e; rw [hDs] at this; cases this
    obtain ⟨nD, hDo⟩ := hplD
    refine h D h' tk' ys.toList nD ⟨F.ns.at' fun o e => up' _ o e, fun b o e => up' _ _ (F.keep b o e), F.above⟩ ?_ (fun q hq e => by have := (N q hq).1; rw [e, hDs] at this; cases this) ?_
    · intro q hq
      cases hq with
      | head => exact ⟨by simpa using hDo, hLD, hgD⟩
      | tail _ hm => exact ⟨up' _ _ (N q hm).1, (N q hm).2⟩
    · rw [paired_eq hF]
      have := ints_filter (k := k) (st := st) hi
      rw [List.filter_map] at this
      have e : ((fun n : Int => decide (n = (st : Int) ∨ (0 < (k : Int) ∧ n < (st : Int)))) ∘ fun n : Nat => (n : Int)) = fun stop : Nat => decide (stop = st ∨ (0 < k ∧ stop < st)) := by
        funext a
        show decide ((a : Int) = (st : Int) ∨ (0 < (k : Int) ∧ (a : Int) < (st : Int))) = _
        exact decide_eq_decide.mpr (by (first | lia | omega))
      rw [e] at this
      exact this
end
theorem laterTo_len (flat : List Int) (reach : List Nat) (k : Nat) (row : List Int) (n : Nat) : (laterTo flat reach k row n).length ≤ n := by
  unfold laterTo
  rw [List.length_map]
  have := List.length_filter_le (fun start => decide ((flat.drop start).take row.length = row) && reach.any fun stop => decide (stop = start ∨ (0 < k ∧ stop < start))) (List.range n)
  simpa using this
theorem later_none {flat : List Int} {reach : List Nat} {k : Nat} {row : List Int} {n : Nat} (h : ¬ ((flat.drop n).take row.length = row) ∨ reach.filter (fun stop => decide (stop = n ∨ (0 < k ∧ stop < n))) = []) : laterTo flat reach k row (n + 1) = laterTo flat reach k row n := by
  rw [laterTo_succ, if_neg, List.append_nil]
  rcases h with h | h
  · simp [h]
  · rw [Bool.and_eq_true, List.any_eq_true]
    rintro ⟨_, x, hx, hp⟩
    have : x ∈ reach.filter (fun stop => decide (stop = n ∨ (0 < k ∧ stop < n))) := List.mem_filter.mpr ⟨hx, hp⟩
    rw [h] at this; cases this
theorem later_some {flat : List Int} {reach : List Nat} {k : Nat} {row : List Int} {n : Nat} (h1 : (flat.drop n).take row.length = row) (h2 : reach.filter (fun stop => decide (stop = n ∨ (0 < k ∧ stop < n))) ≠ []) : laterTo flat reach k row (n + 1) = laterTo flat reach k row n ++ [n + row.length] := by
  rw [laterTo_succ, if_pos]
  rw [Bool.and_eq_true, List.any_eq_true]
  obtain ⟨x, hx⟩ := List.exists_mem_of_ne_nil _ h2
  obtain ⟨h3, h4⟩ := List.mem_filter.mp hx
  exact ⟨decide_eq_true h1, x, h3, h4⟩
theorem fold_at {flat : List Int} {rows : List (List Int)} {i : Nat} {row : List Int} {reach : List Nat} (h : rows[i]? = some row) : ((List.range' i (rows.length - i)).zip (rows.drop i)).foldl (takeStep flat) reach = ((List.range' (i + 1) (rows.length - (i + 1))).zip (rows.drop (i + 1))).foldl (takeStep flat) (takeStep flat reach (i, row)) := by
  obtain ⟨hi, e⟩ := List.getElem?_eq_some_iff.mp h
  obtain ⟨k, hk⟩ : ∃ k, rows.length - i = k + 1 := ⟨rows.length - i - 1, (Nat.succ_pred_eq_of_pos (Nat.sub_pos_of_lt hi)).symm⟩
  have hk2 : rows.length - (i + 1) = k := by rw [Nat.sub_succ, hk]; rfl
  rw [hk, hk2, List.range'_succ, List.drop_eq_getElem_cons hi, e, List.zip_cons_cons, List.foldl_cons]
end

section
open PySem PySem.W PySem.Spec PySem.Calls PyProof.Rows

inductive JT (rows : List (List Int)) (flat : List Int) (i : Nat) (vals : List (Option Value)) (rest : List (Addr × Obj)) (cS : Addr) : Prop
  | mk : ∀ o2 o3 rc rvs reach nr oS v₀, (vals = [some (.ref rc), o2, o3]) → (rest = [(rc, listOf (List.toArray rvs) nr), (cS, oS)]) → (rc ≠ cS) → (oS.data = .cell v₀) → (IntsAre rvs (reach.map fun n : Nat => (n : Int))) → ((∀ x ∈ reach, x ≤ flat.length)) → (reach.length ≤ 2000) → (((List.range' i (rows.length - i)).zip (rows.drop i)).foldl (takeStep flat) reach = ((List.range rows.length).zip rows).foldl (takeStep flat) [0]) → JT rows flat i vals rest cS

theorem takes_call {w : World} {A : Around} {s : Shared} {R Fl : Addr} {us vs : List Value} {rows : List (List Int)} {flat : List Int} {Q E : Value → Shared → Prop} (S : Site w 340 1400 [] A s) (hb : AllBare s.gens) (hR0 : s.heap.IsList R us.toArray) (hrr0 : RowsAt s.heap us rows) (hF0 : s.heap.IsList Fl vs.toArray) (hfi : IntsAre vs flat) (hz1 : rows.length ≤ 200) (hz2 : flat.length ≤ 1000) (hz3 : ∀ r ∈ rows, r.length ≤ 1000)
  (hret : ∀ h' gs tk', AllBare gs → Keeps s.heap h' → Q (.bool (lawTakes rows flat)) ⟨h', gs, s.drawn, tk', s.os⟩) :
    wpAny (model PySem.Challenge.rw_ty0042_01.row.prog w) A (call (.ref 227) [.ref R, .ref Fl]) Q E s := by
  w_top off
  refine wpAny_call ?_
  refine' enterC (binds := [(Str.ofString "rows", .ref R), (Str.ofString "flat", .ref Fl)]) S ?k6 ?k7 ?k8 ?k9 ?kK ?kN ?_ ?c2 ?c3 ?c4
  case k6 => k_is
  case k7 => k_is
  case k8 => decide
  case k9 => exact BindsTo.of_eq rfl
  case kK => intro n x hx; simp only [List.mem_cons, List.not_mem_nil, or_false] at hx; rcases hx with rfl | rfl <;> exact .inl rfl
  case kN => decide
  case c2 => exact rfl
  case c3 => exact rfl
  case c4 => exact rfl
  intro L cn cs a ccd cl' outer base g L' h₁ tk cells mg mb mean hke F N hcells B KX T hg hk1 hL
  refine gen_goal fun G9 hG9 => ?_
  obtain ⟨oS, oK, rfl, hdS, hdK⟩ := CellsAre.two (n := Str.ofString "start") (c := L' + 1 + 1) (n' := Str.ofString "k") (c' := L' + 1) (by with_unfolding_all exact hcells)
  refine hG9 ?_
  clear hG9 G9
  replace F : Fr g L' h₁ (kstO (fun _ => none) [(Str.ofString "flat", some (.ref Fl)), (Str.ofString "rows", some (.ref R))]) := by with_unfolding_all exact F
  dsimp only [kstO] at F
  clear hcells
  try dsimp only
  try k_fold
  try (with_reducible refine wp_letA ?_; intro A9)
  have hRg := isList_keep hR0 hg
  have hFg := isList_keep hF0 hg
  have hrg := hrr0.keep hg
  try (with_reducible refine wp_letQ ?_; intro Qz1)
  k_steps
  refine unhold ?_
  (with_reducible rename Fr _ _ _ _ => F1)
  refine fr_let F1 ?_
  clear F1
  intro mz1x F1
  (with_reducible rename News _ _ _ _ => N1)
  rename_i tk0 rc hq1 hlt1 hq2
  have hN1 : rc ≠ L' + 1 + 1 ∧ rc ≠ L' + 1 := ⟨Nat.ne_of_gt (by first | exact hlt1.1 | exact hlt1.2 | exact hlt1.2.1), Nat.ne_of_gt (by first | exact hlt1.2 | exact hlt1.1 | exact hlt1.2.1)⟩
  have hSK : L' + 1 + 1 ≠ L' + 1 := Nat.succ_ne_self _
  have N2 := news_sub N1 (b := [(L' + 1, oK), (rc, listOf (List.toArray [Value.int 0 _]) _), (L' + 1 + 1, oS)]) (by
    intro q hq
    simp only [List.mem_cons, List.not_mem_nil, or_false] at hq ⊢
    rcases hq with rfl | rfl | rfl
    · exact .inr (.inr rfl)
    · exact .inl rfl
    · exact .inr (.inl rfl))
  clear N1
  refine iter_enumC (ck := L' + 1) (items := us.toArray) [Str.ofString "reach", Str.ofString "row", Str.ofString "later"] (fun i vals rest => JT rows flat i vals rest (L' + 1 + 1)) rfl rfl rfl (by with_unfolding_all rfl) rfl rfl F1 N2 hdK ?_ hb hRg ?_ ?_ ?_
  · intro q hq
    revert q
    refine all_cons ?_ ?_
    · exact hN1.2
    refine all_cons ?_ all_nil
    exact hSK
  · refine ⟨none, none, rc, _, [0], _, oS, _, ?_, rfl, hN1.1, hdS, .cons _ _ .nil, ?_, by simp, ?_⟩
    · with_unfolding_all rfl
    · intro x hx; simp at hx; (first | lia | omega)
    · rw [Nat.sub_zero, List.drop_zero, List.range_eq_range']
  · intro i t v vals rest₁ o₁ h gs tk own a b hv hz27x hgs hab hown hz28x hz29x hdK hoK F2 N2
    refine gen_goal fun G9 hG9 => ?_
    obtain ⟨o2, o3, rc, rvs, reach, nr, oS, v₀, rfl, rfl, hrS, hdS, hri, hrb, hrl, hfold⟩ := hz27x
    obtain ⟨oa, hina⟩ := hz28x
    obtain ⟨ob, hinb⟩ := hz29x
    refine hG9 ?_
    clear hG9 G9
    refine gen_goal fun G9 hG9 => ?_
    obtain ⟨ra, ua, row, rfl, e2, e3, e4⟩ := hrg.at i v (by simpa using hv)
    refine hG9 ?_
    clear hG9 G9
    refine fr_let F2 ?_
    clear F2
    intro mz2x F2
    have N3 : News g L' h [(L' + 1, o₁), (rc, listOf rvs.toArray nr), (L' + 1 + 1, oS)] := fun p hp => N2 p (List.mem_append_right _ hp)
    have hRow : h.IsList ra ua.toArray := e3.at fun o e => F2.keep _ _ e
    have hFlh : h.IsList Fl vs.toArray := hFg.at fun o e => F2.keep _ _ e
    have hrl3 := hz3 row (List.mem_of_getElem? e2)
    clear F1
    try (with_reducible refine wp_letQ ?_; intro Qz2)
    k_steps
    refine unhold ?_
    (with_reducible rename Fr _ _ _ _ => F4)
    refine fr_let F4 ?_
    clear F4
    intro mz3x F4
    (with_reducible rename News _ _ _ _ => N4)
    (with_reducible rename IsRange _ _ _ _ _ _ _ _ => hR)
    rename_i lt0 q1 q2 q3 hltp q4 q5 q6 q7 q8 q9 q10 q11 hkeep
    have hlt := hltp
    have hlS : lt0 ≠ L' + 1 + 1 := (Nat.ne_of_lt (hlt (L' + 1 + 1, oS) (List.mem_append_right _ (.tail _ (.tail _ (.head _)))))).symm
    have hlK : lt0 ≠ L' + 1 := (Nat.ne_of_lt (hlt (L' + 1, o₁) (List.mem_append_right _ (.head _)))).symm
    have hlrc : lt0 ≠ rc := (Nat.ne_of_lt (hlt (rc, _) (List.mem_append_right _ (.tail _ (.head _))))).symm
    have hlo : ∀ p ∈ own, p.1 ≠ lt0 := fun p hp => Nat.ne_of_lt (hlt p (List.mem_append_left _ hp))
    have N5 : News g L' _ ((L' + 1 + 1, oS) :: (lt0, listOf (List.toArray []) 0) :: (rc, listOf rvs.toArray nr) :: (L' + 1, o₁) :: own) := news_sub N4 (by
      intro q hq
      rcases List.mem_cons.mp hq with rfl | hq
      · exact .tail _ (List.mem_append_right _ (.tail _ (.tail _ (.head _))))
      rcases List.mem_cons.mp hq with rfl | hq
      · exact .head _
      rcases List.mem_cons.mp hq with rfl | hq
      · exact .tail _ (List.mem_append_right _ (.tail _ (.head _)))
      rcases List.mem_cons.mp hq with rfl | hq
      · exact .tail _ (List.mem_append_right _ (.head _))
      · exact .tail _ (List.mem_append_left _ hq))
    have hJoff : ∀ lvs nl, ∀ p ∈ (lt0, listOf (List.toArray lvs) nl) :: (rc, listOf rvs.toArray nr) :: (L' + 1, o₁) :: own, p.1 ≠ L' + 1 + 1 := by
      intro lvs nl q hq
      rcases List.mem_cons.mp hq with rfl | hq
      · exact hlS
      rcases List.mem_cons.mp hq with rfl | hq
      · exact hrS
      rcases List.mem_cons.mp hq with rfl | hq
      · exact (Nat.succ_ne_self _).symm
      · have h1 := hab (L' + 1 + 1, oS) (.tail _ (.tail _ (.head _)))
        rcases hown q hq with e | e
        · rw [e]; exact h1.1.symm
        · rw [e]; exact h1.2.symm
    clear N4 hltp q2 q3 q5 q6
    refine iter_rangeC (cx := L' + 1 + 1) (n := ((flat.length : Int) - row.length + 1).toNat) [] (fun j vals rest => vals = [] ∧ ∃ lvs nl, rest = (lt0, listOf (List.toArray lvs) nl) :: (rc, listOf rvs.toArray nr) :: (L' + 1, o₁) :: own ∧ IntsAre lvs ((laterTo flat reach i row j).map fun n : Nat => (n : Int))) rfl rfl rfl (by with_unfolding_all rfl) F4 N5 hdS (hJoff _ _) (by assumption) hR (range_small1 (by (first | lia | omega)) (by (first | lia | omega))) (range_size1 _) ⟨rfl, [], 0, rfl, .nil⟩ ?_ ?_
    · intro j tj vals rest₁ oS' h gs tk I io hj hz30x hgs hI hoS hoff F6 N6
      refine gen_goal fun G9 hG9 => ?_
      obtain ⟨rfl, lvs, nl, rfl, hlv⟩ := hz30x
      refine hG9 ?_
      clear hG9 G9
      try dsimp only [kstO, List.zip_cons_cons, List.zip_nil_right, List.zip_nil_left] at F6
      have hjf : j + row.length ≤ flat.length := by (first | lia | omega)
      have hRow6 : h.IsList ra ua.toArray := e3.at fun o e => F6.keep _ _ e
      have hFlh6 : h.IsList Fl vs.toArray := hFg.at fun o e => F6.keep _ _ e
      clear F4 N5
      try (with_reducible refine wp_letQ ?_; intro Qz3)
      k_steps
      · refine unhold ?_
        (with_reducible rename Fr _ _ _ _ => F8)
        refine fr_let F8 ?_
        clear F8
        intro mz4x F8
        (with_reducible rename News _ _ _ _ => N8)
        refine stops_comp (cl := [(Str.ofString "start", L' + 1 + 1), (Str.ofString "k", L' + 1)]) (k := i) (st := j) F8 N8 rfl (by with_unfolding_all rfl) (by decide) rfl (by decide) rfl (fun C => by with_unfolding_all rfl) (fun C => by with_unfolding_all rfl) (fun C => by with_unfolding_all rfl) (fun C => rfl) (by decide) (by decide) (by decide) (by with_unfolding_all rfl) (by with_unfolding_all rfl) (by k_mem) (by k_mem) hoS hdK ?kev ⟨_, (N8 (rc, _) (by k_mem)).1, rfl, _, rfl⟩ hri hrl ?_
        case kev =>
          intro Q' hq
          try (with_reducible refine wp_letQ ?_; intro Qz4)
          k_steps
          exact hq
        intro D h9 tk9 dvs nD F9 N9 hDn hdi
        clear F8 N8
        try (with_reducible refine wp_letQ ?_; intro Qz5)
        k_steps
        · show Hold _
          (with_reducible rename Fr _ _ _ _ => F10)
          refine fr_let F10 ?_
          clear F10
          intro mz5x F10
          (with_reducible rename News _ _ _ _ => N10)
          have hm := of_decide_eq_true ‹decide (List.map (fun n : Nat => (n : Int)) (List.filter (fun stop => decide (stop = j ∨ 0 < i ∧ stop < j)) reach) = []) = true›
          have N11 : News g L' _ ([(I, io)] ++ (L' + 1 + 1, oS') :: (lt0, listOf lvs.toArray nl) :: (rc, listOf rvs.toArray nr) :: (L' + 1, o₁) :: own) := news_sub N10 fun q hq => .tail _ (.tail _ (.tail _ hq))
          refine ⟨_, _, _, _, [], _, rfl, by assumption, F10, by with_unfolding_all rfl, N11, fun q hq => by simpa using hI q hq, oS', _, _, rfl, hoS, hoff, rfl, lvs, nl, rfl, ?_⟩
          rw [later_none (.inr (List.map_eq_nil_iff.mp hm))]
          exact hlv
        · skip
          (with_reducible rename Fr _ _ _ _ => F10)
          refine fr_let F10 ?_
          clear F10
          intro mz6x F10
          (with_reducible rename News _ _ _ _ => N10)
          have hm := of_decide_eq_false ‹decide (List.map (fun n : Nat => (n : Int)) (List.filter (fun stop => decide (stop = j ∨ 0 < i ∧ stop < j)) reach) = []) = false›
          have he := ‹List.take (min ((j : Int) + (row.length : Int)).toNat flat.length - ((j : Int)).toNat) (List.drop ((j : Int)).toNat flat) = row›
          rw [min_sub hjf, Int.toNat_natCast] at he
          have N11 : News g L' _ ((I, io) :: (L' + 1 + 1, oS') :: (lt0, listOf lvs.toArray nl) :: (rc, listOf rvs.toArray nr) :: (L' + 1, o₁) :: own) := news_sub N10 fun q hq => .tail _ (.tail _ (.tail _ hq))
          have hlz : lvs.length ≤ sizeLine := by
            have e1 := hlv.length
            have e2 := laterTo_len flat reach i row j
            rw [List.length_map] at e1
            rw [sizeLine_eq]; (first | lia | omega)
          refine append_K F10 N11 (UpdF.tail (hI (lt0, _) (.tail _ (.head _))).symm (UpdF.tail hlS.symm (UpdF.head fun q hq => ?_))) hlz ?_
          · rcases List.mem_cons.mp hq with rfl | hq
            · exact hlrc.symm
            rcases List.mem_cons.mp hq with rfl | hq
            · exact hlK.symm
            · exact hlo q hq
          intro h11 F11 N12
          clear F10 N10 N11
          try (with_reducible refine wp_letQ ?_; intro Qz6)
          k_steps
          show Hold _
          (with_reducible rename Fr _ _ _ _ => F13)
          refine fr_let F13 ?_
          clear F13
          intro mz7x F13
          (with_reducible rename News _ _ _ _ => N13)
          refine ⟨_, _, _, _, [], _, rfl, by assumption, F13, by with_unfolding_all rfl, N13, fun q hq => ?_, oS', _, _, rfl, hoS, fun q hq => ?_, rfl, _, _, rfl, ?_⟩
          · rw [List.mem_singleton]
            rcases List.mem_cons.mp hq with rfl | hq
            · exact hI _ (.head _)
            rcases List.mem_cons.mp hq with rfl | hq
            · exact hI (lt0, listOf lvs.toArray nl) (.tail _ (.head _))
            · exact hI q (.tail _ (.tail _ hq))
          · rcases List.mem_cons.mp hq with rfl | hq
            · exact hoff (lt0, listOf lvs.toArray nl) (.head _)
            · exact hoff q (.tail _ hq)
          · rw [later_some he fun z => hm (by rw [z]; rfl), List.map_append]
            exact IntsAre.snoc' hlv _ _
      · show Hold _
        (with_reducible rename Fr _ _ _ _ => F10)
        refine fr_let F10 ?_
        clear F10
        intro mz8x F10
        (with_reducible rename News _ _ _ _ => N10)
        have he := ‹¬ List.take (min ((j : Int) + (row.length : Int)).toNat flat.length - ((j : Int)).toNat) (List.drop ((j : Int)).toNat flat) = row›
        rw [min_sub hjf, Int.toNat_natCast] at he
        have N11 : News g L' _ ([(I, io)] ++ (L' + 1 + 1, oS') :: (lt0, listOf lvs.toArray nl) :: (rc, listOf rvs.toArray nr) :: (L' + 1, o₁) :: own) := news_sub N10 fun q hq => .tail _ hq
        refine ⟨_, _, _, _, [], _, rfl, by assumption, F10, by with_unfolding_all rfl, N11, fun q hq => by simpa using hI q hq, oS', _, _, rfl, hoS, hoff, rfl, lvs, nl, rfl, ?_⟩
        rw [later_none (.inl he)]
        exact hlv
    · intro h gs tk vals rest₁ oS' v₁ hz31x hoS hoff hgs F6 N6
      refine gen_goal fun G9 hG9 => ?_
      obtain ⟨rfl, lvs, nl, rfl, hlv⟩ := hz31x
      refine hG9 ?_
      clear hG9 G9
      try dsimp only [kstO, List.zip_cons_cons, List.zip_nil_right, List.zip_nil_left] at F6
      clear F4 N5
      try (with_reducible refine wp_letQ ?_; intro Qz7)
      k_steps
      show Hold _
      (with_reducible rename Fr _ _ _ _ => F7)
      refine fr_let F7 ?_
      clear F7
      intro mz9x F7
      (with_reducible rename News _ _ _ _ => N7)
      have N8 : News g L' _ (own ++ (L' + 1, o₁) :: [(lt0, listOf lvs.toArray nl), (L' + 1 + 1, oS')]) := news_sub N7 fun q hq => by
        rcases List.mem_append.mp hq with hq' | hq'
        · exact .tail _ (.tail _ (.tail _ (.tail _ hq')))
        clear hq
        revert q
        refine all_cons ?_ ?_
        · exact .tail _ (.tail _ (.tail _ (.head _)))
        refine all_cons ?_ ?_
        · exact .tail _ (.head _)
        refine all_cons ?_ all_nil
        exact .head _
      have hnn : ((flat.length : Int) - row.length + 1).toNat = flat.length + 1 - row.length := by (first | lia | omega)
      rw [hnn, laterTo_all] at hlv
      refine ⟨_, _, _, _, [some (.ref lt0), some (.ref ra), some (.ref lt0)], _, rfl, by assumption, F7, by (refine same_fun [Str.ofString "reach", Str.ofString "row", Str.ofString "later"] (by with_unfolding_all exact ⟨rfl, rfl, rfl, trivial⟩) ?_; rintro y ⟨q_reach, q_row, q_later, -⟩; dsimp only [kstO, List.zip_cons_cons, List.zip_nil_right, List.zip_nil_left]; (repeat (refine (if_neg (by with_reducible assumption)).trans ?_)); refine Eq.symm ?_; (repeat (refine (if_neg (by with_reducible assumption)).trans ?_)); rfl), N8, fun q hq => ?_, o₁, _, [(lt0, listOf lvs.toArray nl), (L' + 1 + 1, oS')], rfl, hdK, fun q hq => ?_, some (.ref ra), some (.ref lt0), lt0, lvs, takeStep flat reach (i, row), nl, oS', v₁, rfl, rfl, hlS, hoS, hlv, fun x hx => ?_, ?_, (fold_at e2).symm.trans hfold⟩
      · simp only [List.mem_cons, List.not_mem_nil, or_false] at hq
        simp only [List.mem_cons, List.not_mem_nil, or_false, not_or]
        rcases hq with rfl | rfl | rfl
        · exact hab (L' + 1, o₁) (.head _)
        · exact ⟨(Nat.ne_of_lt (hlt _ (List.mem_append_left _ hina))).symm, (Nat.ne_of_lt (hlt _ (List.mem_append_left _ hinb))).symm⟩
        · exact hab (L' + 1 + 1, oS) (.tail _ (.tail _ (.head _)))
      · revert q
        refine all_cons ?_ ?_
        · exact hlK
        refine all_cons ?_ all_nil
        exact Nat.succ_ne_self _
      · refine gen_goal fun G9 hG9 => ?_
        obtain ⟨_, rfl, h2, _⟩ := mem_step.mp hx
        refine hG9 ?_
        clear hG9 G9
        exact h2
      · rw [← laterTo_all]
        have := laterTo_len flat reach i row (flat.length + 1 - row.length)
        (first | lia | omega)
  · intro h gs tk vals rest₁ oK' v₁ hz32x hdK hoK hgs F2 N2
    refine gen_goal fun G9 hG9 => ?_
    obtain ⟨o2, o3, rc, rvs, reach, nr, oS, v₀, rfl, rfl, hrS, hdS, hri, hrb, hrl, hfold⟩ := hz32x
    refine hG9 ?_
    clear hG9 G9
    refine fr_let F2 ?_
    clear F2
    intro mz10x F2
    clear F1
    try (with_reducible refine wp_letQ ?_; intro Qz8)
    k_steps
    (with_reducible rename Fr _ _ _ _ => F3)
    refine fr_let F3 ?_
    clear F3
    intro mz11x F3
    (with_reducible rename News _ _ _ _ => N3)
    have hus := hrg.length
    have hz : rows.length - us.toArray.size = 0 := by simp [hus]
    rw [hz, List.range'_zero, List.zip_nil_left, List.foldl_nil] at hfold
    have hans : ((List.map (fun n : Nat => (n : Int)) reach).any fun x => x == (flat.length : Int)) = lawTakes rows flat := by
      unfold lawTakes
      rw [← hfold, Bool.eq_iff_iff, List.any_eq_true, decide_eq_true_eq]
      constructor
      · intro hz33x
        refine gen_goal fun G9 hG9 => ?_
        obtain ⟨x, hx, e⟩ := hz33x
        refine hG9 ?_
        clear hG9 G9
        refine gen_goal fun G9 hG9 => ?_
        obtain ⟨n, hn, rfl⟩ := List.mem_map.mp hx
        refine hG9 ?_
        clear hG9 G9
        have := eq_of_beq e
        have e' : n = flat.length := by (first | lia | omega)
        exact e' ▸ hn
      · intro h
        exact ⟨_, List.mem_map_of_mem h, beq_self_eq_true _⟩
    rw [hans]
    exact hret _ _ _ (by assumption) fun b o e => F3.keep b o (hg b o e)
end

section
open PySem PySem.W PySem.Spec PySem.Calls PyProof.Rows PyProof.V PySem.SeqAt
noncomputable def digs (r : List Int) : List (List Nat) := r.map fun n => dg n.toNat
noncomputable def parts (r : List Int) : List (Str × Str) := (digs r).map fun ds => (blank, wordStr ds)
theorem parts_text (r : List Int) : partText (parts r) = rowText (digs r) := rfl
theorem parts_snoc (r : List Int) (x : Int) : parts (r ++ [x]) = parts r ++ [(blank, wordStr (dg x.toNat))] := by simp [parts, digs]
theorem parts_nil {r : List Int} : parts r = [] ↔ r = [] := by simp [parts, digs]
theorem row_nil_text : rowText (digs []) = Str.ofString "" := by rw [rowText_mk, emp1]; rfl
structure PInv (wid head : Int) (seen : List Int) (st : List Str × List (Str × Str) × Int) (lr : List (List Int) × Int) : Prop where
  ex : ∃ init last ini, st = (init.map (fun r => rowText (digs r)), parts last, ini) ∧ lr = (init ++ [last], wid - ini - partLen (parts last)) ∧ 0 ≤ ini ∧ ini ≤ head ∧ (last = [] → init = [] ∧ ini = head ∧ seen = []) ∧ (∀ r ∈ (init ++ [last]).drop 1, r ≠ []) ∧ init.length ≤ seen.length ∧ (∀ r ∈ init ++ [last], r.length ≤ seen.length ∧ ∀ x ∈ r, x ∈ seen) ∧ 0 ≤ partLen (parts last)
theorem partLen_nil : partLen [] = 0 := by simp [partLen]
theorem partLen_one (x : Int) : partLen (parts [x]) = 2 + (dg x.toNat).length := by
  have := partLen_word [] (dg x.toNat)
  rw [List.nil_append, partLen_nil, Int.zero_add] at this
  exact this
theorem pinv_one {wid head : Int} {seen : List Int} (x : Int) (hh : 0 ≤ head) (init : List (List Int)) (h3 : ∀ r ∈ (init ++ [[x]]).drop 1, r ≠ []) (h4 : init.length ≤ seen.length + 1) (h5 : ∀ r ∈ init, r.length ≤ (seen ++ [x]).length ∧ ∀ y ∈ r, y ∈ seen ++ [x]) :
    PInv wid head (seen ++ [x]) (init.map (fun r => rowText (digs r)), parts [x], 0) (init ++ [[x]], wid - (2 + (dg x.toNat).length)) := by
  refine ⟨init, [x], 0, rfl, ?_, Int.le_refl _, hh, fun z => (nomatch z), h3, by rw [List.length_append]; exact h4, all_app h5 (all_cons ⟨?_, fun y hy => List.mem_append_right _ hy⟩ all_nil), ?_⟩
  · rw [partLen_one, Int.sub_zero]
  · rw [List.length_append]; exact Nat.le_add_left _ _
  · rw [partLen_one]; exact Int.add_nonneg (by decide) (Int.natCast_nonneg _)
theorem pinv_step {wid head : Int} {seen : List Int} {st : List Str × List (Str × Str) × Int} {lr : List (List Int) × Int} (hh : 0 ≤ head) (x : Int) (h : PInv wid head seen st lr) : PInv wid head (seen ++ [x]) (pageStep wid st (wordStr (dg x.toNat))) (lrStep wid head lr x) := by
  obtain ⟨init, last, ini, rfl, rfl, h0, h1, h2, h3, h4, h5, h6⟩ := h.ex
  have ep := partLen_word (parts last) (dg x.toNat)
  have mem_old : ∀ r ∈ init ++ [last], r.length ≤ (seen ++ [x]).length ∧ ∀ y ∈ r, y ∈ seen ++ [x] := fun r hr => ⟨by rw [List.length_append]; exact Nat.le_trans (h5 r hr).1 (Nat.le_add_right _ _), fun y hy => List.mem_append_left _ ((h5 r hr).2 y hy)⟩
  have hlm : last ∈ init ++ [last] := List.mem_append_right _ (.head _)
  by_cases fit : ini + partLen (parts last ++ [(blank, wordStr (dg x.toNat))]) ≤ wid
  · have el : lrStep wid head (init ++ [last], wid - ini - partLen (parts last)) x = (init ++ [last ++ [x]], wid - ini - partLen (parts last) - (2 + (dg x.toNat).length)) := by
      rw [ep] at fit
      refine (if_neg fun z => ?_).trans (congrArg (fun l => (l, wid - ini - partLen (parts last) - (2 + (dg x.toNat).length))) (by rw [List.dropLast_concat, List.getLastD_concat]))
      have z := z.1
      clear mem_old h5 h3 h2 ep
      (first | lia | omega)
    have es : pageStep wid (init.map (fun r => rowText (digs r)), parts last, ini) (wordStr (dg x.toNat)) = (init.map (fun r => rowText (digs r)), parts (last ++ [x]), ini) :=
      (if_pos fit).trans (by rw [parts_snoc])
    rw [el, es]
    refine ⟨init, last ++ [x], ini, rfl, congrArg (Prod.mk _) (by rw [parts_snoc, ep, Int.sub_sub]), h0, h1, fun z => absurd z (List.append_ne_nil_of_right_ne_nil _ (List.cons_ne_nil _ _)), ?_, by rw [List.length_append]; exact Nat.le_succ_of_le h4,
      all_app (fun r hr => mem_old r (List.mem_append_left _ hr)) (all_cons ⟨?_, all_app (mem_old _ hlm).2 fun y hy => List.mem_append_right _ hy⟩ all_nil), by rw [parts_snoc, ep]; exact Int.add_nonneg h6 (Int.add_nonneg (by decide) (Int.natCast_nonneg _))⟩
    · cases init with
      | nil => exact fun r hr => nomatch hr
      | cons a init => exact all_app (fun r hr => h3 r (List.mem_append_left _ hr)) (all_cons (List.append_ne_nil_of_right_ne_nil _ (List.cons_ne_nil _ _)) all_nil)
    · rw [List.length_append, List.length_append]; exact Nat.succ_le_succ (h5 _ hlm).1
  · by_cases hl : last = []
    · obtain ⟨rfl, rfl, rfl⟩ := h2 hl
      subst hl
      have e0 : partLen (parts ([] : List Int) ++ [(blank, wordStr (dg x.toNat))]) = 2 + (dg x.toNat).length := partLen_one x
      by_cases hp : 0 < ini
      · have el : lrStep wid ini ([] ++ [[]], wid - ini - partLen (parts [])) x = ([[]] ++ [[x]], wid - (2 + (dg x.toNat).length)) := by
          refine if_pos ⟨?_, .inl hp⟩
          show 2 + _ > wid - ini - partLen (parts [])
          rw [show partLen (parts []) = 0 from partLen_nil]
          rw [e0] at fit
          clear mem_old h5 h3 h2 ep
          (first | lia | omega)
        have es : pageStep wid (([] : List (List Int)).map (fun r => rowText (digs r)), parts [], ini) (wordStr (dg x.toNat)) = ([[]].map (fun r => rowText (digs r)), parts [x], 0) :=
          (if_neg fit).trans ((if_pos rfl).trans (congrArg (fun z => (z, parts [x], (0 : Int))) ((if_pos hp).trans (congrArg (fun z => [z]) row_nil_text.symm))))
        rw [el, es]
        exact pinv_one x hh [[]] (all_cons (List.cons_ne_nil _ _) all_nil) (Nat.le_refl _) (all_cons ⟨Nat.zero_le _, fun y hy => nomatch hy⟩ all_nil)
      · have el : lrStep wid ini ([] ++ [[]], wid - ini - partLen (parts [])) x = ([] ++ [[x]], wid - (2 + (dg x.toNat).length)) :=
          (if_neg fun z => z.2.elim hp fun q => q rfl).trans (congrArg (Prod.mk _) (by rw [show partLen (parts []) = 0 from partLen_nil, Int.le_antisymm (Int.not_lt.mp hp) h0, Int.sub_zero, Int.sub_zero]))
        have es : pageStep wid (([] : List (List Int)).map (fun r => rowText (digs r)), parts [], ini) (wordStr (dg x.toNat)) = (([] : List (List Int)).map (fun r => rowText (digs r)), parts [x], 0) :=
          (if_neg fit).trans ((if_pos rfl).trans (congrArg (fun z => (z, parts [x], (0 : Int))) (if_neg hp)))
        rw [el, es]
        exact pinv_one x hh [] (fun r hr => nomatch hr) (Nat.zero_le _) all_nil
    · have hne : init ++ [last] ≠ [[]] := by
        intro z
        cases init with
        | nil => exact hl (List.cons.inj z).1
        | cons a init => exact absurd (List.cons.inj z).2 (List.append_ne_nil_of_right_ne_nil _ (List.cons_ne_nil _ _))
      have el : lrStep wid head (init ++ [last], wid - ini - partLen (parts last)) x = (init ++ [last] ++ [[x]], wid - (2 + (dg x.toNat).length)) := by
        refine if_pos ⟨?_, .inr hne⟩
        show 2 + _ > wid - ini - partLen (parts last)
        rw [ep] at fit
        clear mem_old h5 h3 h2 ep
        (first | lia | omega)
      have es : pageStep wid (init.map (fun r => rowText (digs r)), parts last, ini) (wordStr (dg x.toNat)) = ((init ++ [last]).map (fun r => rowText (digs r)), parts [x], 0) :=
        (if_neg fit).trans ((if_neg fun z => hl (parts_nil.mp z)).trans (congrArg (fun z => (z, parts [x], (0 : Int))) (by rw [parts_text, List.map_append]; rfl)))
      rw [el, es]
      refine pinv_one x hh (init ++ [last]) ?_ (by rw [List.length_append]; exact Nat.succ_le_succ h4) mem_old
      cases init with
      | nil => exact all_cons (List.cons_ne_nil _ _) all_nil
      | cons a init => exact all_app h3 (all_cons (List.cons_ne_nil _ _) all_nil)
theorem pinv_fold {wid head : Int} (hh : 0 ≤ head) : ∀ (ns seen : List Int) (st : List Str × List (Str × Str) × Int) (lr : List (List Int) × Int), PInv wid head seen st lr → PInv wid head (seen ++ ns) ((ns.map fun n => wordStr (dg n.toNat)).foldl (pageStep wid) st) (ns.foldl (lrStep wid head) lr) := by
  intro ns
  induction ns with
  | nil => exact fun seen st lr h => (List.append_nil seen).symm ▸ h
  | cons x ns ih =>
    intro seen st lr h
    rw [List.map_cons, List.foldl_cons, List.foldl_cons, List.append_cons]
    exact ih _ _ _ (pinv_step hh x h)
theorem pinv_start (wid head : Int) (hh : 0 ≤ head) : PInv wid head [] ([], [], head) ([[]], wid - head) :=
  ⟨[], [], head, rfl, by simp [parts, digs, partLen], hh, Int.le_refl _, fun _ => ⟨rfl, rfl, rfl⟩, by intro r hr; simp at hr, by simp, by intro r hr; simp at hr; rw [hr]; simp, by simp [parts, digs, partLen]⟩
/-- what a page holds when its numbers are laid into it -/
theorem page_facts {wid head : Int} (hh : 0 ≤ head) (hh2 : head < 1000) {ns : List Int} (hne : ns ≠ []) (hlen : ns.length ≤ 99) (hnn : ∀ n ∈ ns, 0 ≤ n ∧ n < 64 ^ 6) :
    closeLs (pageOf wid head ns) = ((lawRows ns wid head).map digs).map rowText ∧ Closing (pageOf wid head ns).2.1 ∧ 0 ≤ (pageOf wid head ns).2.2 ∧ (pageOf wid head ns).2.2 < 2 ^ 30 ∧ (pageOf wid head ns).1.length < 900 ∧ partLen (pageOf wid head ns).2.1 < 2 ^ 20 ∧ (pageOf wid head ns).2.1.length < 1000 ∧
    ((closeLs (pageOf wid head ns)).map (·.length)).sum + (closeLs (pageOf wid head ns)).length ≤ 1048576 ∧ RowsOk ((lawRows ns wid head).map digs) ∧ (∀ r ∈ lawRows ns wid head, r.length ≤ 99 ∧ ∀ x ∈ r, 0 ≤ x ∧ x < 64 ^ 6) ∧ lawRows ns wid head ≠ [] ∧ (∀ r ∈ (lawRows ns wid head).drop 1, r ≠ []) ∧ (lawRows ns wid head).length ≤ 100 ∧ (lawRows ns wid head).getLastD [] ≠ [] := by
  have hp := pinv_fold hh ns [] _ _ (pinv_start wid head hh)
  rw [List.nil_append] at hp
  refine gen_goal fun G9 hG9 => ?_
  obtain ⟨init, last, ini, e1, e2, h0, h1, h2, h3, h4, h5, h6⟩ := hp.ex
  refine hG9 ?_
  clear hG9 G9
  have hl : last ≠ [] := fun z => hne (h2 z).2.2
  have el : lawRows ns wid head = init ++ [last] := by unfold lawRows; rw [e2]
  have ep : pageOf wid head ns = (init.map (fun r => rowText (digs r)), parts last, ini) := e1
  have hpl : parts last ≠ [] := fun z => hl (parts_nil.mp z)
  have ec : closeLs (pageOf wid head ns) = ((lawRows ns wid head).map digs).map rowText := by
    rw [ep, el]
    unfold closeLs
    dsimp only
    rw [if_neg hpl, parts_text, List.map_map, List.map_append]
    rfl
  have hdl : ∀ n ∈ ns, (dg n.toNat).length ≤ 6 := fun n hn => dg_len_lt 6 _ (by have := hnn n hn; (first | lia | omega))
  have hrl : ∀ r ∈ lawRows ns wid head, r.length ≤ 99 ∧ ∀ x ∈ r, 0 ≤ x ∧ x < 64 ^ 6 := fun r hr => by
    rw [el] at hr
    exact ⟨Nat.le_trans (h5 r hr).1 hlen, fun x hx => hnn x ((h5 r hr).2 x hx)⟩
  have hlr : (lawRows ns wid head).length ≤ 100 := by rw [el, List.length_append]; exact Nat.succ_le_succ (Nat.le_trans h4 hlen)
  have hdig : ∀ r ∈ (lawRows ns wid head).map digs, ∀ ds ∈ r, ds.length ≤ 6 ∧ ∀ d ∈ ds, d < 64 := fun r hr ds hds => by
    obtain ⟨q, hq, rfl⟩ := List.mem_map.mp hr
    obtain ⟨n, hn, rfl⟩ := List.mem_map.mp hds
    rw [el] at hq
    exact ⟨hdl n ((h5 q hq).2 n hn), dg_lt _⟩
  have hfitr : ∀ r ∈ (lawRows ns wid head).map digs, r.length ≤ 100 := fun r hr => by
    obtain ⟨q, hq, rfl⟩ := List.mem_map.mp hr
    have := (hrl q hq).1
    rw [digs, List.length_map]; exact Nat.le_succ_of_le this
  have hdrop : ∀ r ∈ (lawRows ns wid head).drop 1, r ≠ [] := by rw [el]; exact h3
  have hok : RowsOk ((lawRows ns wid head).map digs) := by
    refine ⟨hdig, fun i r hi hr => ?_, by rw [List.length_map]; exact hlr, hfitr⟩
    rw [List.getElem?_map] at hr
    obtain ⟨q, hq, rfl⟩ := Option.map_eq_some_iff.mp hr
    have : q ∈ (lawRows ns wid head).drop 1 := List.mem_of_getElem? (i := i - 1) (by rw [List.getElem?_drop, Nat.add_sub_cancel' hi]; exact hq)
    have := hdrop q this
    cases q with
    | nil => exact absurd rfl this
    | cons => simp [digs]
  have hpb : partLen (parts last) ≤ 8 * last.length := by
    have hdl' : ∀ n ∈ last, (dg n.toNat).length ≤ 6 := fun n hn => hdl n ((h5 last (List.mem_append_right _ (.head _))).2 n hn)
    clear hpl hl ep el e1 e2 h2 h3 h5 h6
    induction last with
    | nil => simp [parts, digs, partLen]
    | cons a l ih =>
      have := ih fun n hn => hdl' n (.tail _ hn)
      have ha := hdl' a (.head _)
      have e : partLen (parts (a :: l)) = (2 + (dg a.toNat).length) + partLen (parts l) := by
        show partLen ((blank, wordStr (dg a.toNat)) :: parts l) = _
        rw [partLen_cons]
        have e4 : blank.length = 1 := by decide +kernel
        rw [e4, wordStr_len]; (first | lia | omega)
      rw [e, List.length_cons]
      (first | lia | omega)
  have hll := (h5 last (List.mem_append_right _ (.head _))).1
  refine ⟨ec, ?_, ?_, ?_, ?_, ?_, ?_, ?_, hok, hrl, ?_, hdrop, hlr, ?_⟩
  · rw [ep]
    refine .inr ?_
    obtain ⟨l0, x, rfl⟩ : ∃ l0 x, last = l0 ++ [x] := ⟨last.dropLast, last.getLast hl, (List.dropLast_concat_getLast hl).symm⟩
    refine ⟨parts l0, wordStr (dg x.toNat), parts_snoc _ _, ?_, ?_, ?_, ?_⟩
    · intro z
      have := congrArg (fun s : Str => s.length) z
      rw [wordStr_len, emp1, mkS_len] at this
      simp at this
    · unfold PyData.strOk wordStr
      rw [List.all_toArray, List.all_append, Bool.and_eq_true]
      refine ⟨List.all_eq_true.mpr fun c hc => ?_, by decide⟩
      obtain ⟨d, hd, rfl⟩ := List.mem_map.mp hc
      have := dg_lt _ d hd
      exact decide_eq_true (by (first | lia | omega))
    · rw [parts_snoc, partLen_word]
      have := partLen_nonneg (parts l0)
      (first | lia | omega)
    · rw [parts_text, rowText_mk]
      unfold Txt.isspace
      rw [Bool.and_eq_false_iff]
      right
      rw [List.all_toArray, List.all_eq_false]
      refine ⟨44, ?_, by decide +kernel⟩
      unfold rowL digs
      rw [List.map_append, List.flatMap_append]
      exact List.mem_append_right _ (by simp [wordL])
  · rw [ep]; exact h0
  · rw [ep]; exact Int.lt_of_le_of_lt h1 (Int.lt_trans hh2 (by decide))
  · rw [ep, List.length_map]; exact Nat.lt_of_le_of_lt (Nat.le_trans h4 hlen) (by decide)
  · rw [ep]; show partLen (parts last) < 2 ^ 20; (first | lia | omega)
  · rw [ep]; show (parts last).length < 1000; rw [parts, digs, List.length_map, List.length_map]; exact Nat.lt_of_le_of_lt (Nat.le_trans hll hlen) (by decide)
  · rw [ec]
    have hB : ∀ y ∈ ((lawRows ns wid head).map digs).map rowText, y.length ≤ 800 := fun y hy => by
      obtain ⟨r, hr, rfl⟩ := List.mem_map.mp hy
      rw [rowText_mk, mkS_len]
      have a := rowL_len fun ds hd => (hdig r hr ds hd).1
      have b := hfitr r hr
      (first | lia | omega)
    have := StrLaws.sumLen_le _ hB
    simp only [List.length_map] at this ⊢
    have h3' : (lawRows ns wid head).length * 800 ≤ 100 * 800 := Nat.mul_le_mul_right _ hlr
    (first | lia | omega)
  · rw [el]; simp
  · rw [el]; simpa using hl
end

section
open PySem PySem.W PySem.Spec PySem.Calls PyProof.Rows

theorem ell_one {w : World} {A : Around} {s : Shared} {x y : Str} {t u : Tok} {Q E : Value → Shared → Prop} (S : Site w 400 2000 [] A s) (hx : x.length ≤ 100000) (hy : y.length ≤ 100000) (hc : Builtin.Str.occurrences x (Str.ofString "...") 0 x.length 1 = [])
  (hret : ∀ h' tk', Keeps s.heap h' → Q (.bool (x == y)) { s with heap := h', toks := tk' }) :
    wpAny (model PySem.Challenge.rw_ty0042_01.row.prog w) A (call (.ref 28) [.str x t, .str y u]) Q E s := by
  w_top off
  refine wpAny_call ?_
  refine' enterN _ S ?k6 ?k7 ?k8 ?k9 ?kB ?_ ?c5 ?c2 ?c3 ?c4
  case k6 => k_is
  case k7 => k_is
  case k8 => decide
  case k9 => exact BindsTo.of_eq rfl
  case kB => exact locs rfl
  case c2 => exact rfl
  case c3 => exact rfl
  case c4 => exact rfl
  case c5 => decide
  intro L cn cs a ccd cl' outer base g L' h₁ mg mb mean hke F N B KX T hg hgn hk1 hL
  try dsimp only
  try k_fold
  have hc' : (Builtin.Str.occurrences x (Str.ofString "...") 0 x.length 1).isEmpty = true := by rw [hc]; rfl
  have p1 := passed 1
  k_steps
  · exact hret _ _ (keep_end hg (by assumption))
end

section
open PySem PySem.W PySem.Spec PySem.Calls PyProof.Rows PyProof.V PySem.SeqAt
/-- what is due of a row -/
noncomputable def dueRow (r : List Int) : List Int := r.flatMap fun n => [32, 64 * n + 44]
theorem horner_cast (ds : List Nat) (v : Nat) : horner (v : Int) (ds.map fun d : Nat => (d : Int)) = ((ds.foldl (fun v d => v * 64 + d) v : Nat) : Int) := by
  induction ds generalizing v with
  | nil => rfl
  | cons d ds ih =>
    show horner ((v : Int) * 64 + (d : Int)) _ = _
    have : (v : Int) * 64 + (d : Int) = ((v * 64 + d : Nat) : Int) := by push_cast; rfl
    rw [this, ih]; rfl
theorem horner_snoc (v : Int) (xs : List Int) (d : Int) : horner v (xs ++ [d]) = horner v xs * 64 + d := by simp [horner]
theorem rowNums_due {r : List Int} (h : ∀ x ∈ r, 0 ≤ x) : rowNums (digs r) = dueRow r := by
  unfold rowNums digs dueRow
  rw [List.flatMap_map]
  induction r with
  | nil => rfl
  | cons n r ih =>
    rw [List.flatMap_cons, List.flatMap_cons, ih fun x hx => h x (.tail _ hx)]
    congr 1
    have hn := h n (.head _)
    have e : horner 0 ((dg n.toNat).map (fun d : Nat => (d : Int)) ++ [44]) = 64 * n + 44 := by
      rw [horner_snoc, show (0 : Int) = ((0 : Nat) : Int) from rfl, horner_cast]
      have := undg_dg n.toNat
      unfold undg at this
      rw [this]; (first | lia | omega)
    rw [e]
theorem due_eq {rows : List (List Int)} (h : ∀ r ∈ rows, ∀ x ∈ r, 0 ≤ x) : ((rows.map digs).filter fun r => !r.isEmpty).map rowNums = (rows.filter fun r => !r.isEmpty).map dueRow := by
  induction rows with
  | nil => rfl
  | cons r rows ih =>
    have ih' := ih fun q hq => h q (.tail _ hq)
    cases r with
    | nil => exact ih'
    | cons x r =>
      rw [List.map_cons, List.filter_cons_of_pos (by rfl), List.filter_cons_of_pos (by rfl), List.map_cons, List.map_cons, ih', rowNums_due (h _ (.head _))]
theorem row_enc {r : List Int} (h : ∀ x ∈ r, 0 ≤ x) : rowText (digs r) = mkS (enc r) := by
  rw [rowText_mk]
  congr 1
  unfold rowL digs enc
  rw [List.flatMap_map]
  induction r with
  | nil => rfl
  | cons n r ih => rw [List.flatMap_cons, List.flatMap_cons, ih fun x hx => h x (.tail _ hx), encT_pos (h n (.head _))]
noncomputable def flatOf (ls : List (List Int)) : List Int := ls.flatMap fun l => -1 :: l
theorem join_flat : ∀ (l : List Int) (ls : List (List Int)), joinL [10] ((l :: ls).map enc) = enc (l ++ flatOf ls)
  | l, [] => by simp [joinL, flatOf]
  | l, k :: ls => by
    show enc l ++ ([10] ++ joinL [10] ((k :: ls).map enc)) = _
    rw [join_flat k ls, show flatOf (k :: ls) = -1 :: (k ++ flatOf ls) from rfl, enc_append l, enc_cons, encT_neg (by decide)]
theorem enc_signs {r : List Int} (h : ∀ x ∈ r, 0 ≤ x) {c : Nat} (hc : c ∈ enc r) : c = 32 ∨ c = 44 ∨ 64 ≤ c := by
  have e : enc r = rowL (digs r) := by
    have := congrArg (fun s : Str => s.cps.toList) ((row_enc h).symm.trans (rowText_mk _))
    simpa using this
  rw [e] at hc
  exact rowL_signs hc
theorem text_join {sep : List Nat} {rows : List (List Int)} (h : ∀ r ∈ rows, ∀ x ∈ r, 0 ≤ x) : Txt.join (mkS sep) ((rows.map digs).map rowText) = mkS (joinL sep (rows.map enc)) := by
  rw [← join_mk' sep (rows.map enc)]
  congr 1
  rw [List.map_map, List.map_map]
  exact List.map_congr_left fun r hr => row_enc (h r hr)
theorem text_len {sep : List Nat} {rows : List (List Int)} (hs : sep.length ≤ 3) (h : RowsOk (rows.map digs)) (hr : rows.length ≤ 100) (hn : ∀ r ∈ rows, ∀ x ∈ r, 0 ≤ x) : (joinL sep (rows.map enc)).length ≤ 100000 := by
  have h1 := joinL_len (sep := sep) (B := 800) (ps := rows.map enc) (fun p hp => by
    obtain ⟨r, hr', rfl⟩ := List.mem_map.mp hp
    have e : enc r = rowL (digs r) := by
      have := congrArg (fun s : Str => s.cps.toList) ((row_enc (hn r hr')).symm.trans (rowText_mk _))
      simpa using this
    rw [e]
    have hm : digs r ∈ rows.map digs := List.mem_map_of_mem hr'
    have a := rowL_len fun ds hd => (h.digs _ hm ds hd).1
    have b := h.fit.2 _ hm
    (first | lia | omega))
  rw [List.length_map] at h1
  have h3 : rows.length * (800 + sep.length) ≤ 100 * 803 := Nat.mul_le_mul hr (by (first | lia | omega))
  (first | lia | omega)
/-- the search for a wanted page in a shown one, as the law asks it -/
theorem ell_rows {w : World} {A : Around} {s : Shared} {rows lines : List (List Int)} {t u : Tok} {Q E : Value → Shared → Prop} (S : Site w 400 2000 [] A s) (hb : AllBare s.gens)
    (hr0 : rows ≠ []) (hl0 : lines ≠ []) (hro : RowsOk (rows.map digs)) (hlo : RowsOk (lines.map digs)) (hrl : rows.length ≤ 100) (hll : lines.length ≤ 100) (hrn : ∀ r ∈ rows, ∀ x ∈ r, 0 ≤ x) (hln : ∀ r ∈ lines, ∀ x ∈ r, 0 ≤ x) (hd : ∀ r ∈ rows.drop 1, r ≠ [])
    (hret : ∀ h' gs tk', AllBare gs → Keeps s.heap h' → Q (.bool (lawTakes rows (flatOf lines).tail)) ⟨h', gs, s.drawn, tk', s.os⟩) :
    wpAny (model PySem.Challenge.rw_ty0042_01.row.prog w) A (call (.ref 28) [.str (Txt.join (Str.ofString "...") ((rows.map digs).map rowText)) t, .str (Txt.join (Str.ofString "\n") ((lines.map digs).map rowText)) u]) Q E s := by
  cases lines with
  | nil => exact absurd rfl hl0
  | cons l ls =>
  have hy : Txt.join (Str.ofString "\n") (((l :: ls).map digs).map rowText) = mkS (enc (l ++ flatOf ls)) := by rw [nl1, text_join hln, join_flat]
  have hft : (flatOf (l :: ls)).tail = l ++ flatOf ls := rfl
  have hyl : (mkS (enc (l ++ flatOf ls))).length ≤ 100000 := by
    rw [mkS_len, ← join_flat]; exact text_len (by decide) hlo hll hln
  rw [hft] at hret
  rw [hy, ddd, text_join hrn]
  have hxl : (mkS (joinL [46, 46, 46] (rows.map enc))).length ≤ 100000 := by
    rw [mkS_len]; exact text_len (by decide) hro hrl hrn
  have hdots : ∀ r ∈ rows, 46 ∉ enc r := fun r hr hm => by
    rcases enc_signs (hrn r hr) hm with h | h | h <;> (first | lia | omega)
  cases rows with
  | nil => exact absurd rfl hr0
  | cons r0 rest =>
    cases rest with
    | nil =>
      have e1 : joinL [46, 46, 46] ([r0].map enc) = enc r0 := rfl
      rw [e1] at hxl ⊢
      refine ell_one S hxl hyl ?_ fun h' tk' hk => ?_
      · rw [ddd]; exact occ_nil (hdots r0 (.head _))
      · rw [one_takes r0 _ (hrn r0 (.head _))]
        exact hret h' s.gens tk' hb hk
    | cons r1 rest =>
      obtain ⟨mids, wl, hm⟩ : ∃ mids wl, r1 :: rest = mids ++ [wl] := ⟨(r1 :: rest).dropLast, (r1 :: rest).getLast (List.cons_ne_nil _ _), (List.dropLast_concat_getLast _).symm⟩
      have hsp := split_join (enc r0) (enc r1) (rest.map enc) (fun z hz => by
        have : z ∈ (r0 :: r1 :: rest).map enc := hz
        obtain ⟨r, hr, rfl⟩ := List.mem_map.mp this
        exact hdots r hr)
      have e1 : joinL [46, 46, 46] ((r0 :: r1 :: rest).map enc) = joinL [46, 46, 46] (enc r0 :: enc r1 :: rest.map enc) := rfl
      rw [e1] at hxl ⊢
      have hparts : Txt.split (mkS (joinL [46, 46, 46] (enc r0 :: enc r1 :: rest.map enc))) (Str.ofString "...") = mkS (enc r0) :: (mids.map (fun r => mkS (enc r)) ++ [mkS (enc wl)]) := by
        rw [ddd, hsp.1]
        show mkS (enc r0) :: ((r1 :: rest).map enc).map mkS = _
        rw [hm, List.map_map, List.map_append]
        rfl
      have hocc : Builtin.Str.occurrences (mkS (joinL [46, 46, 46] (enc r0 :: enc r1 :: rest.map enc))) (Str.ofString "...") 0 (mkS (joinL [46, 46, 46] (enc r0 :: enc r1 :: rest.map enc))).length 1 ≠ [] := by rw [ddd]; exact hsp.2
      have hmem : ∀ q ∈ mids ++ [wl], q ≠ [] ∧ ∀ x ∈ q, 0 ≤ x := fun q hq => by
        rw [← hm] at hq
        exact ⟨hd q hq, hrn q (.tail _ hq)⟩
      have hwl := hmem wl (by simp)
      have hml : (mids.map fun r => mkS (enc r)).length ≤ 10000 := by
        have := congrArg List.length hm
        simp only [List.length_cons, List.length_append, List.length_nil] at this hrl
        rw [List.length_map]; (first | lia | omega)
      have hwe : (mkS (enc wl)).length ≠ 0 := by
        rw [mkS_len]
        cases wl with
        | nil => exact absurd rfl hwl.1
        | cons x q =>
          rw [enc_cons, List.length_append]
          have := encT_len x
          (first | lia | omega)
      have htk := ell_takes r0 wl (l ++ flatOf ls) mids (hrn r0 (.head _)) (fun q hq => hmem q (List.mem_append_left _ hq)) hwl
      rw [hm] at hret
      refine ell_any S hb hxl hyl hocc hparts hml hwe fun b h' gs tk' hg hk e => ?_
      rw [e, htk]
      exact hret h' gs tk' hg hk
end

section
open PySem PySem.W PySem.Spec PySem.Calls PyProof.Rows PyProof.V PySem.SeqAt
section
variable {w : World} {s : Shared} {mg mb : Str → Option Value} {mean : ExcName → Option Value}
  {R : Result → Shared → Prop} {name qual : Str} {params : Arguments} {body : List Stmt} {scope : Scope} {cl : List (Str × Addr)} {dV kV doc pm cdv ct oc : Value} {an od : Option Addr} {osl : Array (Option Value)} {f : Addr} {args : Args} {binds : List (Str × Value)}
/-- the law is entered: its two tables of nested code lie in the ledger -/
theorem enterL (X : (hd.heap_1 w.params).In s.heap) (T : Top hd.view_39 (looseW hd.view_39 [Str.ofString "_Accumulator"]) mean mg mb s.heap) (ht : ∀ P ∈ ([161, 168] : List Addr), s.heap.get? P = some (tabObj #[]))
    (ho : (hd.heap_1 w.params).lookup f = some ⟨oc, od, .func (fnX name qual params body scope cl dV kV doc pm an cdv ct), osl⟩) (hcd : codeIn (hd.heap_1 w.params) cdv qual = true)
    (hbind : BindsTo s (fnX name qual params body scope cl dV kV doc pm an cdv ct) args binds) (hloc : ∀ y ∈ binds, scope.names.lookup y.1 = some .local)
    (h : ∀ g L' h₁, Fr g L' h₁ (fun y => binds.reverse.lookup y) → News g L' h₁ [(161, tabObj #[]), (168, tabObj #[])] → Below callerA g [] g → (hd.heap_1 w.params).In g →
      Top hd.view_39 (looseW hd.view_39 [Str.ofString "_Accumulator"]) mean mg mb g → (∀ b o, s.heap.get? b = some o → b ∉ ([161, 168] : List Addr) → g.get? b = some o) →
      wpAny (model PySem.Challenge.rw_ty0042_01.row.prog w) (callerA.deeper (envX qual scope L' f cdv cl)) (execs body (envX qual scope L' f cdv cl))
        (fun fl s' => R (.ok (.ret (match fl with | .ret v => v | _ => .none))) s')
        (fun _ _ => False)
        { s with heap := h₁, toks := s.toks + binds.length })
    (hcell : ∀ x ∈ scope.names, x.2 ≠ .cell) (hco : autoParam (scope.isCoroutine = false) au1._auto_1) (hgen : autoParam (scope.isGenerator = false) au1._auto_1) (hk : autoParam (scope.kind = .function) au1._auto_1) :
    codeAny (model PySem.Challenge.rw_ty0042_01.row.prog w) callerA (.call (.ref f) args) R s := by
  have hof : s.heap.get? f = some ⟨oc, od, .func (fnX name qual params body scope cl dV kV doc pm an cdv ct), osl⟩ := X _ _ ho
  refine codeAny_call_def (fd := fnX name qual params body scope cl dV kV doc pm an cdv ct) (body := body) (binds := binds) (by decide) hof rfl T.nolimit (codeRec_of X hcd) rfl hbind hcell hloc (fun h₁ hns hk₁ => ?_) hco hgen hk
  obtain ⟨g, hg, KX, KT, F, N, B⟩ := law_ground (m := fun y => binds.reverse.lookup y) X T ⟨hns, fun b o e => hk₁ b o e, Nat.le_refl _⟩ ht
  exact wpAny_mono (h g _ h₁ F N B KX KT hg) (fun _ _ z => z) fun _ _ z => z.elim
end
open PySem PySem.W PySem.Spec PySem.Calls PyProof.Rows PyProof.V PySem.SeqAt
theorem slice_from {vs : List Value} {ns : List Int} (hi : IntsAre vs ns) {k : Int} {K : Nat} (h0 : 0 ≤ k) (h3 : k ≤ K) : ∃ ms, IntsAre (slicePick vs.toArray (some ((ns.length : Int) - k)) none none).toList ms ∧ ms.length ≤ K ∧ ∀ x ∈ ms, x ∈ ns := by
  have hn : vs.toArray.size = ns.length := by simp [hi.length]
  have ha : sliceBounds (some ((ns.length : Int) - k)) none none vs.toArray.size = (((clipAt vs.toArray.size ((ns.length : Int) - k) : Nat) : Int), ((vs.toArray.size : Nat) : Int), 1) := sliceBounds_plain (some ((ns.length : Int) - k)) none vs.toArray.size
  have hb : ns.length - clipAt vs.toArray.size ((ns.length : Int) - k) ≤ K := by
    rw [hn]
    by_cases q : k ≤ (ns.length : Int)
    · rw [clipAt_in (Int.sub_nonneg.mpr q) (Int.sub_le_self _ h0)]
      clear ha hn hi; (first | lia | omega)
    · refine Nat.le_trans (Nat.sub_le _ _) ?_
      clear ha hn hi; (first | lia | omega)
  generalize clipAt vs.toArray.size ((ns.length : Int) - k) = a at ha hb
  refine ⟨ns.drop a, ?_, by rw [List.length_drop]; exact hb, fun x hx => List.mem_of_mem_drop hx⟩
  rw [kmk_pick_nat _ ha]
  show IntsAre ((vs.drop a).take (vs.toArray.size - a)) _
  rw [List.take_of_length_le (by rw [List.length_drop]; simp), ]
  exact hi.drop _
inductive J1 (items : List Value) (D : Addr) (n4 : Nat) (i : Nat) (vals : List (Option Value)) (news : List (Addr × Obj)) : Prop
  | mk : ∀ o1 o2 o3 WA SA wv sv wn sn nW nS, (vals = [o1, o2, o3, some (.ref WA), some (.ref SA)]) → (news = (WA, listOf (List.toArray wv) nW) :: (SA, listOf (List.toArray sv) nS) :: (D, listOf items.toArray 0) :: [(161, tabObj #[]), (168, tabObj #[])]) → (IntsAre wv wn) → (IntsAre sv sn) → ((∀ x ∈ wn, 0 ≤ x ∧ x < 64 ^ 6)) → ((∀ x ∈ sn, 0 ≤ x ∧ x < 64 ^ 6)) → (wn.length ≤ 2 * i) → (sn.length ≤ 3 * i) → ((i = 0 ∨ (wn ≠ [] ∧ sn ≠ []))) → (i ≤ n4) → J1 items D n4 i vals news
theorem mod_small (x : Int) : 0 ≤ Int.fmod (Int.fdiv x 5) 68719476736 ∧ Int.fmod (Int.fdiv x 5) 68719476736 < 64 ^ 6 := ⟨Int.fmod_nonneg_of_pos _ (by decide), Int.fmod_lt_of_pos _ (by decide)⟩
open PySem PySem.W PySem.Spec PySem.Calls PyProof.Rows PyProof.V PySem.SeqAt
theorem mod_small' (x : Int) : 0 ≤ (x.fdiv 5).fmod (64 ^ Int.toNat 6) ∧ (x.fdiv 5).fmod (64 ^ Int.toNat 6) < 64 ^ 6 := by
  have e : (64 : Int) ^ (Int.toNat 6) = 68719476736 := by decide
  rw [e]; exact mod_small x
section
variable {prog : Program} {w : World} {A : Around} {E : Value → Shared → Prop} {s : Shared} {h₀ : Heap} {L l : Addr} {m : Str → Option Value} {news : List (Addr × Obj)} {value slice : PySem.Expr} {vs : List Value} {ns : List Int} {Q : Value → Shared → Prop}
theorem slice_fromK {k kk : Int} (K : Nat) {t : Tok} (F : Fr h₀ L s.heap m) (N : News h₀ L s.heap news) (hl : s.heap.IsList l vs.toArray) (hi : IntsAre vs ns) (hk : kk = (ns.length : Int) - k) (h0 : 0 ≤ k) (h3 : k ≤ K) (hz : vs.length ≤ sizeLine)
    (h : ∀ D ws ms h', Fr h₀ L h' m → News h₀ L h' ((D, listOf (List.toArray ws) 0) :: news) → (∀ p ∈ news, p.1 < D) → IntsAre ws ms → ms.length ≤ K → (∀ x ∈ ms, x ∈ ns) → Q (.ref D) { s with heap := h' })
    (hs : subscripted slice false (.ref l) (.ref s.heap.objs.size) = operate [.ref s.heap.objs.size, .ref l] (getItem (.ref l) (.ref s.heap.objs.size))) (ht : ∀ r, letTemporaryGo value (.ref l) r = pure ()) :
    wpAny (model prog w) A (subscriptTail value slice (.ref l) (.ref s.heap.objs.size)) Q E { s with heap := s.heap.push { cls := .type "slice", data := .fields #[.int kk t, .none, .none] } } := by
  subst hk
  obtain ⟨ms, h1, h2, h4⟩ := slice_from hi h0 h3
  refine kmk_slice F N hl (.int _ _) .none (fun D h' F' N' l1 => ?_) hs ht (by simpa using hz)
  refine h D _ ms h' F' ?_ l1 h1 h2 h4
  rw [Array.toArray_toList]
  exact N'
end
theorem in_both {P : Int → Prop} {a b : List Int} (h : ∀ x ∈ a, P x) (g : ∀ x ∈ b, P x) : ∀ x ∈ a ++ b, P x := fun x hx => by
  rcases List.mem_append.mp hx with hx | hx
  · exact h x hx
  · exact g x hx
open PySem
theorem gen_state {P : Shared → Prop} {s : Shared} (h : ∀ tk, P ⟨s.heap, s.gens, s.drawn, tk, s.os⟩) : P s := h s.toks
end

section
open PySem PySem.W PySem.Spec PySem.Calls PyProof.Rows PyProof.V PySem.SeqAt
theorem lrStep_total (wd he : Int) (st : List (List Int) × Int) (x : Int) (h : st.1 ≠ []) : (lrStep wd he st x).1 ≠ [] ∧ ((lrStep wd he st x).1.map List.length).sum = (st.1.map List.length).sum + 1 := by
  unfold lrStep
  dsimp only
  split
  · exact ⟨by simp, by simp⟩
  · refine ⟨by simp, ?_⟩
    have e : st.1 = st.1.dropLast ++ [st.1.getLastD []] := by
      rcases List.eq_nil_or_concat st.1 with q | ⟨a, b, q⟩
      · exact absurd q h
      · rw [q]; simp
    have e2 : (st.1.map List.length).sum = (st.1.dropLast.map List.length).sum + (st.1.getLastD []).length := by
      conv => lhs; rw [e]
      simp
    rw [e2]
    simp [Nat.add_assoc]
theorem lawRows_total (ns : List Int) (wd he : Int) : ((lawRows ns wd he).map List.length).sum = ns.length := by
  unfold lawRows
  have key : ∀ (ns : List Int) (st : List (List Int) × Int), st.1 ≠ [] → (((ns.foldl (lrStep wd he) st).1).map List.length).sum = (st.1.map List.length).sum + ns.length := by
    intro ns
    induction ns with
    | nil => intro st _; simp
    | cons x ns ih =>
      intro st h
      have := lrStep_total wd he st x h
      rw [List.foldl_cons, ih _ this.1, this.2, List.length_cons]; (first | lia | omega)
  rw [key ns _ (by simp)]
  simp
theorem flatOf_len (ls : List (List Int)) : (flatOf ls).length = (ls.map List.length).sum + ls.length := by
  induction ls with
  | nil => rfl
  | cons l ls ih =>
    show ((-1 :: l) ++ flatOf ls).length = _
    rw [List.length_append, ih, List.map_cons, List.sum_cons, List.length_cons, List.length_cons]; (first | lia | omega)
/-- what the law's pages hold of a page's rows -/
structure RowsGood (rows : List (List Int)) : Prop where
  ok : RowsOk (rows.map digs)
  ent : ∀ r ∈ rows, r.length ≤ 99 ∧ ∀ x ∈ r, 0 ≤ x
  ne : rows ≠ []
  drop : ∀ r ∈ rows.drop 1, r ≠ []
  len : rows.length ≤ 100
  flat : (flatOf rows).length ≤ 1000
  texts : (((rows.map digs).map rowText).map (·.length)).sum + ((rows.map digs).map rowText).length ≤ 1048576
theorem rows_good {wid head : Int} (hh : 0 ≤ head) (hh2 : head < 1000) {ns : List Int} (hne : ns ≠ []) (hlen : ns.length ≤ 99) (hnn : ∀ n ∈ ns, 0 ≤ n ∧ n < 64 ^ 6) : RowsGood (lawRows ns wid head) := by
  obtain ⟨f1, f2, f3, f4, f5, f6, f7, f8, f9, f10, f11, f12, f13, f14⟩ := page_facts (wid := wid) hh hh2 hne hlen hnn
  refine ⟨f9, fun r hr => ⟨(f10 r hr).1, fun x hx => ((f10 r hr).2 x hx).1⟩, f11, f12, f13, ?_, by rw [← f1]; exact f8⟩
  rw [flatOf_len, lawRows_total]; (first | lia | omega)
/-- rows that lie in a ledger -/
inductive RowsFr (fz : List (Addr × Obj)) : List Value → List (List Int) → Prop
  | nil : RowsFr fz [] []
  | cons {a : Addr} {o : Obj} {us : List Value} {n : Nat} {r : List Int} {vs : List Value} {rs : List (List Int)} : (a, o) ∈ fz → o.cls = .type "list" → o.data = .seq us.toArray n → IntsAre us r → RowsFr fz vs rs → RowsFr fz (.ref a :: vs) (r :: rs)
theorem RowsFr.at {fz : List (Addr × Obj)} {h : Heap} (hf : ∀ q ∈ fz, h.get? q.1 = some q.2) : ∀ {vs : List Value} {rs : List (List Int)}, RowsFr fz vs rs → RowsAt h vs rs := fun x => by
  induction x with
  | nil => exact .nil
  | cons m c d i _ ih => exact .cons ⟨_, hf _ m, c, _, d⟩ i ih
theorem RowsFr.mono {fz fz' : List (Addr × Obj)} (hs : ∀ q ∈ fz, q ∈ fz') : ∀ {vs : List Value} {rs : List (List Int)}, RowsFr fz vs rs → RowsFr fz' vs rs := fun x => by
  induction x with
  | nil => exact .nil
  | cons m c d i _ ih => exact .cons (hs _ m) c d i ih
theorem rows_fr {h : Heap} : ∀ {us : List Value} {rows : List (List Int)}, RowsAt h us rows → ∃ ro : List (Addr × Obj), (∀ q ∈ ro, h.get? q.1 = some q.2 ∧ Value.ref q.1 ∈ us) ∧ RowsFr ro us rows := fun x => by
  induction x with
  | nil => exact ⟨[], (fun _ h => nomatch h), .nil⟩
  | @cons a us r vs rs l i rr ih =>
    obtain ⟨ro, h1, h2⟩ := ih
    obtain ⟨o, ho, hc, n, hd⟩ := l
    refine ⟨(a, o) :: ro, fun q hq => ?_, .cons (.head _) hc hd i (h2.mono fun q hq => .tail _ hq)⟩
    rcases List.mem_cons.mp hq with rfl | hq
    · exact ⟨ho, .head _⟩
    · exact ⟨(h1 q hq).1, .tail _ (h1 q hq).2⟩
/-- a page of the law, read once, and its rows -/
structure Pg where
  (T p dp l c dc R : Addr)
  pt : PT
  (mx ws wl sc : Value)
  ls : List Value
  (nl ep : Nat)
  hs : Int
  (tkd ti : Tok)
  us : List Value
  rows : List (List Int)
noncomputable def Pg.mut (P : Pg) : List (Addr × Obj) := [(P.l, listOf P.ls.toArray P.nl), (P.c, accObj P.dc #[] P.ep), (P.dc, accDict P.hs P.tkd (.int 0 P.ti))]
noncomputable def Pg.adr (P : Pg) : List Addr := [P.l, P.c, P.dc]
theorem Pg.mut_adr {P : Pg} {q : Addr × Obj} (h : q ∈ P.mut) : q.1 ∈ P.adr := by
  simp only [Pg.mut, Pg.adr, List.mem_cons, List.not_mem_nil, or_false] at h ⊢
  rcases h with rfl | rfl | rfl <;> simp
structure PgIn (fz : List (Addr × Obj)) (P : Pg) : Prop where
  hp : (P.p, instObj 115 P.dp) ∈ fz
  hdp : (P.dp, pageDict P.pt P.mx P.ws P.wl P.sc (.ref P.l) (.ref P.c)) ∈ fz
  hT : ∃ o, (P.T, o) ∈ fz ∧ o.cls = .type "tuple" ∧ ∃ n, o.data = .seq #[.ref P.p, .ref P.R] n
  hR : ∃ o, (P.R, o) ∈ fz ∧ o.cls = .type "list" ∧ ∃ n, o.data = .seq P.us.toArray n
  hrows : RowsFr fz P.us P.rows
  hls : StrsAre P.ls ((P.rows.map digs).map rowText)
  good : RowsGood P.rows
theorem PgIn.mono {fz fz' : List (Addr × Obj)} {P : Pg} (x : PgIn fz P) (hs : ∀ q ∈ fz, q ∈ fz') : PgIn fz' P :=
  ⟨hs _ x.hp, hs _ x.hdp, let ⟨o, h, r⟩ := x.hT; ⟨o, hs _ h, r⟩, let ⟨o, h, r⟩ := x.hR; ⟨o, hs _ h, r⟩, x.hrows.mono hs, x.hls, x.good⟩
structure Pgs (fz : List (Addr × Obj)) (pgs : List Pg) : Prop where
  each : ∀ P ∈ pgs, PgIn fz P
  apart : ∀ (i j : Nat) (P X : Pg), pgs[i]? = some P → pgs[j]? = some X → i ≠ j → ∀ a ∈ P.adr, a ∉ X.adr
  tabs : ∀ P ∈ pgs, ∀ a ∈ P.adr, a ∉ ([161, 168] : List Addr)
  fro : ∀ q ∈ fz, ∀ P ∈ pgs, q.1 ∉ P.adr
  froT : ∀ q ∈ fz, q.1 ∉ ([161, 168] : List Addr)
theorem Pgs.add {fz nf : List (Addr × Obj)} {pgs : List Pg} {P : Pg} (x : Pgs fz pgs) (hP : PgIn (nf ++ fz) P) (h1 : ∀ a ∈ P.adr, ∀ X ∈ pgs, a ∉ X.adr) (h2 : ∀ a ∈ P.adr, a ∉ ([161, 168] : List Addr)) (h3 : ∀ q ∈ nf ++ fz, q.1 ∉ P.adr)
    (h4 : ∀ q ∈ nf, ∀ X ∈ pgs, q.1 ∉ X.adr) (h5 : ∀ q ∈ nf, q.1 ∉ ([161, 168] : List Addr)) : Pgs (nf ++ fz) (pgs ++ [P]) := by
  refine ⟨fun X hX => ?_, fun i j A B hA hB hij a ha hb => ?_, fun X hX => ?_, fun q hq X hX => ?_, fun q hq => ?_⟩
  · rcases List.mem_append.mp hX with hX | hX
    · exact (x.each X hX).mono fun q hq => List.mem_append_right _ hq
    · rw [List.mem_singleton.mp hX]; exact hP
  · have key : ∀ (k : Nat) (Z : Pg), (pgs ++ [P])[k]? = some Z → (k < pgs.length ∧ pgs[k]? = some Z) ∨ (k = pgs.length ∧ Z = P) := by
      intro k Z hk
      by_cases q : k < pgs.length
      · rw [List.getElem?_append_left q] at hk; exact .inl ⟨q, hk⟩
      · rw [List.getElem?_append_right (by (first | lia | omega))] at hk
        cases e : k - pgs.length with
        | zero => rw [e] at hk; exact .inr ⟨by (first | lia | omega), by simpa using hk.symm⟩
        | succ n => rw [e] at hk; simp at hk
    rcases key i A hA with ⟨l1, m1⟩ | ⟨l1, rfl⟩ <;> rcases key j B hB with ⟨l2, m2⟩ | ⟨l2, rfl⟩
    · exact x.apart i j A B m1 m2 hij a ha hb
    · exact h1 a hb A (List.mem_of_getElem? m1) ha
    · exact h1 a ha B (List.mem_of_getElem? m2) hb
    · exact hij (l1.trans l2.symm)
  · rcases List.mem_append.mp hX with hX | hX
    · exact x.tabs X hX
    · rw [List.mem_singleton.mp hX]; exact h2
  · rcases List.mem_append.mp hX with hX | hX
    · rcases List.mem_append.mp hq with hq | hq
      · exact h4 q hq X hX
      · exact x.fro q hq X hX
    · rw [List.mem_singleton.mp hX]; exact h3 q hq
  · rcases List.mem_append.mp hq with hq | hq
    · exact h5 q hq
    · exact x.froT q hq
/-- a page's own objects, told anew -/
noncomputable def Pg.upd (P : Pg) (ls : List Value) (nl ep : Nat) (ti : Tok) : Pg := { P with ls := ls, nl := nl, ep := ep, ti := ti }
theorem Pgs.set {fz : List (Addr × Obj)} {pgs : List Pg} {P : Pg} {i : Nat} {ls : List Value} {nl ep : Nat} {ti : Tok} (x : Pgs fz pgs) (hi : pgs[i]? = some P) (hls : StrsAre ls ((P.rows.map digs).map rowText)) : Pgs fz (pgs.set i (P.upd ls nl ep ti)) := by
  have key : ∀ (k : Nat) (Z : Pg), (pgs.set i (P.upd ls nl ep ti))[k]? = some Z → ∃ Y, pgs[k]? = some Y ∧ Z.adr = Y.adr ∧ (PgIn fz Y → PgIn fz Z) := by
    intro k Z hk
    rw [List.getElem?_set] at hk
    split at hk
    · rename_i e; subst e
      split at hk
      · cases hk
        exact ⟨P, hi, rfl, fun y => ⟨y.hp, y.hdp, y.hT, y.hR, y.hrows, hls, y.good⟩⟩
      · cases hk
    · exact ⟨Z, hk, rfl, id⟩
  have keym : ∀ Z ∈ pgs.set i (P.upd ls nl ep ti), ∃ Y ∈ pgs, Z.adr = Y.adr ∧ (PgIn fz Y → PgIn fz Z) := by
    intro Z hZ
    obtain ⟨k, hk⟩ := List.mem_iff_getElem?.mp hZ
    obtain ⟨Y, hY, a, b⟩ := key k Z hk
    exact ⟨Y, List.mem_of_getElem? hY, a, b⟩
  refine ⟨fun X hX => ?_, fun a b A B hA hB hij => ?_, fun X hX => ?_, fun q hq X hX => ?_, x.froT⟩
  · obtain ⟨Y, hY, _, c⟩ := keym X hX
    exact c (x.each Y hY)
  · obtain ⟨Y, hY, c, _⟩ := key a A hA
    obtain ⟨Z, hZ, d, _⟩ := key b B hB
    rw [c, d]
    exact x.apart a b Y Z hY hZ hij
  · obtain ⟨Y, hY, c, _⟩ := keym X hX
    rw [c]; exact x.tabs Y hY
  · obtain ⟨Y, hY, c, _⟩ := keym X hX
    rw [c]; exact x.fro q hq Y hY
/-- the ledger where one page's own objects changed -/
theorem news_page {g h h' : Heap} {L : Addr} {o1 o2 o1' o2' : Obj} {hd fz : List (Addr × Obj)} {pgs : List Pg} {P : Pg} {i : Nat} {ls : List Value} {nl ep : Nat} {ti : Tok} (N : News g L h ((161, o1) :: (168, o2) :: (hd ++ (pgs.flatMap Pg.mut ++ fz)))) (x : Pgs fz pgs) (hi : pgs[i]? = some P)
    (hhd : ∀ q ∈ hd, q.1 ∉ [P.l, P.c, P.dc, 161, 168]) (k : KeepsBut [P.l, P.c, P.dc, 161, 168] h h') (e1 : h'.get? 161 = some o1') (e2 : h'.get? 168 = some o2') (e3 : h'.get? P.l = some (listOf ls.toArray nl)) (e4 : h'.get? P.c = some (accObj P.dc #[] ep)) (e5 : h'.get? P.dc = some (accDict P.hs P.tkd (.int 0 ti))) :
    News g L h' ((161, o1') :: (168, o2') :: (hd ++ ((pgs.set i (P.upd ls nl ep ti)).flatMap Pg.mut ++ fz))) := by
  have hPm : ∀ q ∈ P.mut, q ∈ ((161, o1) :: (168, o2) :: (hd ++ (pgs.flatMap Pg.mut ++ fz))) := fun q hq => .tail _ (.tail _ (List.mem_append_right _ (List.mem_append_left _ (List.mem_flatMap.mpr ⟨P, List.mem_of_getElem? hi, hq⟩))))
  have no : ∀ a : Addr, a ∉ P.adr → a ∉ ([161, 168] : List Addr) → a ∉ [P.l, P.c, P.dc, 161, 168] := by
    intro a h1 h2 h3
    simp only [Pg.adr, List.mem_cons, List.not_mem_nil, or_false, not_or] at h1 h2 h3
    rcases h3 with h | h | h | h | h
    · exact h1.1 h
    · exact h1.2.1 h
    · exact h1.2.2 h
    · exact h2.1 h
    · exact h2.2 h
  have old : ∀ q ∈ ((161, o1) :: (168, o2) :: (hd ++ (pgs.flatMap Pg.mut ++ fz))), q.1 ∉ [P.l, P.c, P.dc, 161, 168] → h'.get? q.1 = some q.2 ∧ q.1 ≠ L ∧ g.get? q.1 = none := fun q hq hn => ⟨k _ _ hn (N q hq).1, (N q hq).2⟩
  intro q hq
  rcases List.mem_cons.mp hq with rfl | hq
  · exact ⟨e1, (N _ (.head _)).2⟩
  rcases List.mem_cons.mp hq with rfl | hq
  · exact ⟨e2, (N _ (.tail _ (.head _))).2⟩
  rcases List.mem_append.mp hq with hq | hq
  · exact old q (.tail _ (.tail _ (List.mem_append_left _ hq))) (hhd q hq)
  rcases List.mem_append.mp hq with hq | hq
  · obtain ⟨Z, hZ, hqZ⟩ := List.mem_flatMap.mp hq
    obtain ⟨j, hj⟩ := List.mem_iff_getElem?.mp hZ
    rw [List.getElem?_set] at hj
    split at hj
    · rename_i e; subst e
      split at hj
      · cases hj
        simp only [Pg.mut, Pg.upd, List.mem_cons, List.not_mem_nil, or_false] at hqZ
        rcases hqZ with rfl | rfl | rfl
        · exact ⟨e3, (N (P.l, _) (hPm _ (.head _))).2⟩
        · exact ⟨e4, (N (P.c, _) (hPm _ (.tail _ (.head _)))).2⟩
        · exact ⟨e5, (N (P.dc, _) (hPm _ (.tail _ (.tail _ (.head _))))).2⟩
      · cases hj
    · rename_i hij
      have hZm := List.mem_of_getElem? hj
      refine old q (.tail _ (.tail _ (List.mem_append_right _ (List.mem_append_left _ (List.mem_flatMap.mpr ⟨Z, hZm, hqZ⟩))))) (no _ ?_ ?_)
      · exact fun hm => x.apart i j P Z hi hj hij _ hm (Pg.mut_adr hqZ)
      · exact x.tabs Z hZm _ (Pg.mut_adr hqZ)
  · exact old q (.tail _ (.tail _ (List.mem_append_right _ (List.mem_append_right _ hq)))) (no _ (x.fro q hq P (List.mem_of_getElem? hi)) (x.froT q hq))
end

section
open PySem PySem.W PySem.Spec PySem.Calls PyProof.Rows PyProof.V PySem.SeqAt
theorem new_in {g h : Heap} {L a : Addr} {m : Str → Option Value} (F : Fr g L h m) (e : h.get? a = none) : a ≠ L ∧ g.get? a = none := by
  refine ⟨fun q => ?_, ?_⟩
  · obtain ⟨o, _, _, ho, _⟩ := F.ns
    rw [← q, e] at ho; cases ho
  · cases q : g.get? a with
    | none => rfl
    | some o => rw [F.keep a o q] at e; cases e
structure Ask where
  (T A : Addr)
  (wid head : Int)
  (t u : Tok)
noncomputable def Ask.dflt : Ask := ⟨0, 0, 0, 0, 0, 0⟩
structure AskIn (fz : List (Addr × Obj)) (a : Ask) : Prop where
  hT : ∃ o, (a.T, o) ∈ fz ∧ o.cls = .type "tuple" ∧ ∃ n, o.data = .seq #[.ref a.A, .int a.wid a.t, .int a.head a.u] n
  hA : ∃ o vs ns, (a.A, o) ∈ fz ∧ o.cls = .type "list" ∧ (∃ n, o.data = .seq (List.toArray vs) n) ∧ IntsAre vs ns ∧ ns ≠ [] ∧ ns.length ≤ 99 ∧ (∀ n ∈ ns, 0 ≤ n ∧ n < 64 ^ 6)
  hh : 0 ≤ a.head ∧ a.head < 1000
noncomputable def TabIs (tp : Array Value) (line col : Nat) : Prop := tp = #[] ∨ ∃ c' : Addr, tp = #[rawInt line, rawInt col, .ref c']
inductive J2 (PL : Addr) (fz0 : List (Addr × Obj)) (i : Nat) (vals : List (Option Value)) (news : List (Addr × Obj)) : Prop
  | mk : ∀ o1 o2 o3 o4 o5 o6 nP tp1 tp2 pgs fz, (vals = [o1, o2, o3, o4, o5, o6]) → (news = (PL, listOf (List.toArray (pgs.map fun P : Pg => Value.ref P.T)) nP) :: (161, tabObj tp1) :: (168, tabObj tp2) :: (pgs.flatMap Pg.mut ++ fz)) → (TabIs tp1 144 19) → (TabIs tp2 147 32) → (pgs.length = i) → (Pgs fz pgs) → ((∀ q ∈ fz0, q ∈ fz)) → ((∀ P ∈ pgs, PL ∉ P.adr)) → ((∀ q ∈ fz, q.1 ≠ PL)) → J2 PL fz0 i vals news
noncomputable def upd2 (asks : List Ask) (i : Nat) (_ : Value) (m : Str → Option Value) : Str → Option Value := fun z =>
  if z = Str.ofString "front" then some (.int (asks.getD i Ask.dflt).head (asks.getD i Ask.dflt).u) else if z = Str.ofString "most" then some (.int (asks.getD i Ask.dflt).wid (asks.getD i Ask.dflt).t) else if z = Str.ofString "row" then some (.ref (asks.getD i Ask.dflt).A) else m z
theorem ask_at {asks : List Ask} {i : Nat} {v : Value} (h : (asks.map fun a => Value.ref a.T).toArray[i]? = some v) : ∃ a, asks[i]? = some a ∧ asks.getD i Ask.dflt = a ∧ v = .ref a.T := by
  rw [List.getElem?_toArray, List.getElem?_map] at h
  cases e : asks[i]? with
  | none => rw [e] at h; cases h
  | some a =>
    rw [e] at h
    refine ⟨a, rfl, ?_, by simpa using h.symm⟩
    rw [List.getD_eq_getElem?_getD, e]; rfl
theorem kind_ne {g h : Heap} {L a b : Addr} {oa ob : Obj} {news : List (Addr × Obj)} (N : News g L h news) (ha : (a, oa) ∈ news) (hb : (b, ob) ∈ news) (hc : oa.cls ≠ ob.cls) : a ≠ b := fun q => by
  subst q
  have := (N _ ha).1.symm.trans (N _ hb).1
  cases this
  exact hc rfl
noncomputable abbrev tup3 (a : Addr) (w : Int) (t : Tok) (e : Int) (u : Tok) : Obj := { cls := .type "tuple", data := .seq #[.ref a, .int w t, .int e u] }
theorem asks_of {g h : Heap} {L T0 T1 T2 T3 RL PL DS WA SA DI : Addr} {os oi : Obj} {nW nS : Nat} {wv sv : List Value} {wn sn : List Int} {w0 w1 w2 w3 e0 e1 e2 e3 : Int} {t0 t1 t2 t3 u0 u1 u2 u3 : Tok}
    (N : News g L h [(RL, listOf #[.ref T0, .ref T1, .ref T2, .ref T3] 0), (T3, tup3 SA w3 t3 e3 u3), (T2, tup3 SA w2 t2 e2 u2), (T1, tup3 WA w1 t1 e1 u1), (T0, tup3 WA w0 t0 e0 u0), (PL, listOf #[] 0), (DS, os), (WA, listOf wv.toArray nW), (SA, listOf sv.toArray nS), (DI, oi), (161, tabObj #[]), (168, tabObj #[])])
    (hwi : IntsAre wv wn) (hsi : IntsAre sv sn) (hw : wn ≠ [] ∧ sn ≠ []) (hwl : wn.length ≤ 99) (hsl : sn.length ≤ 99) (hwn : ∀ x ∈ wn, 0 ≤ x ∧ x < 64 ^ 6) (hsn : ∀ x ∈ sn, 0 ≤ x ∧ x < 64 ^ 6)
    (b0 : 0 ≤ e0 ∧ e0 < 1000) (b1 : 0 ≤ e1 ∧ e1 < 1000) (b2 : 0 ≤ e2 ∧ e2 < 1000) (b3 : 0 ≤ e3 ∧ e3 < 1000)
    (hd : ∀ q ∈ [RL, T3, T2, T1, T0, WA, SA], q ≠ PL) :
    ∃ (asks : List Ask) (fz0 : List (Addr × Obj)), (RL, listOf (List.toArray (asks.map fun a => Value.ref a.T)) 0) ∈ fz0 ∧ asks.length = 4 ∧ (∀ a ∈ asks, AskIn fz0 a) ∧ (∀ q ∈ fz0, q.1 ∉ ([161, 168] : List Addr) ∧ q.1 ≠ PL) ∧ PL ∉ ([161, 168] : List Addr) ∧ News g L h ((PL, listOf (List.toArray []) 0) :: (161, tabObj #[]) :: (168, tabObj #[]) :: fz0) := by
  have hWA : ∃ o vs ns, (WA, o) ∈ [(RL, listOf #[.ref T0, .ref T1, .ref T2, .ref T3] 0), (T3, tup3 SA w3 t3 e3 u3), (T2, tup3 SA w2 t2 e2 u2), (T1, tup3 WA w1 t1 e1 u1), (T0, tup3 WA w0 t0 e0 u0), (WA, listOf wv.toArray nW), (SA, listOf sv.toArray nS)] ∧ o.cls = .type "list" ∧ (∃ n, o.data = .seq (List.toArray vs) n) ∧ IntsAre vs ns ∧ ns ≠ [] ∧ ns.length ≤ 99 ∧ (∀ n ∈ ns, 0 ≤ n ∧ n < 64 ^ 6) := ⟨_, wv, wn, by simp only [List.mem_cons]; exact .inr (.inr (.inr (.inr (.inr (.inl rfl))))), rfl, ⟨_, rfl⟩, hwi, hw.1, hwl, hwn⟩
  have hSA : ∃ o vs ns, (SA, o) ∈ [(RL, listOf #[.ref T0, .ref T1, .ref T2, .ref T3] 0), (T3, tup3 SA w3 t3 e3 u3), (T2, tup3 SA w2 t2 e2 u2), (T1, tup3 WA w1 t1 e1 u1), (T0, tup3 WA w0 t0 e0 u0), (WA, listOf wv.toArray nW), (SA, listOf sv.toArray nS)] ∧ o.cls = .type "list" ∧ (∃ n, o.data = .seq (List.toArray vs) n) ∧ IntsAre vs ns ∧ ns ≠ [] ∧ ns.length ≤ 99 ∧ (∀ n ∈ ns, 0 ≤ n ∧ n < 64 ^ 6) := ⟨_, sv, sn, by simp only [List.mem_cons]; exact .inr (.inr (.inr (.inr (.inr (.inr (.inl rfl)))))), rfl, ⟨_, rfl⟩, hsi, hw.2, hsl, hsn⟩
  refine ⟨[⟨T0, WA, w0, e0, t0, u0⟩, ⟨T1, WA, w1, e1, t1, u1⟩, ⟨T2, SA, w2, e2, t2, u2⟩, ⟨T3, SA, w3, e3, t3, u3⟩], [(RL, listOf #[.ref T0, .ref T1, .ref T2, .ref T3] 0), (T3, tup3 SA w3 t3 e3 u3), (T2, tup3 SA w2 t2 e2 u2), (T1, tup3 WA w1 t1 e1 u1), (T0, tup3 WA w0 t0 e0 u0), (WA, listOf wv.toArray nW), (SA, listOf sv.toArray nS)], .head _, rfl, ?_, ?_, ?_, news_sub N ?_⟩
  · refine all_cons ?_ (all_cons ?_ (all_cons ?_ (all_cons ?_ all_nil)))
    · exact ⟨⟨_, .tail _ (.tail _ (.tail _ (.tail _ (.head _)))), rfl, _, rfl⟩, hWA, b0⟩
    · exact ⟨⟨_, .tail _ (.tail _ (.tail _ (.head _))), rfl, _, rfl⟩, hWA, b1⟩
    · exact ⟨⟨_, .tail _ (.tail _ (.head _)), rfl, _, rfl⟩, hSA, b2⟩
    · exact ⟨⟨_, .tail _ (.head _), rfl, _, rfl⟩, hSA, b3⟩
  · intro q hq
    have hin : q.1 ∈ [RL, T3, T2, T1, T0, WA, SA] := List.mem_map_of_mem (f := Prod.fst) hq
    refine ⟨?_, hd _ hin⟩
    have hcls : q.2.cls ≠ (tabObj #[]).cls := all_at (P := fun q : Addr × Obj => q.2.cls ≠ (tabObj #[]).cls) hq (by
      (repeat' (first | exact all_nil | refine all_cons ?_ ?_))
      all_goals (intro e; cases e))
    have hqN := mem_of_sub hq (show ∀ q ∈ _, q ∈ [(RL, listOf #[.ref T0, .ref T1, .ref T2, .ref T3] 0), (T3, tup3 SA w3 t3 e3 u3), (T2, tup3 SA w2 t2 e2 u2), (T1, tup3 WA w1 t1 e1 u1), (T0, tup3 WA w0 t0 e0 u0), (PL, listOf #[] 0), (DS, os), (WA, listOf wv.toArray nW), (SA, listOf sv.toArray nS), (DI, oi), (161, tabObj #[]), (168, tabObj #[])] by
      ((repeat' (first | exact mem_sub_nil | refine mem_sub_cons ?_ ?_ | refine mem_sub_app ?_ ?_)); all_goals (repeat (first | exact List.Mem.head _ | refine List.Mem.tail _ ?_ | exact mem_sub_refl | exact mem_sub_left | refine mem_sub_tail ?_ | refine mem_sub_right ?_))))
    intro hm
    rcases List.mem_cons.mp hm with hm | hm
    · exact kind_ne (ob := tabObj #[]) (b := 161) N (show (q.1, q.2) ∈ _ from hqN) (by repeat (first | exact List.Mem.head _ | refine List.Mem.tail _ ?_)) hcls hm
    · exact kind_ne (ob := tabObj #[]) (b := 168) N (show (q.1, q.2) ∈ _ from hqN) (by repeat (first | exact List.Mem.head _ | refine List.Mem.tail _ ?_)) hcls (List.mem_singleton.mp hm)
  · intro hm
    rcases List.mem_cons.mp hm with hm | hm
    · exact kind_ne (oa := listOf #[] 0) (ob := tabObj #[]) (a := PL) (b := 161) N (by repeat (first | exact List.Mem.head _ | refine List.Mem.tail _ ?_)) (by repeat (first | exact List.Mem.head _ | refine List.Mem.tail _ ?_)) (by intro e; cases e) hm
    · exact kind_ne (oa := listOf #[] 0) (ob := tabObj #[]) (a := PL) (b := 168) N (by repeat (first | exact List.Mem.head _ | refine List.Mem.tail _ ?_)) (by repeat (first | exact List.Mem.head _ | refine List.Mem.tail _ ?_)) (by intro e; cases e) (List.mem_singleton.mp hm)
  · ((repeat' (first | exact mem_sub_nil | refine mem_sub_cons ?_ ?_ | refine mem_sub_app ?_ ?_)); all_goals (repeat (first | exact List.Mem.head _ | refine List.Mem.tail _ ?_ | exact mem_sub_refl | exact mem_sub_left | refine mem_sub_tail ?_ | refine mem_sub_right ?_)))
end

section
open PySem PySem.W PySem.Spec PySem.Calls PyProof.Rows PyProof.V PySem.SeqAt
section
variable {prog : Program} {w : World} {A : Around} {s₃ : Shared} {env : Env}
theorem row_test {x : Str} {p1 p2 p3 : Pos} {m₃ : Str → Option Value} {a : Addr} {ua : List Value} {r : List Int} {C : Addr} {whole : Sem Value} {E' : Value → Shared → Prop} (hkk : env.scope.kind = .function) (hx : env.kindOf x = some .local) (hxd : (x == ("__debug__" : Str)) = false) (hC : env.locals = C)
    (hl : s₃.heap.IsList a ua.toArray) (hi : IntsAre ua r) (hns : s₃.heap.Ns C m₃) (hm : m₃ x = some (.ref a)) (hu : A.units + 64 < cLine) :
    wpAny (model prog w) A (isTrue (.Compare (.Name x p1) [.NotEq] [.List [] p2] p3) env whole) (fun b s₄ => b = !r.isEmpty ∧ PySem.Keeps s₃ s₄) E' s₃ := by
  subst hC
  refine wpAny_isTrue_Compare1 (wpAny_Name (wpAny_loadName_local hkk hx hns hm ?_) hxd)
  refine wpAny_List (wpAny_items_nil ⟨Nat.zero_le _, ?_⟩)
  refine ne_ints (us := ua) (vs := []) (r := r) (q := []) (hl.at fun o e => Heap.get?_push_of_some _ e) hi ⟨_, Heap.get?_push_size _ rfl, rfl, _, rfl⟩ .nil hu (wpAny_truthy_bool ⟨?_, ⟨_, _, rfl, fun b o e => Heap.get?_push_of_some _ e⟩⟩)
  cases r with
  | nil => rfl
  | cons y r => simp
theorem row_elt {xp xl xn : Str} {p1 p2 p3 p4 p5 p6 p7 p8 q1 q2 q3 : Pos} {k6 : Nat} {scope : Scope} {pos : Pos} {m₃ : Str → Option Value} {a : Addr} {ua : List Value} {r : List Int} {C : Addr} {E' : Value → Shared → Prop} (hh : A.handled = none)
    (hclos : closureFor scope env = pure []) (hcell : ∀ y ∈ scope.names, y.2 ≠ .cell) (hkind : scope.kind = .function) (hnames : ∀ y ∈ scope.names, y.2 = .local → scope.names.lookup y.1 = some .local) (hx : scope.names.lookup xn = some .local) (hy : scope.names.lookup xp = some .local) (hyd : (xp == ("__debug__" : Str)) = false) (hnd : (xn == ("__debug__" : Str)) = false)
    (hkk : env.scope.kind = .function) (hxl : env.kindOf xl = some .local) (hld : (xl == ("__debug__" : Str)) = false) (hC : env.locals = C)
    (hxc : ∀ C, (compEnvC scope [] C env).kindOf xn = some .local) (hkc : ∀ C, (compEnvC scope [] C env).scope.kind = .function)
    (hl : s₃.heap.IsList a ua.toArray) (hi : IntsAre ua r) (hr : r.length ≤ 1000) (hb : ∀ n ∈ r, 0 ≤ n ∧ n < 64 ^ 6) (hns : s₃.heap.Ns C m₃) (hm : m₃ xl = some (.ref a)) (hs : ∀ x, foldedSetIterable (.Name xl p3) env x = pure x) (hs2 : ∀ C x, foldedSetIterable (.Tuple [.Constant (.int 32) k6 p5, .BinOp (.BinOp (.Constant (.int 64) k6 p6) .Mult (.Name xn p7) q1) .Add (.Constant (.int 44) k6 p8) q2] k6 q3) (compEnvC scope [] C env) x = pure x) :
    wpAny (model prog w) A (eval (.ListComp (.Name xp p1) [⟨.Name xn p2, .Name xl p3, [], 0⟩, ⟨.Name xp p4, .Tuple [.Constant (.int 32) k6 p5, .BinOp (.BinOp (.Constant (.int 64) k6 p6) .Mult (.Name xn p7) q1) .Add (.Constant (.int 44) k6 p8) q2] k6 q3, [], 0⟩] scope pos) env) (fun v s₄ => (∃ T its, v = .ref T ∧ s₃.heap.get? T = none ∧ s₄.heap.IsList T its ∧ IntsAre its.toList (dueRow r)) ∧ PySem.Keeps s₃ s₄) E' s₃ := by
  subst hC
  refine pairs_comp (r := r) (fun n => (32, 64 * n + 44)) hh hclos hcell hkind hnames hx hy hyd (fun Q' hq => wpAny_Name (wpAny_loadName_local hkk hxl hns hm hq) hld) hl hi hr (fun C s₄ m₄ n t hn hns₄ hm₄ Q' hq => ?_) (fun D h' tk vs hD hlD hvs hk => ⟨⟨D, _, rfl, hD, hlD, hvs⟩, ⟨_, _, rfl, hk⟩⟩) hs hs2
  refine wpAny_Tuple (wpAny_items_cons (wpAny_Constant_int ?_))
  refine wpAny_items_cons (wpAny_BinOp (wpAny_BinOp (wpAny_Constant_int ?_)))
  refine wpAny_Name (wpAny_loadName_local (hkc C) (hxc C) hns₄ hm₄ ?_) hnd
  refine PyProof.Rows.mul_int ?_ (IntMulOk.of_left (by decide))
  refine wpAny_Constant_int (PyProof.Rows.add_int ?_)
  refine wpAny_items_nil ⟨by show 2 ≤ sizeLine; rw [sizeLine_eq]; decide, ?_⟩
  refine hq _ _ _ _ _ (fun b o e => Heap.get?_push_of_some _ e) ?_ ⟨_, Heap.get?_push_size _ rfl, rfl, _, rfl⟩
  exact Heap.get?_none_of_le (Nat.le_refl _)
end
theorem keep10 {g h h' : Heap} {L l c dc : Addr} {news : List (Addr × Obj)} (N : News g L h news) (k : KeepsBut [L, l, c, dc, 161, 168] h h') (x : Addr) (o : Obj) (hm : (x, o) ∈ news) (a1 : x ≠ l) (a2 : x ≠ c) (a3 : x ≠ dc) (a4 : x ≠ 161) (a5 : x ≠ 168) : h'.get? x = some o ∧ x ≠ L ∧ g.get? x = none :=
  ⟨k _ _ (by simp only [List.mem_cons, List.not_mem_nil, or_false, not_or]; exact ⟨(N _ hm).2.1, a1, a2, a3, a4, a5⟩) (N _ hm).1, (N _ hm).2⟩
theorem obj_tag {g h : Heap} {L a b : Addr} {oa ob : Obj} {news : List (Addr × Obj)} (N : News g L h news) (ha : (a, oa) ∈ news) (hb : (b, ob) ∈ news) (ht : Nat.beq (otag oa) (otag ob) = false) : a ≠ b := ne_tag (N _ ha).1 (N _ hb).1 ht
theorem obj_ne {g h : Heap} {L a b : Addr} {oa ob : Obj} {news : List (Addr × Obj)} (N : News g L h news) (ha : (a, oa) ∈ news) (hb : (b, ob) ∈ news) (hc : oa ≠ ob) : a ≠ b := fun q => by
  subst q
  have := (N _ ha).1.symm.trans (N _ hb).1
  cases this
  exact hc rfl
theorem tab_not {x : Addr} (h : x ∉ ([161, 168] : List Addr)) : x ≠ 161 ∧ x ≠ 168 := by
  simpa using h
theorem rowsAt_but {h h' : Heap} {W : List Addr} (k : KeepsBut W h h') : ∀ {us : List Value} {rows : List (List Int)}, RowsAt h us rows → (∀ a, Value.ref a ∈ us → a ∉ W) → RowsAt h' us rows := fun x => by
  induction x with
  | nil => exact fun _ => .nil
  | @cons a us r vs rs l i _ ih => exact fun hw => l.elim fun o q => .cons ⟨o, k _ _ (hw a (.head _)) q.1, q.2⟩ i (ih fun b hb => hw b (.tail _ hb))
theorem same_rows_b (X : List (List Int)) : (!decide (X = X)) = false := by simp
end

section
open PySem PySem.W PySem.Spec PySem.Calls PyProof.Rows PyProof.V PySem.SeqAt
theorem Pg.adr_mut {X : Pg} {b : Addr} (h : b ∈ X.adr) : ∃ o, (b, o) ∈ X.mut := by
  simp only [Pg.adr, List.mem_cons, List.not_mem_nil, or_false] at h
  rcases h with rfl | rfl | rfl
  · exact ⟨_, .head _⟩
  · exact ⟨_, .tail _ (.head _)⟩
  · exact ⟨_, .tail _ (.tail _ (.head _))⟩
/-- a new page's address is none of these -/
noncomputable def Away (x : Addr) (l : List (Addr × Obj)) : Prop := ∀ q ∈ l, q.1 ≠ x
theorem pgs_new {fz ro rest : List (Addr × Obj)} {pgs : List Pg} {P : Pg} {oT oR : Obj} (hrest : rest = pgs.flatMap Pg.mut ++ fz) (x : Pgs fz pgs)
    (cT : oT.cls = .type "tuple") (dT : ∃ n, oT.data = .seq #[.ref P.p, .ref P.R] n) (cR : oR.cls = .type "list") (dR : ∃ n, oR.data = .seq P.us.toArray n) (hroF : RowsFr ro P.us P.rows) (hls : StrsAre P.ls ((P.rows.map digs).map rowText)) (hg : RowsGood P.rows)
    (hnew : ∀ b ∈ [P.l, P.c, P.dc, P.T, P.R, P.p, P.dp], Away b rest ∧ b ≠ 161 ∧ b ≠ 168) (hdis : ∀ b ∈ [P.T, P.R, P.p, P.dp], b ≠ P.l ∧ b ≠ P.c ∧ b ≠ P.dc)
    (hro : ∀ q ∈ ro, Away q.1 rest ∧ q.1 ≠ 161 ∧ q.1 ≠ 168 ∧ q.1 ≠ P.l ∧ q.1 ≠ P.c ∧ q.1 ≠ P.dc) :
    Pgs (((P.T, oT) :: (P.R, oR) :: (P.p, instObj 115 P.dp) :: (P.dp, pageDict P.pt P.mx P.ws P.wl P.sc (.ref P.l) (.ref P.c)) :: ro) ++ fz) (pgs ++ [P]) := by
  have hadr : ∀ X ∈ pgs, ∀ b ∈ X.adr, ∃ o, (b, o) ∈ rest := fun X hX b hb => by
    obtain ⟨o, ho⟩ := Pg.adr_mut hb
    exact ⟨o, by rw [hrest]; exact List.mem_append_left _ (List.mem_flatMap.mpr ⟨X, hX, ho⟩)⟩
  have hfz : ∀ q ∈ fz, q ∈ rest := fun q hq => by rw [hrest]; exact List.mem_append_right _ hq
  have hsub : ∀ b ∈ P.adr, b ∈ [P.l, P.c, P.dc, P.T, P.R, P.p, P.dp] := fun b hb => by
    simp only [Pg.adr, List.mem_cons, List.not_mem_nil, or_false] at hb ⊢
    rcases hb with h | h | h <;> simp [h]
  have hnf : ∀ q ∈ ((P.T, oT) :: (P.R, oR) :: (P.p, instObj 115 P.dp) :: (P.dp, pageDict P.pt P.mx P.ws P.wl P.sc (.ref P.l) (.ref P.c)) :: ro), Away q.1 rest ∧ q.1 ≠ 161 ∧ q.1 ≠ 168 ∧ q.1 ≠ P.l ∧ q.1 ≠ P.c ∧ q.1 ≠ P.dc := by
    intro q hq
    revert q
    refine all_cons ?_ ?_
    · have a := hnew P.T (by simp); have b := hdis P.T (by simp); exact ⟨a.1, a.2.1, a.2.2, b⟩
    refine all_cons ?_ ?_
    · have a := hnew P.R (by simp); have b := hdis P.R (by simp); exact ⟨a.1, a.2.1, a.2.2, b⟩
    refine all_cons ?_ ?_
    · have a := hnew P.p (by simp); have b := hdis P.p (by simp); exact ⟨a.1, a.2.1, a.2.2, b⟩
    refine all_cons ?_ ?_
    · have a := hnew P.dp (by simp); have b := hdis P.dp (by simp); exact ⟨a.1, a.2.1, a.2.2, b⟩
    intro q hq
    exact hro q hq
  refine Pgs.add x ⟨by simp, by simp, ⟨oT, by simp, cT, dT⟩, ⟨oR, by simp, cR, dR⟩, hroF.mono fun q hq => by simp [hq], hls, hg⟩ ?_ ?_ ?_ ?_ ?_
  · intro a ha X hX hm
    obtain ⟨o, ho⟩ := hadr X hX a hm
    exact (hnew a (hsub a ha)).1 _ ho rfl
  · intro a ha
    have := (hnew a (hsub a ha)).2
    simp [this.1, this.2]
  · intro q hq hm
    rcases List.mem_append.mp hq with hq | hq
    · have := (hnf q hq).2.2.2
      simp only [Pg.adr, List.mem_cons, List.not_mem_nil, or_false] at hm
      rcases hm with h | h | h
      · exact this.1 h
      · exact this.2.1 h
      · exact this.2.2 h
    · exact (hnew q.1 (hsub _ hm)).1 q (hfz q hq) rfl
  · intro q hq X hX hm
    obtain ⟨o, ho⟩ := hadr X hX _ hm
    exact (hnf q hq).1 _ ho rfl
  · intro q hq
    have := (hnf q hq).2
    simp [this.1, this.2.1]
theorem allLt_away {D : Addr} : ∀ {l : List (Addr × Obj)}, AllLt D l → Away D l := fun h q hq => allLt_ne h q hq
end

section
open PySem PySem.W PySem.Spec PySem.Calls PyProof.Rows PyProof.V PySem.SeqAt
noncomputable def LineMark : Prop := True
theorem hold_line {P : Prop} (_ : autoParam LineMark au21._auto_1) (h : Hold P) : P := h
theorem fr_same {h₀ h : Heap} {L : Addr} {m : Str → Option Value} {x : Str} {v : Value} (F : Fr h₀ L h m) (e : m x = some v) : Fr h₀ L h (fun y => if y = x then some v else m y) := by
  have : (fun y => if y = x then some v else m y) = m := by
    funext y; by_cases q : y = x
    · rw [if_pos q, q, e]
    · rw [if_neg q]
  rw [this]; exact F
theorem closeLs_nil (lsx : List Str) : closeLs (lsx, [], 0) = lsx := by
  unfold closeLs; simp
noncomputable def Pg.key (P : Pg) : Addr × Addr × Addr := (P.T, P.p, P.R)
theorem key_at {pgs : List Pg} {K : List (Addr × Addr × Addr)} (h : pgs.map Pg.key = K) {i : Nat} {k : Addr × Addr × Addr} (hk : K[i]? = some k) : ∃ P, pgs[i]? = some P ∧ P.T = k.1 ∧ P.p = k.2.1 ∧ P.R = k.2.2 := by
  subst h
  rw [List.getElem?_map] at hk
  cases e : pgs[i]? with
  | none => rw [e] at hk; cases hk
  | some P => rw [e] at hk; cases hk; exact ⟨P, rfl, rfl, rfl, rfl⟩
noncomputable abbrev kref (k : Addr × Addr × Addr) : Value := .ref k.1
theorem take_at {K : List (Addr × Addr × Addr)} {i : Nat} {v : Value} (h : (List.toArray ((K.take 2).map kref))[i]? = some v) : ∃ k, i < 2 ∧ K[i]? = some k ∧ K.getD i default = k ∧ v = .ref k.1 := by
  rw [List.getElem?_toArray, List.getElem?_map, List.getElem?_take] at h
  split at h
  · rename_i h2
    cases e : K[i]? with
    | none => rw [e] at h; cases h
    | some k => rw [e] at h; exact ⟨k, h2, rfl, by rw [List.getD_eq_getElem?_getD, e]; rfl, by simpa [kref] using h.symm⟩
  · cases h
theorem drop_at {K : List (Addr × Addr × Addr)} {i : Nat} {v : Value} (h : (List.toArray ((K.drop 2).map kref))[i]? = some v) : ∃ k, K[i + 2]? = some k ∧ K.getD (i + 2) default = k ∧ v = .ref k.1 := by
  rw [List.getElem?_toArray, List.getElem?_map, List.getElem?_drop] at h
  have e2 : 2 + i = i + 2 := Nat.add_comm _ _
  rw [e2] at h
  cases e : K[i + 2]? with
  | none => rw [e] at h; cases h
  | some k => rw [e] at h; exact ⟨k, rfl, by rw [List.getD_eq_getElem?_getD, e]; rfl, by simpa [kref] using h.symm⟩
noncomputable def upd3 (K : List (Addr × Addr × Addr)) (off : Nat) (x y : Str) (i : Nat) (_ : Value) (m : Str → Option Value) : Str → Option Value := fun z =>
  if z = y then some (.ref (K.getD (i + off) default).2.2) else if z = x then some (.ref (K.getD (i + off) default).2.1) else m z
theorem slice_take2 {K : List (Addr × Addr × Addr)} (h : K.length = 4) : (slicePick (List.toArray (K.map kref)) none (some 2) none).toList = (K.take 2).map kref := by
  rw [kmk_pick_nat (a := 0) (b := 2) _ (by rw [List.size_toArray, List.length_map, h]; rfl)]
  rw [List.map_take]; rfl
theorem slice_drop2 {K : List (Addr × Addr × Addr)} (h : K.length = 4) : (slicePick (List.toArray (K.map kref)) (some 2) none none).toList = (K.drop 2).map kref := by
  rw [kmk_pick_nat (a := 2) (b := 4) _ (by rw [List.size_toArray, List.length_map, h]; rfl)]
  show ((K.map kref).drop 2).take (4 - 2) = _
  rw [List.take_of_length_le (by rw [List.length_drop, List.length_map]; (first | lia | omega)), List.map_drop]
theorem slice_tail1 {vs : List Value} : (slicePick (List.toArray vs) (some 1) none none).toList = vs.drop 1 := by
  cases vs with
  | nil => rfl
  | cons v vs =>
    rw [kmk_pick_nat (a := 1) (b := (v :: vs).length) _ (by
      rw [List.size_toArray]
      have e : ((v :: vs).length : Int) = (vs.length : Int) + 1 := by simp
      simp only [sliceBounds, Option.getD_none, show (1 : Int) > 0 by decide, if_true]
      rw [if_neg (by decide), e]
      congr 1
      (first | lia | omega))]
    show ((v :: vs).drop 1).take ((v :: vs).length - 1) = _
    rw [List.take_of_length_le (by simp)]
theorem ints_drop {vs : List Value} {ns : List Int} (h : IntsAre vs ns) : IntsAre (vs.drop 1) ns.tail := by
  rw [← List.drop_one]; exact h.drop 1
theorem Pgs.frz {fz nf : List (Addr × Obj)} {pgs : List Pg} (x : Pgs fz pgs) (h : ∀ q ∈ nf, (∀ X ∈ pgs, q.1 ∉ X.adr) ∧ q.1 ∉ ([161, 168] : List Addr)) : Pgs (nf ++ fz) pgs := by
  refine ⟨fun P hP => (x.each P hP).mono fun q hq => List.mem_append_right _ hq, x.apart, x.tabs, fun q hq P hP => ?_, fun q hq => ?_⟩
  · rcases List.mem_append.mp hq with hq | hq
    · exact (h q hq).1 P hP
    · exact x.fro q hq P hP
  · rcases List.mem_append.mp hq with hq | hq
    · exact (h q hq).2
    · exact x.froT q hq
theorem Pgs.away {pgs : List Pg} {a : Addr} (h : Away a (pgs.flatMap Pg.mut)) : ∀ X ∈ pgs, a ∉ X.adr := fun X hX hm => by
  obtain ⟨o, ho⟩ := Pg.adr_mut hm
  exact h _ (List.mem_flatMap.mpr ⟨X, hX, ho⟩) rfl
/-- the two loops over the pages -/
inductive J3 (K : List (Addr × Addr × Addr)) (ex fz : List (Addr × Obj)) (n : Nat) (i : Nat) (vals : List (Option Value)) (news : List (Addr × Obj)) : Prop
  | mk : ∀ tp1 tp2 pgs, (vals.length = n) → (news = (161, tabObj tp1) :: (168, tabObj tp2) :: (ex ++ (pgs.flatMap Pg.mut ++ fz))) → (TabIs tp1 144 19) → (TabIs tp2 147 32) → (Pgs fz pgs) → (pgs.map Pg.key = K) → ((∀ q ∈ ex, ∀ P ∈ pgs, q.1 ∉ P.adr)) → J3 K ex fz n i vals news
theorem len5 {vals : List (Option Value)} (h : vals.length = 5) : ∃ a b c d e, vals = [a, b, c, d, e] := by
  obtain ⟨a, r1, e1, h1⟩ := len_one h
  obtain ⟨b, r2, e2, h2⟩ := len_one h1
  obtain ⟨c, r3, e3, h3⟩ := len_one h2
  obtain ⟨d, r4, e4, h4⟩ := len_one h3
  obtain ⟨e, r5, e5, h5⟩ := len_one h4
  exact ⟨a, b, c, d, e, by rw [e1, e2, e3, e4, e5, List.length_eq_zero_iff.mp h5]⟩
theorem len7 {vals : List (Option Value)} (h : vals.length = 7) : ∃ a b c d e f g, vals = [a, b, c, d, e, f, g] := by
  obtain ⟨a, r1, e1, h1⟩ := len_one h
  obtain ⟨b, r2, e2, h2⟩ := len_one h1
  obtain ⟨c, d, e, f, g, e3⟩ := len5 h2
  exact ⟨a, b, c, d, e, f, g, by rw [e1, e2, e3]⟩
/-- the line loop: the flat list grows -/
inductive J5 (rows : List (List Int)) (base : List (Addr × Obj)) (i : Nat) (vals : List (Option Value)) (news : List (Addr × Obj)) : Prop
  | mk : ∀ o FL vs n, (vals = [some (.ref FL), o]) → (news = (FL, listOf (List.toArray vs) n) :: base) → (IntsAre vs (flatOf (rows.take i))) → (Away FL base) → J5 rows base i vals news
theorem flat_next {rows : List (List Int)} {i : Nat} {r : List Int} (h : rows[i]? = some r) : flatOf (rows.take i) ++ [-1] ++ r = flatOf (rows.take (i + 1)) := by
  rw [List.take_succ, h]
  show _ = List.flatMap _ (rows.take i ++ [r])
  rw [List.flatMap_append]
  simp [flatOf]
theorem flat_le {rows : List (List Int)} {i : Nat} : (flatOf (rows.take i)).length ≤ (flatOf rows).length := by
  conv => rhs; rw [← List.take_append_drop i rows]
  unfold flatOf
  rw [List.flatMap_append, List.length_append]; (first | lia | omega)
end

section
open PySem PySem.W PySem.Spec PySem.Calls PyProof.Rows PyProof.V PySem.SeqAt
theorem key_set {pgs : List Pg} {P : Pg} {i : Nat} {ls : List Value} {nl ep : Nat} {ti : Tok} (hi : pgs[i]? = some P) : (pgs.set i (P.upd ls nl ep ti)).map Pg.key = pgs.map Pg.key := by
  apply List.ext_getElem?
  intro k
  rw [List.getElem?_map, List.getElem?_map, List.getElem?_set]
  split
  · rename_i e; subst e
    split
    · rw [hi]; rfl
    · rename_i h
      rw [List.getElem?_eq_none (by (first | lia | omega))]
  · rfl
theorem adr_set {pgs : List Pg} {P : Pg} {i : Nat} {ls : List Value} {nl ep : Nat} {ti : Tok} (hi : pgs[i]? = some P) {ex : List (Addr × Obj)} (h : ∀ q ∈ ex, ∀ X ∈ pgs, q.1 ∉ X.adr) : ∀ q ∈ ex, ∀ X ∈ pgs.set i (P.upd ls nl ep ti), q.1 ∉ X.adr := by
  intro q hq X hX
  obtain ⟨k, hk⟩ := List.mem_iff_getElem?.mp hX
  rw [List.getElem?_set] at hk
  split at hk
  · split at hk
    · cases hk
      exact h q hq P (List.mem_of_getElem? hi)
    · cases hk
  · exact h q hq X (List.mem_of_getElem? hk)
theorem get_set_ne {pgs : List Pg} {X : Pg} {i j : Nat} (Y : Pg) (hij : i ≠ j) (h : pgs[j]? = some X) : (pgs.set i Y)[j]? = some X := by
  rw [List.getElem?_set_ne hij]; exact h
theorem page_no {P : Pg} {a : Addr} (h : a ∉ P.adr) (h2 : a ∉ ([161, 168] : List Addr)) : a ∉ [P.l, P.c, P.dc, 161, 168] := by
  intro h3
  simp only [Pg.adr, List.mem_cons, List.not_mem_nil, or_false, not_or] at h h2 h3
  rcases h3 with e | e | e | e | e
  · exact h.1 e
  · exact h.2.1 e
  · exact h.2.2 e
  · exact h2.1 e
  · exact h2.2 e
end

section
open PySem PySem.W PySem.Spec PySem.Calls PyProof.Rows
set_option hygiene false in
local macro_rules | `(tactic| walk_at "execs cons Assign cons") => `(tactic| (k_here; (try clear Q9); (try clear Q9); with_reducible refine execs_let ?_; intro Q9))
local macro_rules | `(tactic| walk_at "binaryOp Pow int int") => `(tactic| (k_here; refine pow_a ?_))
local macro_rules | `(tactic| walk_at "binaryOp Add ref ref") => `(tactic| (k_here; refine hold_line (h := ?_)))
local macro_rules | `(tactic| walk_at "subscriptTail Name Slice ref ref") => `(tactic| (k_here; refine hold_pages ?_))
local macro_rules | `(tactic| walk_at "binaryOp Mod int int") => `(tactic| (k_here; refine mod_a ?_))
local macro_rules | `(tactic| walk_at "binaryOp FloorDiv int int") => `(tactic| (k_here; (with_reducible refine PyProof.Rows.floordiv_int (by decide) ?_)))
local macro_rules | `(tactic| walk_at "binaryOp Add int int") => `(tactic| (k_here; refine PyProof.Rows.add_int ?_))
local macro_rules | `(tactic| walk_at "exec For Tuple List cons nil") => `(tactic| (k_here; refine hold ?_))
local macro_rules | `(tactic| walk_at "exec Assign cons ListComp") => `(tactic| (k_here; refine hold ?_))
local macro_rules | `(tactic| walk_at "compareOp NotEq ref ref") => `(tactic| (k_here; refine hold ?_))
local macro_rules | `(tactic| walk_at "call builtin:list.append") => `(tactic| (k_here; refine hold ?_))
local macro_rules | `(tactic| walk_at "subscriptTail Name Slice ref ref") => `(tactic| (k_here; refine hold_from ?_))

theorem law_call {w : World} {s : Shared} {mg mb : Str → Option Value} {mean : ExcName → Option Value} {l : Addr} {vs : List Value} {ns : List Int} {Q E : Value → Shared → Prop} (X : (hd.heap_1 w.params).In s.heap) (T : Top hd.view_39 (looseW hd.view_39 [Str.ofString "_Accumulator"]) mean mg mb s.heap) (ht : ∀ P ∈ ([161, 168] : List Addr), s.heap.get? P = some (tabObj #[]))
    (hb : AllBare s.gens) (hl : s.heap.IsList l vs.toArray) (hi : IntsAre vs ns) (hz : ns.length ≤ 63)
    (hret : ∀ h' gs tk, AllBare gs → (∀ b o, s.heap.get? b = some o → b ∉ ([161, 168] : List Addr) → h'.get? b = some o) → TabSt h' 161 144 19 → TabSt h' 168 147 32 → Q (.bool true) ⟨h', gs, s.drawn, tk, s.os⟩) :
    wpAny (model PySem.Challenge.rw_ty0042_01.row.prog w) callerA (call (.ref 232) [.ref l]) Q E s := by
  w_top off
  refine wpAny_call ?_
  refine' enterL (binds := [(Str.ofString "script", .ref l)]) X T ht ?k6 ?k7 ?k9 ?kB ?_ ?c5 ?c2 ?c3 ?c4
  case k6 => k_is
  case k7 => k_is
  case k9 => exact BindsTo.of_eq rfl
  case kB => exact locs rfl
  case c2 => exact rfl
  case c3 => exact rfl
  case c4 => exact rfl
  case c5 => decide
  intro g L' h₁ F N B KX KT hg
  try dsimp only
  try k_fold
  try (with_reducible refine wp_letA ?_; intro A9)
  have hlg : g.IsList l vs.toArray := by
    refine gen_goal fun G9 hG9 => ?_
    obtain ⟨o, ho, r⟩ := hl
    refine hG9 ?_
    clear hG9 G9
    refine ⟨o, hg _ _ ho ?_, r⟩
    intro hm
    rw [ht l hm] at ho; cases ho
    exact absurd r.1 (by simp)
  try (with_reducible refine wp_letQ ?_; intro Qz1)
  k_steps
  refine unhold ?_
  (with_reducible rename Fr _ _ _ _ => F1)
  refine fr_let F1 ?_
  clear F1
  intro mz1x F1
  (with_reducible rename News _ _ _ _ => N1)
  (with_reducible rename IntsAre _ (_ ++ _) => hItems)
  rename_i WA0 q2 q3 q4 SA0 q5 q6 q7 LA0 q8 q9 D1 ws1 q10 q11 q12 q13 q14 DI wsI q15 q16
  have lenI := hItems.length
  rw [List.length_append, List.length_take] at lenI
  refine iter_v (items := wsI.toArray) [Str.ofString "x", Str.ofString "m", Str.ofString "more", Str.ofString "wanted", Str.ofString "shown"] (J1 wsI DI (7 + min 4 ns.length)) (fun i v m y => if y = Str.ofString "x" then some v else m y) F1 (news_sub N1 (b := [(WA0, listOf (List.toArray []) 0), (SA0, listOf (List.toArray []) 0), (DI, listOf wsI.toArray 0), (161, tabObj #[]), (168, tabObj #[])]) (by
    ((repeat' (first | exact mem_sub_nil | refine mem_sub_cons ?_ ?_ | refine mem_sub_app ?_ ?_)); all_goals (repeat (first | exact List.Mem.head _ | refine List.Mem.tail _ ?_ | exact mem_sub_refl | exact mem_sub_left | refine mem_sub_tail ?_ | refine mem_sub_right ?_))))) hb ?_ ?_ ?_ ?_ ?_ ?_ rfl
  · refine ⟨none, none, none, _, _, [], [], [], [], 0, 0, ?_, rfl, .nil, .nil, (fun x hx => nomatch hx), (fun x hx => nomatch hx), Nat.zero_le _, Nat.zero_le _, .inl rfl, Nat.zero_le _⟩
    with_unfolding_all rfl
  · intro i vals news₁ h hz1x N2 _
    refine gen_goal fun G9 hG9 => ?_
    obtain ⟨o1, o2, o3, WA, SA, wv, sv, wn, sn, nW, nS, rfl, rfl, _⟩ := hz1x
    refine hG9 ?_
    clear hG9 G9
    exact ⟨_, (N2 _ (.tail _ (.tail _ (.head _)))).1, rfl, _, rfl⟩
  · rintro i v vals news₁ s₁ I Q' hv _ _ hq
    exact go_name hq
  · rintro i v vals m₁ news₁ s₁ Q' hv _ F2 N2 hq
    exact asg1 rfl rfl F2 fun h' tk' F3 hk => hq h' tk' F3 hk
  · intro i v vals news₁ h gs tk I io hv hz2x hgs hio hI1 hI2 F2 N2
    refine gen_goal fun G9 hG9 => ?_
    obtain ⟨o1, o2, o3, WA, SA, wv, sv, wn, sn, nW, nS, rfl, rfl, hwi, hsi, hwn, hsn, hwl, hsl, hne, hin⟩ := hz2x
    refine hG9 ?_
    clear hG9 G9
    refine gen_goal fun G9 hG9 => ?_
    obtain ⟨x, tx, rfl, hdr, hxm⟩ := ints_at hItems hv
    refine hG9 ?_
    clear hG9 G9
    refine fr_let F2 ?_
    clear F2
    intro mz2x F2
    clear F1 N1
    have hin' : i + 1 ≤ 7 + min 4 ns.length := by
      have := congrArg List.length hdr
      simp only [List.length_drop, List.length_append, List.length_cons, List.length_nil, List.length_take] at this
      (first | lia | omega)
    have hx0 : i = 0 → x.fmod 5 = 0 := fun z => by
      subst z
      have : x = 5 := by
        have := congrArg List.head? hdr
        simpa using this.symm
      rw [this]; rfl
    have hms := mod_small' x
    have hwz : wv.length ≤ sizeLine := by rw [hwi.length, sizeLine_eq]; (first | lia | omega)
    have hsz : sv.length ≤ sizeLine := by rw [hsi.length, sizeLine_eq]; (first | lia | omega)
    try (with_reducible refine wp_letQ ?_; intro Qz2)
    k_steps
    · refine unhold ?_
      (with_reducible rename Fr _ _ _ _ => F3)
      refine fr_let F3 ?_
      clear F3
      intro mz3x F3
      (with_reducible rename News _ _ _ _ => N3)
      refine slice_fromK 3 F3 N3 ⟨_, (N3 (SA, _) (.tail _ (.tail _ (.head _)))).1, rfl, _, rfl⟩ hsi rfl (Int.fmod_nonneg_of_pos _ (by decide)) (by have := Int.fmod_lt_of_pos ((x.fdiv 5).fmod (64 ^ Int.toNat 6)) (show (0 : Int) < 4 by decide); (first | lia | omega)) hsz ?_ (by with_unfolding_all rfl) (by kmk_pure)
      intro D3 ws3 ms h4 F4 N4 hD3 hi3 hl3 hm3
      have hne' := hne.resolve_left fun z => by have := hx0 z; (first | lia | omega)
      clear F3 N3
      try (with_reducible refine wp_letQ ?_; intro Qz3)
      k_steps
      show Hold _
      (with_reducible rename Fr _ _ _ _ => F5)
      refine fr_let F5 ?_
      clear F5
      intro mz4x F5
      (with_reducible rename News _ _ _ _ => N5)
      (with_reducible rename IntsAre _ (_ ++ ms) => hS')
      rename_i SA9 ws9 q20 l19 q21
      refine ⟨_, _, _, _, [_, _, _, some (.ref WA), some (.ref SA9)], (WA, listOf wv.toArray nW) :: (SA9, listOf ws9.toArray 0) :: (DI, listOf wsI.toArray 0) :: [(161, tabObj #[]), (168, tabObj #[])], rfl, by assumption, F5, by (refine same_fun [Str.ofString "x", Str.ofString "m", Str.ofString "more", Str.ofString "wanted", Str.ofString "shown"] (by with_unfolding_all exact ⟨rfl, rfl, rfl, rfl, rfl, trivial⟩) ?_; rintro y ⟨q_x, q_m, q_more, q_wanted, q_shown, -⟩; dsimp only [kstO, List.zip_cons_cons, List.zip_nil_right, List.zip_nil_left]; (repeat (refine (if_neg (by with_reducible assumption)).trans ?_)); refine Eq.symm ?_; (repeat (refine (if_neg (by with_reducible assumption)).trans ?_)); rfl), news_sub N5 (fun q hq => ?_), fun q hq => ?_, _, _, _, WA, SA9, wv, ws9, wn, sn ++ ms, nW, 0, rfl, rfl, hwi, hS', hwn, in_both hsn (fun y hy => hsn y (hm3 y hy)), by (first | lia | omega), by rw [List.length_append]; (first | lia | omega), .inr ⟨hne'.1, by simp [hne'.2]⟩, hin'⟩
      · revert q
        ((repeat' (first | exact mem_sub_nil | refine mem_sub_cons ?_ ?_ | refine mem_sub_app ?_ ?_)); all_goals (repeat (first | exact List.Mem.head _ | refine List.Mem.tail _ ?_ | exact mem_sub_refl | exact mem_sub_left | refine mem_sub_tail ?_ | refine mem_sub_right ?_)))
      · revert q
        refine all_cons ?_ ?_
        · exact hI1 (WA, _) (.head _)
        refine all_cons ?_ ?_
        · (try dsimp only); k_ne
        refine all_cons ?_ ?_
        · exact hI1 (DI, _) (.tail _ (.tail _ (.head _)))
        refine all_cons ?_ ?_
        · exact hI1 (161, _) (.tail _ (.tail _ (.tail _ (.head _))))
        refine all_cons ?_ all_nil
        exact hI1 (168, _) (.tail _ (.tail _ (.tail _ (.tail _ (.head _)))))
    · show Hold _
      (with_reducible rename Fr _ _ _ _ => F5)
      refine fr_let F5 ?_
      clear F5
      intro mz5x F5
      (with_reducible rename News _ _ _ _ => N5)
      (with_reducible rename IntsAre _ (sn ++ _) => hS')
      have hne' := hne.resolve_left fun z => by have := hx0 z; (first | lia | omega)
      rename_i LA9 q22 l20 SA9 ws9 q20 l19 q21
      refine ⟨_, _, _, _, [_, _, _, some (.ref WA), some (.ref SA9)], (WA, listOf wv.toArray nW) :: (SA9, listOf ws9.toArray 0) :: (DI, listOf wsI.toArray 0) :: [(161, tabObj #[]), (168, tabObj #[])], rfl, by assumption, F5, by (refine same_fun [Str.ofString "x", Str.ofString "m", Str.ofString "more", Str.ofString "wanted", Str.ofString "shown"] (by with_unfolding_all exact ⟨rfl, rfl, rfl, rfl, rfl, trivial⟩) ?_; rintro y ⟨q_x, q_m, q_more, q_wanted, q_shown, -⟩; dsimp only [kstO, List.zip_cons_cons, List.zip_nil_right, List.zip_nil_left]; (repeat (refine (if_neg (by with_reducible assumption)).trans ?_)); refine Eq.symm ?_; (repeat (refine (if_neg (by with_reducible assumption)).trans ?_)); rfl), news_sub N5 (fun q hq => ?_), fun q hq => ?_, _, _, _, WA, SA9, wv, ws9, wn, sn ++ [_], nW, 0, rfl, rfl, hwi, hS', hwn, in_both hsn (fun y hy => by rw [List.mem_singleton.mp hy]; exact hms), by (first | lia | omega), by rw [List.length_append, List.length_singleton]; (first | lia | omega), .inr ⟨hne'.1, by simp⟩, hin'⟩
      · revert q
        ((repeat' (first | exact mem_sub_nil | refine mem_sub_cons ?_ ?_ | refine mem_sub_app ?_ ?_)); all_goals (repeat (first | exact List.Mem.head _ | refine List.Mem.tail _ ?_ | exact mem_sub_refl | exact mem_sub_left | refine mem_sub_tail ?_ | refine mem_sub_right ?_)))
      · revert q
        refine all_cons ?_ ?_
        · exact hI1 (WA, _) (.head _)
        refine all_cons ?_ ?_
        · (try dsimp only); k_ne
        refine all_cons ?_ ?_
        · exact hI1 (DI, _) (.tail _ (.tail _ (.head _)))
        refine all_cons ?_ ?_
        · exact hI1 (161, _) (.tail _ (.tail _ (.tail _ (.head _))))
        refine all_cons ?_ all_nil
        exact hI1 (168, _) (.tail _ (.tail _ (.tail _ (.tail _ (.head _)))))
    · refine unhold ?_
      (with_reducible rename Fr _ _ _ _ => F3)
      refine fr_let F3 ?_
      clear F3
      intro mz6x F3
      (with_reducible rename News _ _ _ _ => N3)
      refine slice_fromK 2 F3 N3 ⟨_, (N3 (WA, _) (.tail _ (.head _))).1, rfl, _, rfl⟩ hwi rfl (Int.fmod_nonneg_of_pos _ (by decide)) (by have := Int.fmod_lt_of_pos ((x.fdiv 5).fmod (64 ^ Int.toNat 6)) (show (0 : Int) < 3 by decide); (first | lia | omega)) hwz ?_ (by with_unfolding_all rfl) (by kmk_pure)
      intro D3 ws3 ms h4 F4 N4 hD3 hi3 hl3 hm3
      have hne' := hne.resolve_left fun z => by have := hx0 z; (first | lia | omega)
      clear F3 N3
      try (with_reducible refine wp_letQ ?_; intro Qz4)
      k_steps
      show Hold _
      (with_reducible rename Fr _ _ _ _ => F5)
      refine fr_let F5 ?_
      clear F5
      intro mz7x F5
      (with_reducible rename News _ _ _ _ => N5)
      (with_reducible rename IntsAre _ (wn ++ ms) => hW')
      (with_reducible rename IntsAre _ (sn ++ ms) => hS')
      rename_i WA9 wsW q22 l20 q23 _ SA9 ws9 q20 l19 q21
      refine ⟨_, _, _, _, [_, _, _, some (.ref WA9), some (.ref SA9)], (WA9, listOf wsW.toArray 0) :: (SA9, listOf ws9.toArray 0) :: (DI, listOf wsI.toArray 0) :: [(161, tabObj #[]), (168, tabObj #[])], rfl, by assumption, F5, by (refine same_fun [Str.ofString "x", Str.ofString "m", Str.ofString "more", Str.ofString "wanted", Str.ofString "shown"] (by with_unfolding_all exact ⟨rfl, rfl, rfl, rfl, rfl, trivial⟩) ?_; rintro y ⟨q_x, q_m, q_more, q_wanted, q_shown, -⟩; dsimp only [kstO, List.zip_cons_cons, List.zip_nil_right, List.zip_nil_left]; (repeat (refine (if_neg (by with_reducible assumption)).trans ?_)); refine Eq.symm ?_; (repeat (refine (if_neg (by with_reducible assumption)).trans ?_)); rfl), news_sub N5 (fun q hq => ?_), fun q hq => ?_, _, _, _, WA9, SA9, wsW, ws9, wn ++ ms, sn ++ ms, 0, 0, rfl, rfl, hW', hS', in_both hwn (fun y hy => hwn y (hm3 y hy)), in_both hsn (fun y hy => hwn y (hm3 y hy)), by rw [List.length_append]; (first | lia | omega), by rw [List.length_append]; (first | lia | omega), .inr ⟨by simp [hne'.1], by simp [hne'.2]⟩, hin'⟩
      · revert q
        ((repeat' (first | exact mem_sub_nil | refine mem_sub_cons ?_ ?_ | refine mem_sub_app ?_ ?_)); all_goals (repeat (first | exact List.Mem.head _ | refine List.Mem.tail _ ?_ | exact mem_sub_refl | exact mem_sub_left | refine mem_sub_tail ?_ | refine mem_sub_right ?_)))
      · revert q
        refine all_cons ?_ ?_
        · (try dsimp only); k_ne
        refine all_cons ?_ ?_
        · (try dsimp only); k_ne
        refine all_cons ?_ ?_
        · exact hI1 (DI, _) (.tail _ (.tail _ (.head _)))
        refine all_cons ?_ ?_
        · exact hI1 (161, _) (.tail _ (.tail _ (.tail _ (.head _))))
        refine all_cons ?_ all_nil
        exact hI1 (168, _) (.tail _ (.tail _ (.tail _ (.tail _ (.head _)))))
    · show Hold _
      (with_reducible rename Fr _ _ _ _ => F5)
      refine fr_let F5 ?_
      clear F5
      intro mz8x F5
      (with_reducible rename News _ _ _ _ => N5)
      (with_reducible rename IntsAre _ (wn ++ _) => hW')
      (with_reducible rename IntsAre _ (sn ++ _) => hS')
      rename_i WA9 wsW q22 l20 q23 _ SA9 ws9 q20 l19 q21
      refine ⟨_, _, _, _, [_, _, _, some (.ref WA9), some (.ref SA9)], (WA9, listOf wsW.toArray 0) :: (SA9, listOf ws9.toArray 0) :: (DI, listOf wsI.toArray 0) :: [(161, tabObj #[]), (168, tabObj #[])], rfl, by assumption, F5, by (refine same_fun [Str.ofString "x", Str.ofString "m", Str.ofString "more", Str.ofString "wanted", Str.ofString "shown"] (by with_unfolding_all exact ⟨rfl, rfl, rfl, rfl, rfl, trivial⟩) ?_; rintro y ⟨q_x, q_m, q_more, q_wanted, q_shown, -⟩; dsimp only [kstO, List.zip_cons_cons, List.zip_nil_right, List.zip_nil_left]; (repeat (refine (if_neg (by with_reducible assumption)).trans ?_)); refine Eq.symm ?_; (repeat (refine (if_neg (by with_reducible assumption)).trans ?_)); rfl), news_sub N5 (fun q hq => ?_), fun q hq => ?_, _, _, _, WA9, SA9, wsW, ws9, wn ++ [_], sn ++ [_], 0, 0, rfl, rfl, hW', hS', in_both hwn (fun y hy => by rw [List.mem_singleton.mp hy]; exact hms), in_both hsn (fun y hy => by rw [List.mem_singleton.mp hy]; exact hms), by rw [List.length_append, List.length_singleton]; (first | lia | omega), by rw [List.length_append, List.length_singleton]; (first | lia | omega), .inr ⟨by simp, by simp⟩, hin'⟩
      · revert q
        ((repeat' (first | exact mem_sub_nil | refine mem_sub_cons ?_ ?_ | refine mem_sub_app ?_ ?_)); all_goals (repeat (first | exact List.Mem.head _ | refine List.Mem.tail _ ?_ | exact mem_sub_refl | exact mem_sub_left | refine mem_sub_tail ?_ | refine mem_sub_right ?_)))
      · revert q
        refine all_cons ?_ ?_
        · (try dsimp only); k_ne
        refine all_cons ?_ ?_
        · (try dsimp only); k_ne
        refine all_cons ?_ ?_
        · exact hI1 (DI, _) (.tail _ (.tail _ (.head _)))
        refine all_cons ?_ ?_
        · exact hI1 (161, _) (.tail _ (.tail _ (.tail _ (.head _))))
        refine all_cons ?_ all_nil
        exact hI1 (168, _) (.tail _ (.tail _ (.tail _ (.tail _ (.head _)))))
  · intro h gs tk vals news₁ hz3x hgs F2 N2
    refine gen_goal fun G9 hG9 => ?_
    obtain ⟨o1, o2, o3, WA, SA, wv, sv, wn, sn, nW, nS, rfl, rfl, hwi, hsi, hwn, hsn, hwl, hsl, hne, hin⟩ := hz3x
    refine hG9 ?_
    clear hG9 G9
    refine fr_let F2 ?_
    clear F2
    intro mz9x F2
    clear F1 N1
    have h7 : wsI.toArray.size ≤ 11 := by
      simp only [List.size_toArray, lenI, List.length_cons, List.length_nil]; (first | lia | omega)
    have hne' := hne.resolve_left (fun z => by simp only [List.size_toArray, lenI, List.length_cons, List.length_nil] at z; (first | lia | omega))
    try (with_reducible refine wp_letQ ?_; intro Qz5)
    k_steps
    refine unhold ?_
    (with_reducible rename Fr _ _ _ _ => F3)
    refine fr_let F3 ?_
    clear F3
    intro mz10x F3
    (with_reducible rename News _ _ _ _ => N3)
    rename_i h3 q20 PL h4 q21 h5
    obtain ⟨t1, t2, t3, t4, m0, F4⟩ : ∃ (t1 t2 t3 t4 : Tok) (m0 : Str → Option Value), Fr g L' h5 (fun y => if y = Str.ofString "pages" then some (.ref PL) else if y = Str.ofString "wide" then some (.int (7 + ((List.take 4 ns).sum.fdiv 96).fmod 20) t1) else if y = Str.ofString "head" then some (.int (((List.take 4 ns).sum.fdiv 12).fmod 8) t2) else if y = Str.ofString "width" then some (.int (5 + ((List.take 4 ns).sum).fmod 12) t3) else if y = Str.ofString "total" then some (.int (List.take 4 ns).sum t4) else if y = Str.ofString "x" then o1 else if y = Str.ofString "m" then o2 else if y = Str.ofString "more" then o3 else if y = Str.ofString "wanted" then some (.ref WA) else if y = Str.ofString "shown" then some (.ref SA) else m0 y) := ⟨_, _, _, _, _, F3⟩
    clear F3
    refine gen_state ?_
    intro tkA
    (try dsimp only)
    refine wpAny_For ?_ (fun _ => rfl)
    try (with_reducible refine wp_letQ ?_; intro Qz6)
    k_steps
    refine unhold ?_
    (with_reducible rename Fr _ _ _ _ => F5)
    refine fr_let F5 ?_
    clear F5
    intro mz11x F5
    (with_reducible rename News _ _ _ _ => N5)
    rename_i T0 z1 z2 T1 z3 z4 T2 z5 z6 T3 z7 z8 RL z9 z10
    have h8 : ∀ z : Int, 0 ≤ z.fmod 8 ∧ z.fmod 8 < 1000 := fun z => ⟨Int.fmod_nonneg_of_pos _ (by decide), by have := Int.fmod_lt_of_pos z (show (0 : Int) < 8 by decide); (first | lia | omega)⟩
    obtain ⟨asks, fz0, hRL, hasks, hAsk, hfz0, hPL, N6⟩ := asks_of N5 hwi hsi hne' (by (first | lia | omega)) (by (first | lia | omega)) hwn hsn (h8 _) (h8 _) ⟨by decide, by decide⟩ (h8 _) (by
      intro q hq
      rcases List.mem_cons.mp hq with rfl | hq
      · k_ne
      rcases List.mem_cons.mp hq with rfl | hq
      · k_ne
      rcases List.mem_cons.mp hq with rfl | hq
      · k_ne
      rcases List.mem_cons.mp hq with rfl | hq
      · k_ne
      rcases List.mem_cons.mp hq with rfl | hq
      · k_ne
      rcases List.mem_cons.mp hq with rfl | hq
      · k_ne
      rcases List.mem_singleton.mp hq with rfl
      k_ne)
    clear N5
    refine iter_v (items := List.toArray (asks.map fun a => Value.ref a.T)) [Str.ofString "row", Str.ofString "most", Str.ofString "front", Str.ofString "page", Str.ofString "rows", Str.ofString "due"] (J2 PL fz0) (upd2 asks) F5 N6 (by assumption) ?_ ?_ ?_ ?_ ?_ ?_ rfl
    · refine ⟨m0 (Str.ofString "row"), m0 (Str.ofString "most"), m0 (Str.ofString "front"), m0 (Str.ofString "page"), m0 (Str.ofString "rows"), m0 (Str.ofString "due"), 0, _, _, [], fz0, ?_, rfl, .inl rfl, .inl rfl, rfl, ?_, fun q hq => hq, (fun P hP => nomatch hP), fun q hq => (hfz0 q hq).2⟩
      · with_unfolding_all rfl
      · exact ⟨fun P hP => (nomatch hP), fun i j P X hP => by simp at hP, fun P hP => (nomatch hP), fun q hq P hP => (nomatch hP), fun q hq => (hfz0 q hq).1⟩
    · intro i vals news₁ h hz4x N2 _
      refine gen_goal fun G9 hG9 => ?_
      obtain ⟨o1, o2, o3, o4, o5, o6, nP, tp1, tp2, pgs, fz, rfl, rfl, ht1, ht2, hlen, hpgs, hfz, hPa, hfP⟩ := hz4x
      refine hG9 ?_
      clear hG9 G9
      exact ⟨_, (N2 _ (.tail _ (.tail _ (.tail _ (List.mem_append_right _ (hfz _ hRL)))))).1, rfl, _, rfl⟩
    · rintro i v vals news₁ s₁ I Q' hv _ hit hq
      refine gen_goal fun G9 hG9 => ?_
      obtain ⟨a, ha, hae, rfl⟩ := ask_at hv
      refine hG9 ?_
      clear hG9 G9
      exact go_tup hit hq
    · intro i v vals m₁ news₁ s₁ Q' hv hz5x F2 N2 hq
      refine gen_goal fun G9 hG9 => ?_
      obtain ⟨o1, o2, o3, o4, o5, o6, nP, tp1, tp2, pgs, fz, rfl, rfl, ht1, ht2, hlen, hpgs, hfz, hPa, hfP⟩ := hz5x
      refine hG9 ?_
      clear hG9 G9
      refine gen_goal fun G9 hG9 => ?_
      obtain ⟨a, ha, hae, rfl⟩ := ask_at hv
      refine hG9 ?_
      clear hG9 G9
      refine gen_goal fun G9 hG9 => ?_
      obtain ⟨o, ho, hc, n, hd⟩ := (hAsk a (List.mem_of_getElem? ha)).hT
      refine hG9 ?_
      clear hG9 G9
      refine asg3 rfl rfl rfl rfl rfl F2 ⟨o, (N2 _ (.tail _ (.tail _ (.tail _ (List.mem_append_right _ (hfz _ ho)))))).1, hc, n, hd⟩ fun h' tk' F3 hk => hq h' tk' ?_ hk
      unfold upd2
      rw [hae]
      exact F3
    · intro i v vals news₁ h gs tk I io hv hz6x hgs hio hI1 hI2 F2 N2
      refine gen_goal fun G9 hG9 => ?_
      obtain ⟨o1, o2, o3, o4, o5, o6, nP, tp1, tp2, pgs, fz, rfl, rfl, ht1, ht2, hlen, hpgs, hfz, hPa, hfP⟩ := hz6x
      refine hG9 ?_
      clear hG9 G9
      refine gen_goal fun G9 hG9 => ?_
      obtain ⟨a, ha, hae, rfl⟩ := ask_at hv
      refine hG9 ?_
      clear hG9 G9
      refine gen_goal fun G9 hG9 => ?_
      obtain ⟨-, ⟨oA, vsA, nsA, hoA, hcA, ⟨nA, hdA⟩, hiA, hneA, hlA, hnA⟩, hh⟩ := hAsk a (List.mem_of_getElem? ha)
      refine hG9 ?_
      clear hG9 G9
      unfold upd2 at F2
      rw [hae] at F2
      refine fr_let F2 ?_
      clear F2
      intro mz12x F2
      clear F5 N6
      obtain ⟨rest, hrest⟩ : ∃ r, r = pgs.flatMap Pg.mut ++ fz := ⟨_, rfl⟩
      rw [← hrest] at N2
      have hold : ∀ q ∈ rest, q ∈ (I, io) :: (PL, listOf (List.toArray (pgs.map fun P : Pg => Value.ref P.T)) nP) :: (161, tabObj tp1) :: (168, tabObj tp2) :: rest := fun q hq => .tail _ (.tail _ (.tail _ (.tail _ hq)))
      have hoA' : (a.A, oA) ∈ rest := by rw [hrest]; exact List.mem_append_right _ (hfz _ hoA)
      have hrT : ∀ q ∈ rest, q.1 ∉ ([161, 168] : List Addr) := by
        intro q hq
        rw [hrest] at hq
        rcases List.mem_append.mp hq with hq | hq
        · refine gen_goal fun G9 hG9 => ?_
          obtain ⟨X, hX, hqX⟩ := List.mem_flatMap.mp hq
          refine hG9 ?_
          clear hG9 G9
          exact hpgs.tabs X hX _ (Pg.mut_adr hqX)
        · exact hpgs.froT q hq
      have hIT : I ∉ ([161, 168] : List Addr) := by
        intro hm
        first | (rcases List.mem_cons.mp hm with hm | hm) | (rcases List.mem_append.mp hm with hm | hm)
        · exact hI1 (161, _) (.tail _ (.head _)) hm.symm
        rcases List.mem_singleton.mp hm with hm
        exact hI1 (168, _) (.tail _ (.tail _ (.head _))) hm.symm
      have hPI : PL ≠ I := hI1 (PL, _) (.head _)
      have hrI : Away I rest := fun q hq => hI1 q (by rw [← hrest]; exact .tail _ (.tail _ (.tail _ hq)))
      have hrP : Away PL rest := by
        intro q hq
        rw [hrest] at hq
        rcases List.mem_append.mp hq with hq | hq
        · refine gen_goal fun G9 hG9 => ?_
          obtain ⟨X, hX, hqX⟩ := List.mem_flatMap.mp hq
          refine hG9 ?_
          clear hG9 G9
          exact fun e => hPa X hX (e ▸ Pg.mut_adr hqX)
        · exact hfP q hq
      have hi4 : pgs.length < 4 := by
        rw [hlen, ← hasks]; exact (List.getElem?_eq_some_iff.mp ha).1
      clear hI1 hI2
      try (with_reducible refine wp_letQ ?_; intro Qz7)
      k_steps
      refine unhold ?_
      (with_reducible rename Fr _ _ _ _ => F3)
      refine fr_let F3 ?_
      clear F3
      intro mz13x F3
      (with_reducible rename News _ _ _ _ => N3)
      refine' page_call (site_of rfl ?k1 ?k2 ?k3 ?k4 rfl ?k5 ?k6 rfl ?k7 ?k8) ?kb ⟨oA, (N3 _ (hold _ hoA')).1, hcA, nA, hdA⟩ hiA (Nat.le_trans hlA (by decide)) hnA hh.1 hh.2 (News.get N3 (by k_mem)) ht1 (News.get N3 (by k_mem)) ht2 ?_
      case k1 => k_asm
      case k2 => k_asm
      case k3 => k_asm
      case k4 => k_asm
      case k5 => exact Nat.le_of_ble_eq_true rfl
      case k6 => exact Nat.le_of_ble_eq_true rfl
      case k7 => exact not_hid N3 (by repeat (first | exact HidIn.nil | refine HidIn.cons (by k_mem) ?_))
      case k8 => exact none_hid N3 (by repeat (first | exact HidIn.nil | refine HidIn.cons (by k_mem) ?_))
      case kb => assumption
      intro p dp l c dc pt tw' tsc ws wl ls ps nl n' hs tkd ti ini h4 gs4 tk4 hb4 kb4 np ndp nl0 nc ndc ep edp el ec edc hls hps hini ⟨tq1, w4, w4'⟩ ⟨tq2, w5, w5'⟩
      have F4 := fr_but F3 kb4 (none_hid N3 (by repeat (first | exact HidIn.nil | refine HidIn.cons (by k_mem) ?_))) (not_hid N3 (by repeat (first | exact HidIn.nil | refine HidIn.cons (by k_mem) ?_)))
      have fresh4 := fun (x : Addr) (e : _ = none) => fresh_ne (T := x) N3 e
      refine gen_goal fun G9 hG9 => ?_
      obtain ⟨tt, httN, httI, httc⟩ := parts_in F4 hps
      refine hG9 ?_
      clear hG9 G9
      clear hps
      have N4 : News g L' h4 ((p, instObj 115 dp) :: (dp, pageDict pt (.int a.wid tw') ws wl (.str (Str.ofString " ") tsc) (.ref l) (.ref c)) :: (l, listOf ls.toArray nl) :: (c, accObj dc ps.toArray n') :: (dc, accDict hs tkd (.int ini ti)) :: (I, io) :: (PL, listOf (List.toArray (pgs.map fun P : Pg => Value.ref P.T)) nP) :: (161, tabObj tq1) :: (168, tabObj tq2) :: (tt ++ rest)) := by
        intro q hq
        revert q
        refine all_cons ?_ ?_
        · exact ⟨ep, new_in F3 np⟩
        refine all_cons ?_ ?_
        · exact ⟨edp, new_in F3 ndp⟩
        refine all_cons ?_ ?_
        · exact ⟨el, new_in F3 nl0⟩
        refine all_cons ?_ ?_
        · exact ⟨ec, new_in F3 nc⟩
        refine all_cons ?_ ?_
        · exact ⟨edc, new_in F3 ndc⟩
        refine all_cons ?_ ?_
        · exact ⟨kb4 _ _ hIT (N3 _ (.head _)).1, (N3 _ (.head _)).2⟩
        refine all_cons ?_ ?_
        · exact ⟨kb4 _ _ hPL (N3 _ (.tail _ (.head _))).1, (N3 _ (.tail _ (.head _))).2⟩
        refine all_cons ?_ ?_
        · exact ⟨w4, (N3 _ (.tail _ (.tail _ (.head _)))).2⟩
        refine all_cons ?_ ?_
        · exact ⟨w5, (N3 _ (.tail _ (.tail _ (.tail _ (.head _))))).2⟩
        refine all_app ?_ ?_
        · intro q hq
          exact httN q hq
        intro q hq
        exact ⟨kb4 _ _ (hrT _ hq) (N3 _ (hold _ hq)).1, (N3 _ (hold _ hq)).2⟩
      have fp := fresh4 p np
      have fdp := fresh4 dp ndp
      have fl := fresh4 l nl0
      have fc := fresh4 c nc
      have fdc := fresh4 dc ndc
      obtain ⟨rest1, hrest1⟩ : ∃ r, r = tt ++ rest := ⟨_, rfl⟩
      rw [← hrest1] at N4
      have hoA1 : (a.A, oA) ∈ rest1 := by rw [hrest1]; exact List.mem_append_right _ hoA'
      clear httN fresh4 F3 N3 kb4 np ndp nl0 nc ndc ep edp el ec edc w4 w5
      refine gen_state ?_
      intro tkB
      (try dsimp only)
      try (with_reducible refine wp_letQ ?_; intro Qz8)
      k_steps
      refine unhold ?_
      (with_reducible rename Fr _ _ _ _ => F5)
      refine fr_let F5 ?_
      clear F5
      intro mz14x F5
      (with_reducible rename News _ _ _ _ => N5)
      refine' rows_call (site_of rfl ?k1 ?k2 ?k3 ?k4 rfl ?k5 ?k6 rfl ?k7 ?k8) ?kb ⟨oA, (N5 _ (.tail _ (.tail _ (.tail _ (.tail _ (.tail _ (.tail _ (.tail _ (.tail _ (.tail _ hoA1)))))))))).1, hcA, nA, hdA⟩ hiA (Nat.le_trans hlA (by decide)) (fun n hn => (hnA n hn).1) ?_
      case k1 => k_asm
      case k2 => k_asm
      case k3 => k_asm
      case k4 => k_asm
      case k5 => exact Nat.le_of_ble_eq_true rfl
      case k6 => exact Nat.le_of_ble_eq_true rfl
      case k7 => exact List.not_mem_nil
      case k8 => exact fun b hb => nomatch hb
      case kb => assumption
      intro R us h6 gs6 tk6 hb6 kb6 nR elR hus hRows
      refine gen_goal fun G9 hG9 => ?_
      obtain ⟨oR, hoR, hcR, nR', hdR⟩ := elR
      refine hG9 ?_
      clear hG9 G9
      refine gen_goal fun G9 hG9 => ?_
      obtain ⟨ro, hro, hroF⟩ := rows_fr hRows
      refine hG9 ?_
      clear hG9 G9
      have F6 := fr_keep F5 kb6
      have fR := fresh_ne N5 nR
      have fro : ∀ a, Value.ref a ∈ us → _ := fun a ha => fresh_ne (T := a) N5 (hus a ha).1
      have N6 : News g L' h6 ((R, oR) :: (p, instObj 115 dp) :: (dp, pageDict pt (.int a.wid tw') ws wl (.str (Str.ofString " ") tsc) (.ref l) (.ref c)) :: (l, listOf ls.toArray nl) :: (c, accObj dc ps.toArray n') :: (dc, accDict hs tkd (.int ini ti)) :: (I, io) :: (PL, listOf (List.toArray (pgs.map fun P : Pg => Value.ref P.T)) nP) :: (161, tabObj tq1) :: (168, tabObj tq2) :: (ro ++ rest1)) := by
        have N6' := news_keep N5 kb6
        intro q hq
        rcases List.mem_cons.mp hq with rfl | hq
        · exact ⟨hoR, new_in F5 nR⟩
        by_cases hq2 : q ∈ ro
        · exact ⟨(hro q hq2).1, new_in F5 (hus _ (hro q hq2).2).1⟩
        · refine N6' q ?_
          repeat (first | (rcases List.mem_cons.mp hq with h | hq; · first | exact absurd h hq2 | exact mem_of_eq h (by repeat (first | exact List.Mem.head _ | refine List.Mem.tail _ ?_))))
          rcases List.mem_append.mp hq with hq | hq
          · exact absurd hq hq2
          refine mem_of_sub hq ?_
          ((repeat' (first | exact mem_sub_nil | refine mem_sub_cons ?_ ?_ | refine mem_sub_app ?_ ?_)); all_goals (repeat (first | exact List.Mem.head _ | refine List.Mem.tail _ ?_ | exact mem_sub_refl | exact mem_sub_left | refine mem_sub_tail ?_ | refine mem_sub_right ?_)))
      obtain ⟨rest2, hrest2⟩ : ∃ r, r = ro ++ rest1 := ⟨_, rfl⟩
      rw [← hrest2] at N6
      clear F5 N5 kb6
      refine gen_state ?_
      intro tkC
      (try dsimp only)
      try (with_reducible refine wp_letQ ?_; intro Qz9)
      k_steps
      refine unhold ?_
      (with_reducible rename Fr _ _ _ _ => F7)
      refine fr_let F7 ?_
      clear F7
      intro mz15x F7
      (with_reducible rename News _ _ _ _ => N7)
      refine gen_goal fun G9 hG9 => ?_
      obtain ⟨hg1, hg2, hg3, hg4, hg5, hg6, hg7, hg8, hg9, hg10, hg11, hg12, hg13, hg14⟩ := page_facts (wid := a.wid) hh.1 hh.2 hneA hlA hnA
      refine hG9 ?_
      clear hG9 G9
      have hlR : Heap.IsList _ R us.toArray := ⟨oR, (N7 _ (.head _)).1, hcR, nR', hdR⟩
      have hRows7 : RowsAt _ us (lawRows nsA a.wid a.head) := hroF.at fun q hq => (N7 q (by rw [hrest2]; exact (.tail _ (.tail _ (.tail _ (.tail _ (.tail _ (.tail _ (.tail _ (.tail _ (.tail _ (.tail _ (List.mem_append_left _ hq))))))))))))).1
      refine assign_rows (R := R) (us := us) (rows := lawRows nsA a.wid a.head) dueRow rfl (by first | rfl | kernel_rfl) rfl (by decide) rfl (by decide) rfl rfl rfl rfl ?kev F7 N7 hlR hRows7 (by rw [hRows7.length]; (first | lia | omega)) ?kte ?kel ?_
      case kev =>
        intro Q' hq
        try (with_reducible refine wp_letQ ?_; intro Qz10)
        k_steps
        exact hq
      case kte =>
        intro C b ub r s₃ m₃ E' hr hl hi hns hm
        exact row_test rfl (by first | rfl | kernel_rfl) (by decide) rfl hl hi hns hm (Nat.le_of_ble_eq_true rfl)
      case kel =>
        intro C b ub r s₃ m₃ E' hr hl hi hns hm
        refine row_elt rfl rfl (by decide) rfl (by decide) rfl rfl (by decide) (by decide) rfl (by first | rfl | kernel_rfl) (by decide) rfl (fun C => rfl) (fun C => rfl) hl hi (Nat.le_trans (hg10 r hr).1 (by decide)) (hg10 r hr).2 hns hm (fun x => rfl) (fun C x => rfl)
      intro DU h8 tk8 ys nD F8 N8 hDn hys hfys
      have fD := hDn
      have fys : ∀ b, Value.ref b ∈ ys → b ∉ [L', l, c, dc, 161, 168] := fun b hb => by
        simp only [List.mem_cons, List.not_mem_nil, or_false, not_or]
        have e := (hfys b hb).1
        exact ⟨(new_in F7 e).1, Ne.symm (fresh_ne N7 e _ (.tail _ (.tail _ (.tail _ (.head _))))), Ne.symm (fresh_ne N7 e _ (.tail _ (.tail _ (.tail _ (.tail _ (.head _)))))), Ne.symm (fresh_ne N7 e _ (.tail _ (.tail _ (.tail _ (.tail _ (.tail _ (.head _))))))), Ne.symm (fresh_ne N7 e _ (.tail _ (.tail _ (.tail _ (.tail _ (.tail _ (.tail _ (.tail _ (.tail _ (.head _)))))))))), Ne.symm (fresh_ne N7 e _ (.tail _ (.tail _ (.tail _ (.tail _ (.tail _ (.tail _ (.tail _ (.tail _ (.tail _ (.head _)))))))))))⟩
      clear F7 N7 hDn
      (try dsimp only)
      refine gen_state ?_
      intro tkD
      (try dsimp only)
      try (with_reducible refine wp_letQ ?_; intro Qz11)
      k_steps
      refine unhold ?_
      (with_reducible rename Fr _ _ _ _ => F9)
      refine fr_let F9 ?_
      clear F9
      intro mz16x F9
      (with_reducible rename News _ _ _ _ => N9)
      have hp9 := httI.at F9 fun q hq => N9 q (.tail _ (.tail _ (.tail _ (.tail _ (.tail _ (.tail _ (.tail _ (.tail _ (.tail _ (.tail _ (.tail _ (by rw [hrest2, hrest1]; exact List.mem_append_right _ (List.mem_append_left _ hq)))))))))))))
      subst hini
      refine law_read (ls := ls) (qs := (pageOf a.wid a.head nsA).2.1) (lsx := (pageOf a.wid a.head nsA).1) (nl := nl) (ps := ps) (ep := n') (tp1 := tq1) (tp2 := tq2) rfl (Nat.le_of_ble_eq_true rfl) (Nat.le_of_ble_eq_true rfl) rfl rfl B F9 KX KT KX KT (not_hid N9 ?kh1) (none_hid N9 ?kh2) (by assumption) (N9 _ (.tail _ (.tail _ (.head _)))).1 (N9 _ (.tail _ (.tail _ (.tail _ (.head _))))).1 (N9 _ (.tail _ (.tail _ (.tail _ (.tail _ (.head _)))))).1 (N9 _ (.tail _ (.tail _ (.tail _ (.tail _ (.tail _ (.head _))))))).1 (N9 _ (.tail _ (.tail _ (.tail _ (.tail _ (.tail _ (.tail _ (.head _)))))))).1 (N9 _ (.tail _ (.tail _ (.tail _ (.tail _ (.tail _ (.tail _ (.tail _ (.tail _ (.tail _ (.head _))))))))))).1 w4' (N9 _ (.tail _ (.tail _ (.tail _ (.tail _ (.tail _ (.tail _ (.tail _ (.tail _ (.tail _ (.tail _ (.head _)))))))))))).1 w5' hls hp9 hg2 hg3 hg4 ?khl hg6 hg7 hg8 ((lawRows nsA a.wid a.head).map digs) hg1 hg9 ?_
      case kh1 => repeat (first | exact HidIn.nil | refine HidIn.cons (by k_mem) ?_)
      case kh2 => repeat (first | exact HidIn.nil | refine HidIn.cons (by k_mem) ?_)
      case khl => exact hls.length ▸ hg5
      intro R2 us2 h10 gs10 tk10 ls' nl' n2 t0 hb10 F10 kb10 el ec edc ⟨tr1, w6, w6'⟩ ⟨tr2, w7, w7'⟩ hls' nR2 hlR2 hRows2
      have hk10 := keep10 N9 kb10
      have N10 : News g L' h10 ((DU, listOf (List.toArray ys) nD) :: (R, oR) :: (p, instObj 115 dp) :: (dp, pageDict pt (.int a.wid tw') ws wl (.str (Str.ofString " ") tsc) (.ref l) (.ref c)) :: (l, listOf ls'.toArray nl') :: (c, accObj dc #[] n2) :: (dc, accDict hs tkd (.int 0 t0)) :: (I, io) :: (PL, listOf (List.toArray (pgs.map fun P : Pg => Value.ref P.T)) nP) :: (161, tabObj tr1) :: (168, tabObj tr2) :: (ro ++ rest)) := by
        intro q hq
        revert q
        refine all_cons ?_ ?_
        · exact hk10 _ _ (.head _) (Ne.symm (fD _ (.tail _ (.tail _ (.tail _ (.head _)))))) (Ne.symm (fD _ (.tail _ (.tail _ (.tail _ (.tail _ (.head _))))))) (Ne.symm (fD _ (.tail _ (.tail _ (.tail _ (.tail _ (.tail _ (.head _)))))))) (Ne.symm (fD _ (.tail _ (.tail _ (.tail _ (.tail _ (.tail _ (.tail _ (.tail _ (.tail _ (.head _))))))))))) (Ne.symm (fD _ (.tail _ (.tail _ (.tail _ (.tail _ (.tail _ (.tail _ (.tail _ (.tail _ (.tail _ (.head _))))))))))))
        refine all_cons ?_ ?_
        · exact hk10 _ _ (.tail _ (.head _)) (Ne.symm (fR _ (.tail _ (.tail _ (.head _))))) (Ne.symm (fR _ (.tail _ (.tail _ (.tail _ (.head _)))))) (Ne.symm (fR _ (.tail _ (.tail _ (.tail _ (.tail _ (.head _))))))) (Ne.symm (fR _ (.tail _ (.tail _ (.tail _ (.tail _ (.tail _ (.tail _ (.tail _ (.head _)))))))))) (Ne.symm (fR _ (.tail _ (.tail _ (.tail _ (.tail _ (.tail _ (.tail _ (.tail _ (.tail _ (.head _)))))))))))
        refine all_cons ?_ ?_
        · exact hk10 _ _ (.tail _ (.tail _ (.head _))) (obj_tag N9 (.tail _ (.tail _ (.head _))) (.tail _ (.tail _ (.tail _ (.tail _ (.head _))))) (by with_unfolding_all rfl)) (obj_tag N9 (.tail _ (.tail _ (.head _))) (.tail _ (.tail _ (.tail _ (.tail _ (.tail _ (.head _)))))) (by with_unfolding_all rfl)) (obj_tag N9 (.tail _ (.tail _ (.head _))) (.tail _ (.tail _ (.tail _ (.tail _ (.tail _ (.tail _ (.head _))))))) (by with_unfolding_all rfl)) (obj_tag N9 (.tail _ (.tail _ (.head _))) (.tail _ (.tail _ (.tail _ (.tail _ (.tail _ (.tail _ (.tail _ (.tail _ (.tail _ (.head _)))))))))) (by with_unfolding_all rfl)) (obj_tag N9 (.tail _ (.tail _ (.head _))) (.tail _ (.tail _ (.tail _ (.tail _ (.tail _ (.tail _ (.tail _ (.tail _ (.tail _ (.tail _ (.head _))))))))))) (by with_unfolding_all rfl))
        refine all_cons ?_ ?_
        · exact hk10 _ _ (.tail _ (.tail _ (.tail _ (.head _)))) (obj_tag N9 (.tail _ (.tail _ (.tail _ (.head _)))) (.tail _ (.tail _ (.tail _ (.tail _ (.head _))))) (by with_unfolding_all rfl)) (obj_tag N9 (.tail _ (.tail _ (.tail _ (.head _)))) (.tail _ (.tail _ (.tail _ (.tail _ (.tail _ (.head _)))))) (by with_unfolding_all rfl)) (obj_tag N9 (.tail _ (.tail _ (.tail _ (.head _)))) (.tail _ (.tail _ (.tail _ (.tail _ (.tail _ (.tail _ (.head _))))))) (by with_unfolding_all rfl)) (obj_tag N9 (.tail _ (.tail _ (.tail _ (.head _)))) (.tail _ (.tail _ (.tail _ (.tail _ (.tail _ (.tail _ (.tail _ (.tail _ (.tail _ (.head _)))))))))) (by with_unfolding_all rfl)) (obj_tag N9 (.tail _ (.tail _ (.tail _ (.head _)))) (.tail _ (.tail _ (.tail _ (.tail _ (.tail _ (.tail _ (.tail _ (.tail _ (.tail _ (.tail _ (.head _))))))))))) (by with_unfolding_all rfl))
        refine all_cons ?_ ?_
        · exact ⟨el, (N9 _ (.tail _ (.tail _ (.tail _ (.tail _ (.head _)))))).2⟩
        refine all_cons ?_ ?_
        · exact ⟨ec, (N9 _ (.tail _ (.tail _ (.tail _ (.tail _ (.tail _ (.head _))))))).2⟩
        refine all_cons ?_ ?_
        · exact ⟨edc, (N9 _ (.tail _ (.tail _ (.tail _ (.tail _ (.tail _ (.tail _ (.head _)))))))).2⟩
        refine all_cons ?_ ?_
        · exact hk10 _ _ (.tail _ (.tail _ (.tail _ (.tail _ (.tail _ (.tail _ (.tail _ (.head _)))))))) (fl _ (.head _)) (fc _ (.head _)) (fdc _ (.head _)) (tab_not hIT).1 (tab_not hIT).2
        refine all_cons ?_ ?_
        · exact hk10 _ _ (.tail _ (.tail _ (.tail _ (.tail _ (.tail _ (.tail _ (.tail _ (.tail _ (.head _))))))))) (fl _ (.tail _ (.head _))) (fc _ (.tail _ (.head _))) (fdc _ (.tail _ (.head _))) (tab_not hPL).1 (tab_not hPL).2
        refine all_cons ?_ ?_
        · exact ⟨w6, (N9 _ (.tail _ (.tail _ (.tail _ (.tail _ (.tail _ (.tail _ (.tail _ (.tail _ (.tail _ (.head _))))))))))).2⟩
        refine all_cons ?_ ?_
        · exact ⟨w7, (N9 _ (.tail _ (.tail _ (.tail _ (.tail _ (.tail _ (.tail _ (.tail _ (.tail _ (.tail _ (.tail _ (.head _)))))))))))).2⟩
        refine all_app ?_ ?_
        · intro q hq
          have e := (hro q hq).2
          exact hk10 _ _ (.tail _ (.tail _ (.tail _ (.tail _ (.tail _ (.tail _ (.tail _ (.tail _ (.tail _ (.tail _ (.tail _ (by rw [hrest2]; exact List.mem_append_left _ hq)))))))))))) (Ne.symm (fro _ e _ (.tail _ (.tail _ (.head _))))) (Ne.symm (fro _ e _ (.tail _ (.tail _ (.tail _ (.head _)))))) (Ne.symm (fro _ e _ (.tail _ (.tail _ (.tail _ (.tail _ (.head _))))))) (Ne.symm (fro _ e _ (.tail _ (.tail _ (.tail _ (.tail _ (.tail _ (.tail _ (.tail _ (.head _)))))))))) (Ne.symm (fro _ e _ (.tail _ (.tail _ (.tail _ (.tail _ (.tail _ (.tail _ (.tail _ (.tail _ (.head _)))))))))))
        intro q hq
        exact hk10 _ _ (.tail _ (.tail _ (.tail _ (.tail _ (.tail _ (.tail _ (.tail _ (.tail _ (.tail _ (.tail _ (.tail _ (by rw [hrest2, hrest1]; exact List.mem_append_right _ (List.mem_append_right _ hq))))))))))))) (fl _ (.tail _ (.tail _ (.tail _ (.tail _ hq))))) (fc _ (.tail _ (.tail _ (.tail _ (.tail _ hq))))) (fdc _ (.tail _ (.tail _ (.tail _ (.tail _ hq))))) (tab_not (hrT q hq)).1 (tab_not (hrT q hq)).2
      obtain ⟨rest3, hrest3⟩ : ∃ r, r = ro ++ rest := ⟨_, rfl⟩
      rw [← hrest3] at N10
      have hys10 : Heap.IsList h10 DU ys.toArray := ⟨_, (N10 _ (.head _)).1, rfl, _, rfl⟩
      have hysR10 := rowsAt_but kb10 hys fys
      clear N9 F9 kb10 hk10 hys
      try (with_reducible refine wp_letQ ?_; intro Qz12)
      k_steps
      refine unhold ?_
      refine ne_rows hlR2 hRows2 hys10 hysR10 (Nat.le_of_ble_eq_true rfl) ?_
      rw [due_eq (fun r hr x hx => ((hg10 r hr).2 x hx).1), same_rows_b]
      clear hlR2 hRows2 hys10 hysR10
      try (with_reducible refine wp_letQ ?_; intro Qz13)
      k_steps
      refine unhold ?_
      (with_reducible rename Fr _ _ _ _ => F11)
      refine fr_let F11 ?_
      clear F11
      intro mz17x F11
      (with_reducible rename News _ _ _ _ => N11)
      rename_i TT h12 hltT
      have hm3 : ∀ q ∈ rest, q ∈ rest3 := fun q hq => by rw [hrest3]; exact List.mem_append_right _ hq
      have hm1 : ∀ q ∈ rest, q ∈ rest1 := fun q hq => by rw [hrest1]; exact List.mem_append_right _ hq
      have hlR3 : Away TT rest3 := allLt_away hltT.2.2.2.2.2.2.2.2.2.2.2
      have hroA : ∀ q ∈ ro, Away q.1 rest ∧ q.1 ≠ 161 ∧ q.1 ≠ 168 ∧ q.1 ≠ l ∧ q.1 ≠ c ∧ q.1 ≠ dc ∧ q.1 ≠ I ∧ q.1 ≠ PL := fun q hq => by
        have e := (hro q hq).2
        exact ⟨fun z hz => fro _ e z (.tail _ (.tail _ (.tail _ (.tail _ (.tail _ (.tail _ (.tail _ (.tail _ (.tail _ (hm1 z hz)))))))))), Ne.symm (fro _ e _ (.tail _ (.tail _ (.tail _ (.tail _ (.tail _ (.tail _ (.tail _ (.head _))))))))), Ne.symm (fro _ e _ (.tail _ (.tail _ (.tail _ (.tail _ (.tail _ (.tail _ (.tail _ (.tail _ (.head _)))))))))), Ne.symm (fro _ e _ (.tail _ (.tail _ (.head _)))), Ne.symm (fro _ e _ (.tail _ (.tail _ (.tail _ (.head _))))), Ne.symm (fro _ e _ (.tail _ (.tail _ (.tail _ (.tail _ (.head _)))))), Ne.symm (fro _ e _ (.tail _ (.tail _ (.tail _ (.tail _ (.tail _ (.head _))))))), Ne.symm (fro _ e _ (.tail _ (.tail _ (.tail _ (.tail _ (.tail _ (.tail _ (.head _))))))))⟩
      have hnp := pgs_new (P := ⟨TT, p, dp, l, c, dc, R, pt, .int a.wid tw', ws, wl, .str (Str.ofString " ") tsc, ls', nl', n2, hs, tkd, t0, us, lawRows nsA a.wid a.head⟩) (oT := { cls := .type "tuple", data := .seq #[.ref p, .ref R] }) (oR := oR) hrest hpgs rfl ⟨_, rfl⟩ hcR ⟨nR', hdR⟩ hroF (hg1 ▸ hls') (rows_good hh.1 hh.2 hneA hlA hnA) (by
        intro b hb
        revert b
        refine all_cons ?_ ?_
        · exact ⟨fun q hq => fl q (.tail _ (.tail _ (.tail _ (.tail _ hq)))), Ne.symm (fl _ (.tail _ (.tail _ (.head _)))), Ne.symm (fl _ (.tail _ (.tail _ (.tail _ (.head _)))))⟩
        refine all_cons ?_ ?_
        · exact ⟨fun q hq => fc q (.tail _ (.tail _ (.tail _ (.tail _ hq)))), Ne.symm (fc _ (.tail _ (.tail _ (.head _)))), Ne.symm (fc _ (.tail _ (.tail _ (.tail _ (.head _)))))⟩
        refine all_cons ?_ ?_
        · exact ⟨fun q hq => fdc q (.tail _ (.tail _ (.tail _ (.tail _ hq)))), Ne.symm (fdc _ (.tail _ (.tail _ (.head _)))), Ne.symm (fdc _ (.tail _ (.tail _ (.tail _ (.head _)))))⟩
        refine all_cons ?_ ?_
        · exact ⟨fun q hq => hlR3 q (hm3 q hq), by dsimp only; k_ne, by dsimp only; k_ne⟩
        refine all_cons ?_ ?_
        · exact ⟨fun q hq => fR q (.tail _ (.tail _ (.tail _ (.tail _ (.tail _ (.tail _ (.tail _ (.tail _ (.tail _ (hm1 q hq)))))))))), Ne.symm (fR _ (.tail _ (.tail _ (.tail _ (.tail _ (.tail _ (.tail _ (.tail _ (.head _))))))))), Ne.symm (fR _ (.tail _ (.tail _ (.tail _ (.tail _ (.tail _ (.tail _ (.tail _ (.tail _ (.head _))))))))))⟩
        refine all_cons ?_ ?_
        · exact ⟨fun q hq => fp q (.tail _ (.tail _ (.tail _ (.tail _ hq)))), Ne.symm (fp _ (.tail _ (.tail _ (.head _)))), Ne.symm (fp _ (.tail _ (.tail _ (.tail _ (.head _)))))⟩
        refine all_cons ?_ all_nil
        exact ⟨fun q hq => fdp q (.tail _ (.tail _ (.tail _ (.tail _ hq)))), Ne.symm (fdp _ (.tail _ (.tail _ (.head _)))), Ne.symm (fdp _ (.tail _ (.tail _ (.tail _ (.head _)))))⟩) (by
        intro b hb
        revert b
        refine all_cons ?_ ?_
        · exact ⟨by dsimp only; k_ne, by dsimp only; k_ne, by dsimp only; k_ne⟩
        refine all_cons ?_ ?_
        · exact ⟨Ne.symm (fR _ (.tail _ (.tail _ (.head _)))), Ne.symm (fR _ (.tail _ (.tail _ (.tail _ (.head _))))), Ne.symm (fR _ (.tail _ (.tail _ (.tail _ (.tail _ (.head _))))))⟩
        refine all_cons ?_ ?_
        · exact ⟨(obj_tag N11 (.tail _ (.tail _ (.tail _ (.head _)))) (.tail _ (.tail _ (.tail _ (.tail _ (.tail _ (.head _)))))) (by with_unfolding_all rfl)), (obj_tag N11 (.tail _ (.tail _ (.tail _ (.head _)))) (.tail _ (.tail _ (.tail _ (.tail _ (.tail _ (.tail _ (.head _))))))) (by with_unfolding_all rfl)), (obj_tag N11 (.tail _ (.tail _ (.tail _ (.head _)))) (.tail _ (.tail _ (.tail _ (.tail _ (.tail _ (.tail _ (.tail _ (.head _)))))))) (by with_unfolding_all rfl))⟩
        refine all_cons ?_ all_nil
        exact ⟨(obj_tag N11 (.tail _ (.tail _ (.tail _ (.tail _ (.head _))))) (.tail _ (.tail _ (.tail _ (.tail _ (.tail _ (.head _)))))) (by with_unfolding_all rfl)), (obj_tag N11 (.tail _ (.tail _ (.tail _ (.tail _ (.head _))))) (.tail _ (.tail _ (.tail _ (.tail _ (.tail _ (.tail _ (.head _))))))) (by with_unfolding_all rfl)), (obj_tag N11 (.tail _ (.tail _ (.tail _ (.tail _ (.head _))))) (.tail _ (.tail _ (.tail _ (.tail _ (.tail _ (.tail _ (.tail _ (.head _)))))))) (by with_unfolding_all rfl))⟩) (fun q hq => ⟨(hroA q hq).1, (hroA q hq).2.1, (hroA q hq).2.2.1, (hroA q hq).2.2.2.1, (hroA q hq).2.2.2.2.1, (hroA q hq).2.2.2.2.2.1⟩)
      have N12 := news_sub N11 (b := (PL, listOf (List.toArray (pgs.map fun P : Pg => Value.ref P.T)) nP) :: (TT, { cls := .type "tuple", data := .seq #[.ref p, .ref R] }) :: (R, oR) :: (p, instObj 115 dp) :: (dp, pageDict pt (.int a.wid tw') ws wl (.str (Str.ofString " ") tsc) (.ref l) (.ref c)) :: (l, listOf (List.toArray ls') nl') :: (c, accObj dc #[] n2) :: (dc, accDict hs tkd (.int 0 t0)) :: (I, io) :: (161, tabObj tr1) :: (168, tabObj tr2) :: rest3) (fun q hq => by
        revert q
        ((repeat' (first | exact mem_sub_nil | refine mem_sub_cons ?_ ?_ | refine mem_sub_app ?_ ?_)); all_goals (repeat (first | exact List.Mem.head _ | refine List.Mem.tail _ ?_ | exact mem_sub_refl | exact mem_sub_left | refine mem_sub_tail ?_ | refine mem_sub_right ?_))))
      refine append_K F11 N12 (UpdF.head fun q hq => ?_) ?_ ?_
      · rw [hrest3] at hq
        revert q
        refine all_cons ?_ ?_
        · (try dsimp only); k_ne
        refine all_cons ?_ ?_
        · exact Ne.symm (fR _ (.tail _ (.tail _ (.tail _ (.tail _ (.tail _ (.tail _ (.head _))))))))
        refine all_cons ?_ ?_
        · exact Ne.symm (fp _ (.tail _ (.head _)))
        refine all_cons ?_ ?_
        · exact Ne.symm (fdp _ (.tail _ (.head _)))
        refine all_cons ?_ ?_
        · exact Ne.symm (fl _ (.tail _ (.head _)))
        refine all_cons ?_ ?_
        · exact Ne.symm (fc _ (.tail _ (.head _)))
        refine all_cons ?_ ?_
        · exact Ne.symm (fdc _ (.tail _ (.head _)))
        refine all_cons ?_ ?_
        · exact Ne.symm hPI
        refine all_cons ?_ ?_
        · exact Ne.symm (tab_not hPL).1
        refine all_cons ?_ ?_
        · exact Ne.symm (tab_not hPL).2
        refine all_app ?_ ?_
        · intro q hq
          exact (hroA q hq).2.2.2.2.2.2.2
        intro q hq
        exact hrP q hq
      · rw [List.length_map, sizeLine_eq]; (first | lia | omega)
      intro h13 F13 N13
      have hsIw : Away I ((PL, listOf #[] 0) :: (161, tabObj tr1) :: (168, tabObj tr2) :: (TT, tabObj #[]) :: (R, oR) :: (p, oR) :: (dp, oR) :: (l, oR) :: (c, oR) :: (dc, oR) :: (ro ++ rest)) := by
        intro q hq
        revert q
        refine all_cons ?_ ?_
        · exact hPI
        refine all_cons ?_ ?_
        · exact Ne.symm (tab_not hIT).1
        refine all_cons ?_ ?_
        · exact Ne.symm (tab_not hIT).2
        refine all_cons ?_ ?_
        · (try dsimp only); k_ne
        refine all_cons ?_ ?_
        · exact Ne.symm (fR _ (.tail _ (.tail _ (.tail _ (.tail _ (.tail _ (.head _)))))))
        refine all_cons ?_ ?_
        · exact Ne.symm (fp _ (.head _))
        refine all_cons ?_ ?_
        · exact Ne.symm (fdp _ (.head _))
        refine all_cons ?_ ?_
        · exact Ne.symm (fl _ (.head _))
        refine all_cons ?_ ?_
        · exact Ne.symm (fc _ (.head _))
        refine all_cons ?_ ?_
        · exact Ne.symm (fdc _ (.head _))
        refine all_app ?_ ?_
        · intro q hq
          exact (hroA q hq).2.2.2.2.2.2.1
        intro q hq
        exact hrI q hq
      clear N11 N12 F11
      try (with_reducible refine wp_letQ ?_; intro Qz14)
      k_steps
      show Hold _
      refine ⟨_, _, _, _, [some (.ref a.A), some (.int a.wid a.t), some (.int a.head a.u), some (.ref p), some (.ref R), some (.ref DU)], (PL, listOf (List.toArray ((pgs ++ [(⟨TT, p, dp, l, c, dc, R, pt, .int a.wid tw', ws, wl, .str (Str.ofString " ") tsc, ls', nl', n2, hs, tkd, t0, us, lawRows nsA a.wid a.head⟩ : Pg)]).map fun P : Pg => Value.ref P.T)) (nP + 1)) :: (161, tabObj tr1) :: (168, tabObj tr2) :: ((pgs ++ [(⟨TT, p, dp, l, c, dc, R, pt, .int a.wid tw', ws, wl, .str (Str.ofString " ") tsc, ls', nl', n2, hs, tkd, t0, us, lawRows nsA a.wid a.head⟩ : Pg)]).flatMap Pg.mut ++ (((TT, { cls := .type "tuple", data := .seq #[.ref p, .ref R] }) :: (R, oR) :: (p, instObj 115 dp) :: (dp, pageDict pt (.int a.wid tw') ws wl (.str (Str.ofString " ") tsc) (.ref l) (.ref c)) :: ro) ++ fz)), rfl, by assumption, F13, by (refine same_fun [Str.ofString "row", Str.ofString "most", Str.ofString "front", Str.ofString "page", Str.ofString "rows", Str.ofString "due"] (by with_unfolding_all exact ⟨rfl, rfl, rfl, rfl, rfl, rfl, trivial⟩) ?_; rintro y ⟨q_row, q_most, q_front, q_page, q_rows, q_due, -⟩; dsimp only [kstO, List.zip_cons_cons, List.zip_nil_right, List.zip_nil_left]; (repeat (refine (if_neg (by with_reducible assumption)).trans ?_)); refine Eq.symm ?_; (repeat (refine (if_neg (by with_reducible assumption)).trans ?_)); rfl), news_sub N13 (fun q hq => ?_), fun q hq => ?_, _, _, _, _, _, _, nP + 1, tr1, tr2, pgs ++ [(⟨TT, p, dp, l, c, dc, R, pt, .int a.wid tw', ws, wl, .str (Str.ofString " ") tsc, ls', nl', n2, hs, tkd, t0, us, lawRows nsA a.wid a.head⟩ : Pg)], (((TT, { cls := .type "tuple", data := .seq #[.ref p, .ref R] }) :: (R, oR) :: (p, instObj 115 dp) :: (dp, pageDict pt (.int a.wid tw') ws wl (.str (Str.ofString " ") tsc) (.ref l) (.ref c)) :: ro) ++ fz), rfl, rfl, w6', w7', by rw [List.length_append, hlen]; rfl, hnp, fun q hq => List.mem_append_right _ (hfz q hq), ?_, ?_⟩
      · rw [hrest3, hrest]
        revert q
        refine all_cons ?_ (all_cons (mem_of_eq (by rw [List.map_append]; rfl) (.head _)) (all_cons ?_ (all_cons ?_ (all_app (all_snoc (fun q h => ?_) (all_cons ?_ (all_cons ?_ (all_cons ?_ all_nil)))) (all_app (all_cons ?_ (all_cons ?_ (all_cons ?_ (all_cons ?_ (fun q h => ?_))))) (fun q h => ?_))))))
        · repeat (first | exact List.Mem.head _ | refine List.Mem.tail _ ?_)
        · repeat (first | exact List.Mem.head _ | refine List.Mem.tail _ ?_)
        · repeat (first | exact List.Mem.head _ | refine List.Mem.tail _ ?_)
        · iterate 11 refine List.Mem.tail _ ?_
          exact List.mem_append_right _ (List.mem_append_left _ h)
        · repeat (first | exact List.Mem.head _ | refine List.Mem.tail _ ?_)
        · repeat (first | exact List.Mem.head _ | refine List.Mem.tail _ ?_)
        · repeat (first | exact List.Mem.head _ | refine List.Mem.tail _ ?_)
        · repeat (first | exact List.Mem.head _ | refine List.Mem.tail _ ?_)
        · repeat (first | exact List.Mem.head _ | refine List.Mem.tail _ ?_)
        · repeat (first | exact List.Mem.head _ | refine List.Mem.tail _ ?_)
        · repeat (first | exact List.Mem.head _ | refine List.Mem.tail _ ?_)
        · iterate 11 refine List.Mem.tail _ ?_
          exact List.mem_append_left _ h
        · iterate 11 refine List.Mem.tail _ ?_
          exact List.mem_append_right _ (List.mem_append_right _ h)
      · revert q
        refine all_cons hPI (all_cons (hsIw (161, _) (.tail _ (.head _))) (all_cons (hsIw (168, _) (.tail _ (.tail _ (.head _)))) (all_app (all_snoc (fun q h => hrI q (by rw [hrest]; exact List.mem_append_left _ h)) (all_cons ?_ (all_cons ?_ (all_cons ?_ all_nil)))) (all_app (all_cons ?_ (all_cons ?_ (all_cons ?_ (all_cons ?_ (fun q h => (hroA q h).2.2.2.2.2.2.1))))) (fun q h => hrI q (by rw [hrest]; exact List.mem_append_right _ h))))))
        · exact show l ≠ I from hsIw (l, oR) (.tail _ (.tail _ (.tail _ (.tail _ (.tail _ (.tail _ (.tail _ (.head _))))))))
        · exact show c ≠ I from hsIw (c, oR) (.tail _ (.tail _ (.tail _ (.tail _ (.tail _ (.tail _ (.tail _ (.tail _ (.head _)))))))))
        · exact show dc ≠ I from hsIw (dc, oR) (.tail _ (.tail _ (.tail _ (.tail _ (.tail _ (.tail _ (.tail _ (.tail _ (.tail _ (.head _))))))))))
        · exact show TT ≠ I from hsIw (TT, tabObj #[]) (.tail _ (.tail _ (.tail _ (.head _))))
        · exact show R ≠ I from hsIw (R, oR) (.tail _ (.tail _ (.tail _ (.tail _ (.head _)))))
        · exact show p ≠ I from hsIw (p, oR) (.tail _ (.tail _ (.tail _ (.tail _ (.tail _ (.head _))))))
        · exact show dp ≠ I from hsIw (dp, oR) (.tail _ (.tail _ (.tail _ (.tail _ (.tail _ (.tail _ (.head _)))))))
      · intro P hP
        rcases List.mem_append.mp hP with hP | hP
        · exact hPa P hP
        · rw [List.mem_singleton.mp hP]
          simp only [Pg.adr, List.mem_cons, List.not_mem_nil, or_false, not_or]
          exact ⟨fl _ (.tail _ (.head _)), fc _ (.tail _ (.head _)), fdc _ (.tail _ (.head _))⟩
      · refine all_app (all_cons ?_ (all_cons ?_ (all_cons ?_ (all_cons ?_ (fun q h => (hroA q h).2.2.2.2.2.2.2))))) hfP
        · (try dsimp only); k_ne
        · exact Ne.symm (fR _ (.tail _ (.tail _ (.tail _ (.tail _ (.tail _ (.tail _ (.head _))))))))
        · exact Ne.symm (fp _ (.tail _ (.head _)))
        · exact Ne.symm (fdp _ (.tail _ (.head _)))
    · intro h gs tk vals news₁ hz7x hgs F2 N2
      refine gen_goal fun G9 hG9 => ?_
      obtain ⟨o1, o2, o3, o4, o5, o6, nP, tp1, tp2, pgs, fz, rfl, rfl, ht1, ht2, hlen, hpgs, hfz, hPa, hfP⟩ := hz7x
      refine hG9 ?_
      clear hG9 G9
      refine fr_let F2 ?_
      clear F2
      intro mz18x F2
      clear F5 N6
      have hlen4 : pgs.length = 4 := by rw [hlen]; simpa using hasks
      obtain ⟨mm, F3⟩ : ∃ mm : Str → Option Value, Fr g L' h (fun z => if z = Str.ofString "pages" then some (.ref PL) else mm z) := ⟨_, fr_same F2 (by with_unfolding_all rfl)⟩
      clear F2
      obtain ⟨K, hK⟩ : ∃ K, pgs.map Pg.key = K := ⟨_, rfl⟩
      have hKl : K.length = 4 := by rw [← hK, List.length_map, hlen4]
      have N3 : News g L' h ((PL, listOf (List.toArray (K.map kref)) nP) :: (161, tabObj tp1) :: (168, tabObj tp2) :: (pgs.flatMap Pg.mut ++ fz)) := by rw [← hK, List.map_map]; exact N2
      clear N2
      obtain ⟨rest, hrest⟩ : ∃ r, r = pgs.flatMap Pg.mut ++ fz := ⟨_, rfl⟩
      rw [← hrest] at N3
      try (with_reducible refine wp_letQ ?_; intro Qz15)
      k_steps
      refine unhold ?_
      (with_reducible rename Fr _ _ _ _ => F4)
      refine fr_let F4 ?_
      clear F4
      intro mz19x F4
      (with_reducible rename News _ _ _ _ => N4)
      refine kmk_slice_lit F4 N4 ⟨_, (N4 _ (.head _)).1, rfl, _, rfl⟩ .none (.int _ _) (slice_take2 hKl) (fun SL h5 F5 N5 lt5 => ?_) (by with_unfolding_all rfl) (by kmk_pure) (by rw [List.size_toArray, List.length_map, hKl]; exact Nat.le_of_ble_eq_true rfl)
      clear F4 N4
      (try dsimp only)
      try (with_reducible refine wp_letQ ?_; intro Qz16)
      k_steps
      refine unhold ?_
      (with_reducible rename Fr _ _ _ _ => F6)
      refine fr_let F6 ?_
      clear F6
      intro mz20x F6
      (with_reducible rename News _ _ _ _ => N6)
      have hexP : ∀ q ∈ [(SL, listOf (List.toArray ((K.take 2).map kref)) 0), (PL, listOf (List.toArray (K.map kref)) nP)], (∀ P ∈ pgs, q.1 ∉ P.adr) ∧ q.1 ∉ ([161, 168] : List Addr) := by
        intro q hq
        revert q
        refine all_cons ?_ ?_
        · refine ⟨Pgs.away fun z hz => Nat.ne_of_lt (lt5 z (.tail _ (.tail _ (.tail _ (by rw [hrest]; exact List.mem_append_left _ hz))))), ?_⟩
          simp only [List.mem_cons, List.not_mem_nil, or_false, not_or]
          exact ⟨Ne.symm (Nat.ne_of_lt (lt5 (161, _) (.tail _ (.head _)))), Ne.symm (Nat.ne_of_lt (lt5 (168, _) (.tail _ (.tail _ (.head _)))))⟩
        refine all_cons ?_ all_nil
        exact ⟨hPa, hPL⟩
      obtain ⟨ex, hex⟩ : ∃ e, e = [(SL, listOf (List.toArray ((K.take 2).map kref)) 0), (PL, listOf (List.toArray (K.map kref)) nP)] := ⟨_, rfl⟩
      rw [← hex] at hexP
      have N7 := news_sub N6 (b := (161, tabObj tp1) :: (168, tabObj tp2) :: (ex ++ (pgs.flatMap Pg.mut ++ fz))) (fun q hq => by
        rw [hex] at hq
        rw [hrest]
        revert q
        ((repeat' (first | exact mem_sub_nil | refine mem_sub_cons ?_ ?_ | refine mem_sub_app ?_ ?_)); all_goals (repeat (first | exact List.Mem.head _ | refine List.Mem.tail _ ?_ | exact mem_sub_refl | exact mem_sub_left | refine mem_sub_tail ?_ | refine mem_sub_right ?_))))
      clear N6
      refine iter_v (items := List.toArray ((K.take 2).map kref)) [Str.ofString "page", Str.ofString "rows", Str.ofString "other", Str.ofString "lines", Str.ofString "flat", Str.ofString "line", Str.ofString "told"] (J3 K ex fz 7) (upd3 K 0 (Str.ofString "page") (Str.ofString "rows")) F6 N7 (by assumption) ?_ ?_ ?_ ?_ ?_ ?_ rfl
      · exact ⟨_, _, pgs, rfl, rfl, ht1, ht2, hpgs, hK, fun q hq => (hexP q hq).1⟩
      · intro i vals news₁ h hz8x N2 _
        refine gen_goal fun G9 hG9 => ?_
        obtain ⟨tp1, tp2, pgs, hvl, rfl, ht1, ht2, hpgs, hK, hexA⟩ := hz8x
        refine hG9 ?_
        clear hG9 G9
        exact ⟨_, (N2 (SL, _) (.tail _ (.tail _ (List.mem_append_left _ (by rw [hex]; exact .head _))))).1, rfl, _, rfl⟩
      · rintro i v vals news₁ s₁ I Q' hv _ hit hq
        refine gen_goal fun G9 hG9 => ?_
        obtain ⟨k, hi2, hk, hkd, rfl⟩ := take_at hv
        refine hG9 ?_
        clear hG9 G9
        exact go_tup hit hq
      · intro i v vals m₁ news₁ s₁ Q' hv hz9x F2 N2 hq
        refine gen_goal fun G9 hG9 => ?_
        obtain ⟨tp1, tp2, pgs, hvl, rfl, ht1, ht2, hpgs, hK, hexA⟩ := hz9x
        refine hG9 ?_
        clear hG9 G9
        refine gen_goal fun G9 hG9 => ?_
        obtain ⟨k, hi2, hk, hkd, rfl⟩ := take_at hv
        refine hG9 ?_
        clear hG9 G9
        refine gen_goal fun G9 hG9 => ?_
        obtain ⟨P, hP, e1, e2, e3⟩ := key_at hK hk
        refine hG9 ?_
        clear hG9 G9
        refine gen_goal fun G9 hG9 => ?_
        obtain ⟨o, ho, hc, n, hd⟩ := (hpgs.each P (List.mem_of_getElem? hP)).hT
        refine hG9 ?_
        clear hG9 G9
        refine asg2 rfl rfl rfl rfl F2 (T := k.1) (v := .ref k.2.1) (u := .ref k.2.2) ⟨o, (e1 ▸ N2 _ (.tail _ (.tail _ (List.mem_append_right _ (List.mem_append_right _ ho))))).1, hc, n, by rw [← e2, ← e3]; exact hd⟩ fun h' tk' F3 hk => hq h' tk' ?_ hk
        unfold upd3
        rw [Nat.add_zero, hkd]
        exact F3
      · intro i v vals news₁ h gs tk I io hv hz10x hgs hio hI1 hI2 F2 N2
        refine gen_goal fun G9 hG9 => ?_
        obtain ⟨tp1, tp2, pgs, hvl, rfl, ht1, ht2, hpgs, hK, hexA⟩ := hz10x
        refine hG9 ?_
        clear hG9 G9
        refine gen_goal fun G9 hG9 => ?_
        obtain ⟨o1, o2, o3, o4, o5, o6, o7, rfl⟩ := len7 hvl
        refine hG9 ?_
        clear hG9 G9
        refine gen_goal fun G9 hG9 => ?_
        obtain ⟨k, hi2, hk, hkd, rfl⟩ := take_at hv
        refine hG9 ?_
        clear hG9 G9
        unfold upd3 at F2
        rw [Nat.add_zero, hkd] at F2
        dsimp only [kstO, List.zip_cons_cons, List.zip_nil_right] at F2
        clear F6 N7
        obtain ⟨rest, hrest⟩ : ∃ r, r = ex ++ (pgs.flatMap Pg.mut ++ fz) := ⟨_, rfl⟩
        rw [← hrest] at N2
        try (with_reducible refine wp_letQ ?_; intro Qz17)
        k_steps
        refine unhold ?_
        (with_reducible rename Fr _ _ _ _ => F3)
        (with_reducible rename News _ _ _ _ => N3)
        have hPLex : (PL, listOf (List.toArray (K.map kref)) nP) ∈ ex := by rw [hex]; exact .tail _ (.head _)
        refine kmk_slice_lit F3 N3 ⟨_, (N3 (PL, _) (.tail _ (.tail _ (.tail _ (by rw [hrest]; exact List.mem_append_left _ hPLex))))).1, rfl, _, rfl⟩ (.int _ _) .none (slice_drop2 hKl) (fun S2 h5 F5 N5 lt5 => ?_) (by with_unfolding_all rfl) (by kmk_pure) (by rw [List.size_toArray, List.length_map, hKl]; exact Nat.le_of_ble_eq_true rfl)
        clear F3 N3
        (try dsimp only)
        try (with_reducible refine wp_letQ ?_; intro Qz18)
        k_steps
        refine unhold ?_
        (with_reducible rename Fr _ _ _ _ => F6)
        (with_reducible rename News _ _ _ _ => N6)
        have hITab : I ∉ ([161, 168] : List Addr) := by
          intro hm
          first | (rcases List.mem_cons.mp hm with hm | hm) | (rcases List.mem_append.mp hm with hm | hm)
          · exact hI1 (161, _) (.head _) hm.symm
          rcases List.mem_singleton.mp hm with hm
          exact hI1 (168, _) (.tail _ (.head _)) hm.symm
        have hIad : ∀ P ∈ pgs, I ∉ P.adr := Pgs.away fun z hz => hI1 z (.tail _ (.tail _ (List.mem_append_right _ (List.mem_append_left _ hz))))
        have hIex : Away I ex := fun z hz => hI1 z (.tail _ (.tail _ (List.mem_append_left _ hz)))
        have hIfz : Away I fz := fun z hz => hI1 z (.tail _ (.tail _ (List.mem_append_right _ (List.mem_append_right _ hz))))
        clear hI1 hI2
        have hexP2 : ∀ q ∈ (S2, listOf (List.toArray ((K.drop 2).map kref)) 0) :: (I, io) :: ex, (∀ P ∈ pgs, q.1 ∉ P.adr) ∧ q.1 ∉ ([161, 168] : List Addr) := by
          intro q hq
          revert q
          refine all_cons ?_ ?_
          · refine ⟨Pgs.away fun z hz => Nat.ne_of_lt (lt5 z (.tail _ (.tail _ (.tail _ (by rw [hrest]; exact List.mem_append_right _ (List.mem_append_left _ hz)))))), ?_⟩
            simp only [List.mem_cons, List.not_mem_nil, or_false, not_or]
            exact ⟨Ne.symm (Nat.ne_of_lt (lt5 (161, _) (.tail _ (.head _)))), Ne.symm (Nat.ne_of_lt (lt5 (168, _) (.tail _ (.tail _ (.head _)))))⟩
          refine all_cons ?_ ?_
          · exact ⟨hIad, hITab⟩
          intro q hq
          exact ⟨hexA q hq, (hexP q hq).2⟩
        obtain ⟨ex2, hex2⟩ : ∃ e, e = (S2, listOf (List.toArray ((K.drop 2).map kref)) 0) :: (I, io) :: ex := ⟨_, rfl⟩
        rw [← hex2] at hexP2
        have N7 := news_sub N6 (b := (161, tabObj tp1) :: (168, tabObj tp2) :: (ex2 ++ (pgs.flatMap Pg.mut ++ fz))) (fun q hq => by
          rw [hex2] at hq
          rw [hrest]
          revert q
          ((repeat' (first | exact mem_sub_nil | refine mem_sub_cons ?_ ?_ | refine mem_sub_app ?_ ?_)); all_goals (repeat (first | exact List.Mem.head _ | refine List.Mem.tail _ ?_ | exact mem_sub_refl | exact mem_sub_left | refine mem_sub_tail ?_ | refine mem_sub_right ?_))))
        clear N6
        refine iter_v (items := List.toArray ((K.drop 2).map kref)) [Str.ofString "other", Str.ofString "lines", Str.ofString "flat", Str.ofString "line", Str.ofString "told"] (J3 K ex2 fz 5) (upd3 K 2 (Str.ofString "other") (Str.ofString "lines")) F6 N7 (by assumption) ?_ ?_ ?_ ?_ ?_ ?_ rfl
        · exact ⟨_, _, pgs, rfl, rfl, ht1, ht2, hpgs, hK, fun q hq => (hexP2 q hq).1⟩
        · intro i vals news₁ h hz11x N2 _
          refine gen_goal fun G9 hG9 => ?_
          obtain ⟨tp1, tp2, pgs, hvl, rfl, ht1, ht2, hpgs, hK, hexA⟩ := hz11x
          refine hG9 ?_
          clear hG9 G9
          exact ⟨_, (N2 (S2, _) (.tail _ (.tail _ (List.mem_append_left _ (by rw [hex2]; exact .head _))))).1, rfl, _, rfl⟩
        · rintro i v vals news₁ s₁ I Q' hv _ hit hq
          refine gen_goal fun G9 hG9 => ?_
          obtain ⟨k, hk, hkd, rfl⟩ := drop_at hv
          refine hG9 ?_
          clear hG9 G9
          exact go_tup hit hq
        · intro i v vals m₁ news₁ s₁ Q' hv hz12x F2 N2 hq
          refine gen_goal fun G9 hG9 => ?_
          obtain ⟨tp1, tp2, pgs, hvl, rfl, ht1, ht2, hpgs, hK, hexA⟩ := hz12x
          refine hG9 ?_
          clear hG9 G9
          refine gen_goal fun G9 hG9 => ?_
          obtain ⟨k, hk, hkd, rfl⟩ := drop_at hv
          refine hG9 ?_
          clear hG9 G9
          refine gen_goal fun G9 hG9 => ?_
          obtain ⟨P, hP, e1, e2, e3⟩ := key_at hK hk
          refine hG9 ?_
          clear hG9 G9
          refine gen_goal fun G9 hG9 => ?_
          obtain ⟨o, ho, hc, n, hd⟩ := (hpgs.each P (List.mem_of_getElem? hP)).hT
          refine hG9 ?_
          clear hG9 G9
          refine asg2 rfl rfl rfl rfl F2 (T := k.1) (v := .ref k.2.1) (u := .ref k.2.2) ⟨o, (e1 ▸ N2 _ (.tail _ (.tail _ (List.mem_append_right _ (List.mem_append_right _ ho))))).1, hc, n, by rw [← e2, ← e3]; exact hd⟩ fun h' tk' F3 hk => hq h' tk' ?_ hk
          unfold upd3
          rw [hkd]
          exact F3
        · intro j v2 vals news₁ h gs tk I2 io2 hv2 hz13x hgs hio2 hJ1 hJ2 F2 N2
          refine gen_goal fun G9 hG9 => ?_
          obtain ⟨tp1, tp2, pgs, hvl, rfl, ht1, ht2, hpgs, hK, hexA2⟩ := hz13x
          refine hG9 ?_
          clear hG9 G9
          refine gen_goal fun G9 hG9 => ?_
          obtain ⟨o1', o2', o3', o4', o5', rfl⟩ := len5 hvl
          refine hG9 ?_
          clear hG9 G9
          refine gen_goal fun G9 hG9 => ?_
          obtain ⟨k2, hk2, hkd2, rfl⟩ := drop_at hv2
          refine hG9 ?_
          clear hG9 G9
          refine gen_goal fun G9 hG9 => ?_
          obtain ⟨P, hP, p1, p2, p3⟩ := key_at hK hk
          refine hG9 ?_
          clear hG9 G9
          refine gen_goal fun G9 hG9 => ?_
          obtain ⟨Z, hZ, z1, z2, z3⟩ := key_at hK hk2
          refine hG9 ?_
          clear hG9 G9
          have xP := hpgs.each P (List.mem_of_getElem? hP)
          have xZ := hpgs.each Z (List.mem_of_getElem? hZ)
          unfold upd3 at F2
          rw [hkd2] at F2
          dsimp only [kstO, List.zip_cons_cons, List.zip_nil_right] at F2
          rw [← p2, ← p3, ← z2, ← z3] at F2
          refine fr_let F2 ?_
          clear F2
          intro mz24x F2
          clear F6 N7
          obtain ⟨rest, hrest⟩ : ∃ r, r = ex2 ++ (pgs.flatMap Pg.mut ++ fz) := ⟨_, rfl⟩
          rw [← hrest] at N2
          have hfr : ∀ q ∈ fz, q ∈ rest := fun q hq => by rw [hrest]; exact List.mem_append_right _ (List.mem_append_right _ hq)
          try (with_reducible refine wp_letQ ?_; intro Qz19)
          k_steps
          refine unhold ?_
          (with_reducible rename Fr _ _ _ _ => F3)
          refine fr_let F3 ?_
          clear F3
          intro mz25x F3
          (with_reducible rename News _ _ _ _ => N3)
          rename_i FL h4 ltF h5
          refine gen_goal fun G9 hG9 => ?_
          obtain ⟨oZ, hoZ, hcZ, nZ, hdZ⟩ := xZ.hR
          refine hG9 ?_
          clear hG9 G9
          have hZl : Z.us.length = Z.rows.length := (xZ.hrows.at (h := h5) fun q hq => (N3 q (.tail _ (.tail _ (.tail _ (.tail _ (hfr q hq)))))).1).length
          refine iter_v (items := Z.us.toArray) [Str.ofString "flat", Str.ofString "line"] (J5 Z.rows ((I2, io2) :: (161, tabObj tp1) :: (168, tabObj tp2) :: rest)) (fun i v m y => if y = Str.ofString "line" then some v else m y) F3 N3 (by assumption) ?_ ?_ ?_ ?_ ?_ ?_ rfl
          · refine ⟨_, FL, [], 0, rfl, rfl, .nil, fun q hq => ?_⟩
            revert q
            refine all_cons ?_ ?_
            · exact Nat.ne_of_lt ltF.1
            refine all_cons ?_ ?_
            · exact Nat.ne_of_lt ltF.2.1
            refine all_cons ?_ ?_
            · exact Nat.ne_of_lt ltF.2.2.1
            intro q hq
            exact allLt_away ltF.2.2.2 q hq
          · intro i vals news₁ h hz14x N2 _
            refine gen_goal fun G9 hG9 => ?_
            obtain ⟨o1, FL, vs, n, rfl, rfl, hvs, hFA⟩ := hz14x
            refine hG9 ?_
            clear hG9 G9
            exact ⟨oZ, (N2 (Z.R, oZ) (.tail _ (.tail _ (.tail _ (.tail _ (hfr _ hoZ)))))).1, hcZ, nZ, hdZ⟩
          · rintro i v vals news₁ s₁ I Q' hv _ _ hq
            exact go_name hq
          · rintro i v vals m₁ news₁ s₁ Q' hv _ F2 N2 hq
            exact asg1 rfl rfl F2 fun h' tk' F3 hk => hq h' tk' F3 hk
          · intro i v vals news₁ h gs tk I3 io3 hv hz15x hgs hio3 hK1 hK2 F2 N2
            refine gen_goal fun G9 hG9 => ?_
            obtain ⟨o1, FL, vs, n, rfl, rfl, hvs, hFA⟩ := hz15x
            refine hG9 ?_
            clear hG9 G9
            refine fr_let F2 ?_
            clear F2
            intro mz26x F2
            clear F3 N3
            have hv' : Z.us[i]? = some v := by simpa using hv
            refine gen_goal fun G9 hG9 => ?_
            obtain ⟨b, ub, r, rfl, hr, -, -⟩ := (xZ.hrows.at (h := h) fun q hq => (N2 q (.tail _ (.tail _ (.tail _ (.tail _ (.tail _ (hfr q hq))))))).1).at i v hv'
            refine hG9 ?_
            clear hG9 G9
            have hLM : LineMark := trivial
            have hrow : ∀ (h' : Heap), (∀ q ∈ rest, h'.get? q.1 = some q.2) → ∃ ub, h'.IsList b ub.toArray ∧ IntsAre ub r := fun h' hh' => by
              refine gen_goal fun G9 hG9 => ?_
              obtain ⟨b', ub', r', e1, e2, e3, e4⟩ := (xZ.hrows.at (h := h') fun q hq => hh' q (hfr q hq)).at i (.ref b) hv'
              refine hG9 ?_
              clear hG9 G9
              cases e1
              rw [hr] at e2; cases e2
              exact ⟨ub', e3, e4⟩
            have hlen1 : (flatOf (Z.rows.take i)).length ≤ 1000 := Nat.le_trans flat_le xZ.good.flat
            have hlen2 : r.length ≤ 99 := (xZ.good.ent r (List.mem_of_getElem? hr)).1
            try (with_reducible refine wp_letQ ?_; intro Qz20)
            k_steps
            refine unhold ?_
            (with_reducible rename Fr _ _ _ _ => F3)
            refine fr_let F3 ?_
            clear F3
            intro mz27x F3
            (with_reducible rename News _ _ _ _ => N3)
            rename_i M1 h6 lt6
            refine kmk_add_ints (ms := [-1]) F3 N3 ⟨_, (N3 _ (.tail _ (.tail _ (.head _)))).1, rfl, _, rfl⟩ ⟨_, (N3 _ (.head _)).1, rfl, _, rfl⟩ hvs (ws := [_]) (by l_ints) (fun D2 us2 h7 F7 N7 lt7 hi7 => ?_) (by rw [sizeLine_eq]; simp only [List.length_cons, List.length_nil]; (first | lia | omega))
            clear F3 N3
            (try dsimp only)
            try (with_reducible refine wp_letQ ?_; intro Qz21)
            k_steps
            refine unhold ?_
            (with_reducible rename Fr _ _ _ _ => F8)
            refine fr_let F8 ?_
            clear F8
            intro mz28x F8
            (with_reducible rename News _ _ _ _ => N8)
            refine gen_goal fun G9 hG9 => ?_
            obtain ⟨ub, hub, hubi⟩ := hrow _ fun q hq => (N8 q (.tail _ (.tail _ (.tail _ (.tail _ (.tail _ (.tail _ (.tail _ hq)))))))).1
            refine hG9 ?_
            clear hG9 G9
            refine kmk_add_ints F8 N8 ⟨_, (N8 _ (.head _)).1, rfl, _, rfl⟩ hub hi7 hubi (fun D3 us3 h9 F9 N9 lt9 hi9 => ?_) (by rw [sizeLine_eq, List.length_append]; simp only [List.length_cons, List.length_nil]; (first | lia | omega))
            clear F8 N8
            (try dsimp only)
            try (with_reducible refine wp_letQ ?_; intro Qz22)
            k_steps
            show Hold _
            (with_reducible rename Fr _ _ _ _ => F10)
            refine fr_let F10 ?_
            clear F10
            intro mz29x F10
            (with_reducible rename News _ _ _ _ => N10)
            refine ⟨_, _, _, _, [some (.ref D3), some (.ref b)], (D3, listOf (List.toArray us3) 0) :: (I2, io2) :: (161, tabObj tp1) :: (168, tabObj tp2) :: rest, rfl, by assumption, F10, by (refine same_fun [Str.ofString "flat", Str.ofString "line"] (by with_unfolding_all exact ⟨rfl, rfl, trivial⟩) ?_; rintro y ⟨q_flat, q_line, -⟩; dsimp only [kstO, List.zip_cons_cons, List.zip_nil_right, List.zip_nil_left]; (repeat (refine (if_neg (by with_reducible assumption)).trans ?_)); refine Eq.symm ?_; (repeat (refine (if_neg (by with_reducible assumption)).trans ?_)); rfl), news_sub N10 (fun q hq => ?_), fun q hq => ?_, _, D3, us3, 0, rfl, rfl, by rw [← flat_next hr]; exact hi9, fun q hq => Nat.ne_of_lt (lt9 q ?_)⟩
            · revert q
              ((repeat' (first | exact mem_sub_nil | refine mem_sub_cons ?_ ?_ | refine mem_sub_app ?_ ?_)); all_goals (repeat (first | exact List.Mem.head _ | refine List.Mem.tail _ ?_ | exact mem_sub_refl | exact mem_sub_left | refine mem_sub_tail ?_ | refine mem_sub_right ?_)))
            · rcases List.mem_cons.mp hq with rfl | hq
              · exact Ne.symm (Nat.ne_of_lt (lt9 (I3, io3) (.tail _ (.tail _ (.head _)))))
              · exact hK1 q (.tail _ hq)
            · revert q
              ((repeat' (first | exact mem_sub_nil | refine mem_sub_cons ?_ ?_ | refine mem_sub_app ?_ ?_)); all_goals (repeat (first | exact List.Mem.head _ | refine List.Mem.tail _ ?_ | exact mem_sub_refl | exact mem_sub_left | refine mem_sub_tail ?_ | refine mem_sub_right ?_)))
          · intro h gs tk vals news₁ hz16x hgs F2 N2
            refine gen_goal fun G9 hG9 => ?_
            obtain ⟨o1, FL2, vs, n, rfl, rfl, hvs, hFA⟩ := hz16x
            refine hG9 ?_
            clear hG9 G9
            refine fr_let F2 ?_
            clear F2
            intro mz30x F2
            rw [List.size_toArray, hZl, List.take_length] at hvs
            clear F3 N3
            have hPm : ∀ q ∈ P.mut, q ∈ rest := fun q hq => by rw [hrest]; exact List.mem_append_right _ (List.mem_append_left _ (List.mem_flatMap.mpr ⟨P, List.mem_of_getElem? hP, hq⟩))
            have hZm : ∀ q ∈ Z.mut, q ∈ rest := fun q hq => by rw [hrest]; exact List.mem_append_right _ (List.mem_append_left _ (List.mem_flatMap.mpr ⟨Z, List.mem_of_getElem? hZ, hq⟩))
            have N4 := news_sub N2 (b := (P.p, instObj 115 P.dp) :: (P.dp, pageDict P.pt P.mx P.ws P.wl P.sc (.ref P.l) (.ref P.c)) :: (P.l, listOf (List.toArray P.ls) P.nl) :: (P.c, accObj P.dc #[] P.ep) :: (P.dc, accDict P.hs P.tkd (.int 0 P.ti)) :: (Z.p, instObj 115 Z.dp) :: (Z.dp, pageDict Z.pt Z.mx Z.ws Z.wl Z.sc (.ref Z.l) (.ref Z.c)) :: (Z.l, listOf (List.toArray Z.ls) Z.nl) :: (Z.c, accObj Z.dc #[] Z.ep) :: (Z.dc, accDict Z.hs Z.tkd (.int 0 Z.ti)) :: (FL2, listOf (List.toArray vs) n) :: (I2, io2) :: (161, tabObj tp1) :: (168, tabObj tp2) :: rest) (by
              refine mem_sub_cons (.tail _ (.tail _ (.tail _ (.tail _ (hfr _ xP.hp))))) ?_
              refine mem_sub_cons (.tail _ (.tail _ (.tail _ (.tail _ (hfr _ xP.hdp))))) ?_
              refine mem_sub_cons (.tail _ (.tail _ (.tail _ (.tail _ (hPm _ (.head _)))))) ?_
              refine mem_sub_cons (.tail _ (.tail _ (.tail _ (.tail _ (hPm _ (.tail _ (.head _))))))) ?_
              refine mem_sub_cons (.tail _ (.tail _ (.tail _ (.tail _ (hPm _ (.tail _ (.tail _ (.head _)))))))) ?_
              refine mem_sub_cons (.tail _ (.tail _ (.tail _ (.tail _ (hfr _ xZ.hp))))) ?_
              refine mem_sub_cons (.tail _ (.tail _ (.tail _ (.tail _ (hfr _ xZ.hdp))))) ?_
              refine mem_sub_cons (.tail _ (.tail _ (.tail _ (.tail _ (hZm _ (.head _)))))) ?_
              refine mem_sub_cons (.tail _ (.tail _ (.tail _ (.tail _ (hZm _ (.tail _ (.head _))))))) ?_
              refine mem_sub_cons (.tail _ (.tail _ (.tail _ (.tail _ (hZm _ (.tail _ (.tail _ (.head _)))))))) ?_
              ((repeat' (first | exact mem_sub_nil | refine mem_sub_cons ?_ ?_ | refine mem_sub_app ?_ ?_)); all_goals (repeat (first | exact List.Mem.head _ | refine List.Mem.tail _ ?_ | exact mem_sub_refl | exact mem_sub_left | refine mem_sub_tail ?_ | refine mem_sub_right ?_))))
            clear N2
            try (with_reducible refine wp_letQ ?_; intro Qz23)
            k_steps
            refine unhold ?_
            (with_reducible rename Fr _ _ _ _ => F5)
            refine fr_let F5 ?_
            clear F5
            intro mz31x F5
            (with_reducible rename News _ _ _ _ => N5)
            have hij : i ≠ j + 2 := by (first | lia | omega)
            have hI2h : ∀ q ∈ (FL2, listOf (List.toArray vs) n) :: (I2, io2) :: ex2, (∀ X ∈ pgs, q.1 ∉ X.adr) ∧ q.1 ∉ ([161, 168] : List Addr) := by
              have hr2 : ∀ X ∈ pgs, ∀ q ∈ X.mut, q ∈ rest := fun X hX q hq => by rw [hrest]; exact List.mem_append_right _ (List.mem_append_left _ (List.mem_flatMap.mpr ⟨X, hX, hq⟩))
              intro q hq
              rcases List.mem_cons.mp hq with rfl | hq
              · refine ⟨Pgs.away fun z hz => hFA z (.tail _ (.tail _ (.tail _ (by rw [hrest]; exact List.mem_append_right _ (List.mem_append_left _ hz))))), ?_⟩
                simp only [List.mem_cons, List.not_mem_nil, or_false, not_or]
                exact ⟨Ne.symm (hFA (161, _) (.tail _ (.head _))), Ne.symm (hFA (168, _) (.tail _ (.tail _ (.head _))))⟩
              rcases List.mem_cons.mp hq with rfl | hq
              · refine ⟨Pgs.away fun z hz => hJ1 z (.tail _ (.tail _ (List.mem_append_right _ (List.mem_append_left _ hz)))), ?_⟩
                simp only [List.mem_cons, List.not_mem_nil, or_false, not_or]
                exact ⟨Ne.symm (hJ1 (161, _) (.head _)), Ne.symm (hJ1 (168, _) (.tail _ (.head _)))⟩
              · exact ⟨hexA2 q hq, (hexP2 q hq).2⟩
            refine' pstr_call (ls := P.ls) (ps := []) (qs := []) (lsx := (P.rows.map digs).map rowText) (site_of rfl ?k1 ?k2 ?k3 ?k4 rfl ?k5 ?k6 rfl ?k7 ?k8) ?kb (N5 _ (.head _)).1 (N5 _ (.tail _ (.head _))).1 (N5 _ (.tail _ (.tail _ (.head _)))).1 (N5 _ (.tail _ (.tail _ (.tail _ (.head _))))).1 (N5 _ (.tail _ (.tail _ (.tail _ (.tail _ (.head _)))))).1 (N5 _ (.tail _ (.tail _ (.tail _ (.tail _ (.tail _ (.tail _ (.tail _ (.tail _ (.tail _ (.tail _ (.tail _ (.tail _ (.head _)))))))))))))).1 ht1 (N5 _ (.tail _ (.tail _ (.tail _ (.tail _ (.tail _ (.tail _ (.tail _ (.tail _ (.tail _ (.tail _ (.tail _ (.tail _ (.tail _ (.head _))))))))))))))).1 ht2 xP.hls .nil (.inl rfl) (Int.le_refl 0) (by decide) ?khl (by decide) (by decide) (Nat.le_of_ble_eq_true rfl) (by rw [closeLs_nil]; exact xP.good.texts) ?_
            case k1 => k_asm
            case k2 => k_asm
            case k3 => k_asm
            case k4 => k_asm
            case k5 => exact Nat.le_of_ble_eq_true rfl
            case k6 => exact Nat.le_of_ble_eq_true rfl
            case k7 => exact not_hid N5 (by repeat (first | exact HidIn.nil | refine HidIn.cons (by k_mem) ?_))
            case k8 => exact none_hid N5 (by repeat (first | exact HidIn.nil | refine HidIn.cons (by k_mem) ?_))
            case kb => assumption
            case khl =>
              have e := xP.hls.length
              rw [List.length_map, List.length_map] at e
              have := xP.good.len
              (first | lia | omega)
            intro h6 gs6 tk6 t6 ls6 nl6 n6 t06 hb6 kb6 el6 ec6 edc6 ⟨tq1, w4, w4'⟩ ⟨tq2, w5, w5'⟩ hls6
            have F6 := fr_but F5 kb6 (none_hid N5 (by repeat (first | exact HidIn.nil | refine HidIn.cons (by k_mem) ?_))) (not_hid N5 (by repeat (first | exact HidIn.nil | refine HidIn.cons (by k_mem) ?_)))
            rw [closeLs_nil] at hls6
            have N6 := news_page (P := P) (hd := (FL2, listOf (List.toArray vs) n) :: (I2, io2) :: ex2) (news_sub N5 (b := (161, tabObj tp1) :: (168, tabObj tp2) :: (((FL2, listOf (List.toArray vs) n) :: (I2, io2) :: ex2) ++ (pgs.flatMap Pg.mut ++ fz))) (fun q hq => by
              rw [hrest]
              revert q
              ((repeat' (first | exact mem_sub_nil | refine mem_sub_cons ?_ ?_ | refine mem_sub_app ?_ ?_)); all_goals (repeat (first | exact List.Mem.head _ | refine List.Mem.tail _ ?_ | exact mem_sub_refl | exact mem_sub_left | refine mem_sub_tail ?_ | refine mem_sub_right ?_))))) hpgs hP (fun q hq => page_no ((hI2h q hq).1 P (List.mem_of_getElem? hP)) (hI2h q hq).2) kb6 w4 w5 el6 ec6 edc6
            have hpgs6 := hpgs.set (nl := nl6) (ep := n6) (ti := t06) hP hls6
            have hK6 := (key_set (ls := ls6) (nl := nl6) (ep := n6) (ti := t06) hP).trans hK
            have hZ6 := get_set_ne (P.upd ls6 nl6 n6 t06) hij hZ
            have hh6 := adr_set (ls := ls6) (nl := nl6) (ep := n6) (ti := t06) hP (fun q hq => (hI2h q hq).1)
            generalize pgs.set i (P.upd ls6 nl6 n6 t06) = pgs6 at N6 hpgs6 hK6 hZ6 hh6
            clear N5 F5 kb6
            obtain ⟨rest6, hrest6⟩ : ∃ r, r = ex2 ++ (pgs6.flatMap Pg.mut ++ fz) := ⟨_, rfl⟩
            have hfr6 : ∀ q ∈ fz, q ∈ rest6 := fun q hq => by rw [hrest6]; exact List.mem_append_right _ (List.mem_append_right _ hq)
            have hZm6 : ∀ q ∈ Z.mut, q ∈ rest6 := fun q hq => by rw [hrest6]; exact List.mem_append_right _ (List.mem_append_left _ (List.mem_flatMap.mpr ⟨Z, List.mem_of_getElem? hZ6, hq⟩))
            have N7 := news_sub N6 (b := (Z.p, instObj 115 Z.dp) :: (Z.dp, pageDict Z.pt Z.mx Z.ws Z.wl Z.sc (.ref Z.l) (.ref Z.c)) :: (Z.l, listOf (List.toArray Z.ls) Z.nl) :: (Z.c, accObj Z.dc #[] Z.ep) :: (Z.dc, accDict Z.hs Z.tkd (.int 0 Z.ti)) :: (FL2, listOf (List.toArray vs) n) :: (I2, io2) :: (161, tabObj tq1) :: (168, tabObj tq2) :: rest6) (fun q hq => by
              have hin : ∀ q ∈ rest6, q ∈ (161, tabObj tq1) :: (168, tabObj tq2) :: (((FL2, listOf (List.toArray vs) n) :: (I2, io2) :: ex2) ++ (pgs6.flatMap Pg.mut ++ fz)) := fun q hq => by
                rw [hrest6] at hq
                revert q
                ((repeat' (first | exact mem_sub_nil | refine mem_sub_cons ?_ ?_ | refine mem_sub_app ?_ ?_)); all_goals (repeat (first | exact List.Mem.head _ | refine List.Mem.tail _ ?_ | exact mem_sub_refl | exact mem_sub_left | refine mem_sub_tail ?_ | refine mem_sub_right ?_)))
              first | (rcases List.mem_cons.mp hq with h | hq) | (rcases List.mem_append.mp hq with h | hq)
              · exact hin _ (h ▸ hfr6 _ xZ.hp)
              first | (rcases List.mem_cons.mp hq with h | hq) | (rcases List.mem_append.mp hq with h | hq)
              · exact hin _ (h ▸ hfr6 _ xZ.hdp)
              first | (rcases List.mem_cons.mp hq with h | hq) | (rcases List.mem_append.mp hq with h | hq)
              · exact hin _ (h ▸ hZm6 _ (.head _))
              first | (rcases List.mem_cons.mp hq with h | hq) | (rcases List.mem_append.mp hq with h | hq)
              · exact hin _ (h ▸ hZm6 _ (.tail _ (.head _)))
              first | (rcases List.mem_cons.mp hq with h | hq) | (rcases List.mem_append.mp hq with h | hq)
              · exact hin _ (h ▸ hZm6 _ (.tail _ (.tail _ (.head _))))
              first | (rcases List.mem_cons.mp hq with h | hq) | (rcases List.mem_append.mp hq with h | hq)
              · exact mem_of_eq h (by repeat (first | exact List.Mem.head _ | refine List.Mem.tail _ ?_))
              first | (rcases List.mem_cons.mp hq with h | hq) | (rcases List.mem_append.mp hq with h | hq)
              · exact mem_of_eq h (by repeat (first | exact List.Mem.head _ | refine List.Mem.tail _ ?_))
              first | (rcases List.mem_cons.mp hq with h | hq) | (rcases List.mem_append.mp hq with h | hq)
              · exact mem_of_eq h (by repeat (first | exact List.Mem.head _ | refine List.Mem.tail _ ?_))
              first | (rcases List.mem_cons.mp hq with h | hq) | (rcases List.mem_append.mp hq with h | hq)
              · exact mem_of_eq h (by repeat (first | exact List.Mem.head _ | refine List.Mem.tail _ ?_))
              rename _ ∈ _ => h
              exact hin _ h)
            clear N6
            rw [closeLs_nil]
            (try dsimp only)
            try (with_reducible refine wp_letQ ?_; intro Qz24)
            k_steps
            refine unhold ?_
            (with_reducible rename Fr _ _ _ _ => F8)
            refine fr_let F8 ?_
            clear F8
            intro mz32x F8
            (with_reducible rename News _ _ _ _ => N8)
            refine' pstr_call (ls := Z.ls) (ps := []) (qs := []) (lsx := (Z.rows.map digs).map rowText) (site_of rfl ?k1 ?k2 ?k3 ?k4 rfl ?k5 ?k6 rfl ?k7 ?k8) ?kb (N8 _ (.head _)).1 (N8 _ (.tail _ (.head _))).1 (N8 _ (.tail _ (.tail _ (.head _)))).1 (N8 _ (.tail _ (.tail _ (.tail _ (.head _))))).1 (N8 _ (.tail _ (.tail _ (.tail _ (.tail _ (.head _)))))).1 (N8 _ (.tail _ (.tail _ (.tail _ (.tail _ (.tail _ (.tail _ (.tail _ (.head _))))))))).1 w4' (N8 _ (.tail _ (.tail _ (.tail _ (.tail _ (.tail _ (.tail _ (.tail _ (.tail _ (.head _)))))))))).1 w5' xZ.hls .nil (.inl rfl) (Int.le_refl 0) (by decide) ?khl (by decide) (by decide) (Nat.le_of_ble_eq_true rfl) (by rw [closeLs_nil]; exact xZ.good.texts) ?_
            case k1 => k_asm
            case k2 => k_asm
            case k3 => k_asm
            case k4 => k_asm
            case k5 => exact Nat.le_of_ble_eq_true rfl
            case k6 => exact Nat.le_of_ble_eq_true rfl
            case k7 => exact not_hid N8 (by repeat (first | exact HidIn.nil | refine HidIn.cons (by k_mem) ?_))
            case k8 => exact none_hid N8 (by repeat (first | exact HidIn.nil | refine HidIn.cons (by k_mem) ?_))
            case kb => assumption
            case khl =>
              have e := xZ.hls.length
              rw [List.length_map, List.length_map] at e
              have := xZ.good.len
              (first | lia | omega)
            intro h9 gs9 tk9 t9 ls9 nl9 n9 t09 hb9 kb9 el9 ec9 edc9 ⟨tr1, w6, w6'⟩ ⟨tr2, w7, w7'⟩ hls9
            have F9 := fr_but F8 kb9 (none_hid N8 (by repeat (first | exact HidIn.nil | refine HidIn.cons (by k_mem) ?_))) (not_hid N8 (by repeat (first | exact HidIn.nil | refine HidIn.cons (by k_mem) ?_)))
            rw [closeLs_nil] at hls9
            have N9 := news_page (P := Z) (hd := (FL2, listOf (List.toArray vs) n) :: (I2, io2) :: ex2) (news_sub N8 (b := (161, tabObj tq1) :: (168, tabObj tq2) :: (((FL2, listOf (List.toArray vs) n) :: (I2, io2) :: ex2) ++ (pgs6.flatMap Pg.mut ++ fz))) (fun q hq => by
              rw [hrest6]
              revert q
              ((repeat' (first | exact mem_sub_nil | refine mem_sub_cons ?_ ?_ | refine mem_sub_app ?_ ?_)); all_goals (repeat (first | exact List.Mem.head _ | refine List.Mem.tail _ ?_ | exact mem_sub_refl | exact mem_sub_left | refine mem_sub_tail ?_ | refine mem_sub_right ?_))))) hpgs6 hZ6 (fun q hq => page_no (hh6 q hq Z (List.mem_of_getElem? hZ6)) (hI2h q hq).2) kb9 w6 w7 el9 ec9 edc9
            have hpgs9 := hpgs6.set (nl := nl9) (ep := n9) (ti := t09) hZ6 hls9
            have hK9 := (key_set (ls := ls9) (nl := nl9) (ep := n9) (ti := t09) hZ6).trans hK6
            have hh9 := adr_set (ls := ls9) (nl := nl9) (ep := n9) (ti := t09) hZ6 hh6
            generalize pgs6.set (j + 2) (Z.upd ls9 nl9 n9 t09) = pgs9 at N9 hpgs9 hK9 hh9
            clear N8 F8 kb9
            obtain ⟨rest9, hrest9⟩ : ∃ r, r = ex2 ++ (pgs9.flatMap Pg.mut ++ fz) := ⟨_, rfl⟩
            have hfr9 : ∀ q ∈ fz, q ∈ rest9 := fun q hq => by rw [hrest9]; exact List.mem_append_right _ (List.mem_append_right _ hq)
            have N10 := news_sub N9 (b := (FL2, listOf (List.toArray vs) n) :: (I2, io2) :: (161, tabObj tr1) :: (168, tabObj tr2) :: rest9) (fun q hq => by
              rw [hrest9] at hq
              revert q
              ((repeat' (first | exact mem_sub_nil | refine mem_sub_cons ?_ ?_ | refine mem_sub_app ?_ ?_)); all_goals (repeat (first | exact List.Mem.head _ | refine List.Mem.tail _ ?_ | exact mem_sub_refl | exact mem_sub_left | refine mem_sub_tail ?_ | refine mem_sub_right ?_))))
            clear N9
            rw [closeLs_nil]
            (try dsimp only)
            try (with_reducible refine wp_letQ ?_; intro Qz25)
            k_steps
            refine unhold ?_
            (with_reducible rename Fr _ _ _ _ => F11)
            refine fr_let F11 ?_
            clear F11
            intro mz33x F11
            (with_reducible rename News _ _ _ _ => N11)
            refine' ell_rows (rows := P.rows) (lines := Z.rows) (site_of rfl ?k1 ?k2 ?k3 ?k4 rfl ?k5 ?k6 rfl ?k7 ?k8) ?kb xP.good.ne xZ.good.ne xP.good.ok xZ.good.ok xP.good.len xZ.good.len (fun r hr => (xP.good.ent r hr).2) (fun r hr => (xZ.good.ent r hr).2) xP.good.drop ?_
            case k1 => k_asm
            case k2 => k_asm
            case k3 => k_asm
            case k4 => k_asm
            case k5 => exact Nat.le_of_ble_eq_true rfl
            case k6 => exact Nat.le_of_ble_eq_true rfl
            case k7 => exact List.not_mem_nil
            case k8 => exact fun b hb => nomatch hb
            case kb => assumption
            intro h12 gs12 tk12 hb12 kb12
            have F12 := fr_keep F11 kb12
            have N12 := news_keep N11 kb12
            clear F11 N11 kb12
            (try dsimp only)
            try (with_reducible refine wp_letQ ?_; intro Qz26)
            k_steps
            refine unhold ?_
            (with_reducible rename Fr _ _ _ _ => F13)
            refine fr_let F13 ?_
            clear F13
            intro mz34x F13
            (with_reducible rename News _ _ _ _ => N13)
            refine kmk_slice_lit F13 N13 ⟨_, (N13 _ (.head _)).1, rfl, _, rfl⟩ (.int _ _) .none slice_tail1 (fun DT h14 F14 N14 lt14 => ?_) (by with_unfolding_all rfl) (by kmk_pure) (by rw [List.size_toArray, hvs.length, sizeLine_eq]; exact Nat.le_trans xZ.good.flat (Nat.le_of_ble_eq_true rfl))
            clear F13 N13
            (try dsimp only)
            try (with_reducible refine wp_letQ ?_; intro Qz27)
            k_steps
            refine unhold ?_
            (with_reducible rename Fr _ _ _ _ => F15)
            refine fr_let F15 ?_
            clear F15
            intro mz35x F15
            (with_reducible rename News _ _ _ _ => N15)
            refine gen_goal fun G9 hG9 => ?_
            obtain ⟨oP, hoP, hcP, nP', hdP⟩ := xP.hR
            refine hG9 ?_
            clear hG9 G9
            refine' takes_call (R := P.R) (us := P.us) (rows := P.rows) (flat := (flatOf Z.rows).tail) (site_of rfl ?k1 ?k2 ?k3 ?k4 rfl ?k5 ?k6 rfl ?k7 ?k8) ?kb ⟨oP, (N15 _ (.tail _ (.tail _ (.tail _ (.tail _ (.tail _ (hfr9 _ hoP))))))).1, hcP, nP', hdP⟩ (xP.hrows.at fun q hq => (N15 q (.tail _ (.tail _ (.tail _ (.tail _ (.tail _ (hfr9 q hq))))))).1) ⟨_, (N15 _ (.head _)).1, rfl, _, rfl⟩ (ints_drop hvs) (Nat.le_trans xP.good.len (by decide)) (by rw [List.length_tail]; have := xZ.good.flat; (first | lia | omega)) (fun r hr => Nat.le_trans (xP.good.ent r hr).1 (by decide)) ?_
            case k1 => k_asm
            case k2 => k_asm
            case k3 => k_asm
            case k4 => k_asm
            case k5 => exact Nat.le_of_ble_eq_true rfl
            case k6 => exact Nat.le_of_ble_eq_true rfl
            case k7 => exact List.not_mem_nil
            case k8 => exact fun b hb => nomatch hb
            case kb => assumption
            intro h16 gs16 tk16 hb16 kb16
            have F16 := fr_keep F15 kb16
            have N16 := news_keep N15 kb16
            clear F15 N15 kb16
            (try dsimp only)
            try (with_reducible refine wp_letQ ?_; intro Qz28)
            k_steps
            · rename_i abad
              rw [bne_self_eq_false] at abad
              cases abad
            · show Hold _
              refine ⟨_, _, _, _, [some (.ref Z.p), some (.ref Z.R), some (.ref FL2), o1, some (.bool (lawTakes P.rows (flatOf Z.rows).tail))], (161, tabObj tr1) :: (168, tabObj tr2) :: (ex2 ++ (pgs9.flatMap Pg.mut ++ fz)), rfl, hb16, F16, by (rw [← p2, ← p3]; refine same_fun [Str.ofString "other", Str.ofString "lines", Str.ofString "flat", Str.ofString "line", Str.ofString "told"] (by with_unfolding_all exact ⟨rfl, rfl, rfl, rfl, rfl, trivial⟩) ?_; rintro y ⟨q_other, q_lines, q_flat, q_line, q_told, -⟩; dsimp only [kstO, List.zip_cons_cons, List.zip_nil_right, List.zip_nil_left]; (repeat (refine (if_neg (by with_reducible assumption)).trans ?_)); refine Eq.symm ?_; (repeat (refine (if_neg (by with_reducible assumption)).trans ?_)); rfl), news_sub N16 (fun q hq => ?_), fun q hq => ?_, tr1, tr2, pgs9, rfl, rfl, w6', w7', hpgs9, hK9, fun q hq => hh9 q (.tail _ (.tail _ hq))⟩
              · rw [hrest9]
                revert q
                ((repeat' (first | exact mem_sub_nil | refine mem_sub_cons ?_ ?_ | refine mem_sub_app ?_ ?_)); all_goals (repeat (first | exact List.Mem.head _ | refine List.Mem.tail _ ?_ | exact mem_sub_refl | exact mem_sub_left | refine mem_sub_tail ?_ | refine mem_sub_right ?_)))
              · revert q
                refine all_cons ?_ ?_
                · exact hJ1 (161, tabObj tp1) (.head _)
                refine all_cons ?_ ?_
                · exact hJ1 (168, tabObj tp2) (.tail _ (.head _))
                refine all_app ?_ ?_
                · intro q hq
                  exact hJ1 q (.tail _ (.tail _ (List.mem_append_left _ hq)))
                refine all_app ?_ ?_
                · intro q hq
                  refine gen_goal fun G9 hG9 => ?_
                  obtain ⟨X, hX, hqX⟩ := List.mem_flatMap.mp hq
                  refine hG9 ?_
                  clear hG9 G9
                  intro e
                  have hq9 := Pg.mut_adr hqX
                  rw [e] at hq9
                  exact hh9 (I2, io2) (.tail _ (.head _)) X hX hq9
                intro q hq
                exact hJ1 q (.tail _ (.tail _ (List.mem_append_right _ (List.mem_append_right _ hq))))
        · intro h gs tk vals news₁ hz17x hgs F2 N2
          refine gen_goal fun G9 hG9 => ?_
          obtain ⟨tp1, tp2, pgs, hvl, rfl, ht1, ht2, hpgs, hK, hexA2⟩ := hz17x
          refine hG9 ?_
          clear hG9 G9
          refine gen_goal fun G9 hG9 => ?_
          obtain ⟨o1', o2', o3', o4', o5', rfl⟩ := len5 hvl
          refine hG9 ?_
          clear hG9 G9
          refine fr_let F2 ?_
          clear F2
          intro mz36x F2
          clear F6 N7
          try (with_reducible refine wp_letQ ?_; intro Qz29)
          k_steps
          show Hold _
          refine ⟨_, _, _, _, [some (.ref k.2.1), some (.ref k.2.2), o1', o2', o3', o4', o5'], (161, tabObj tp1) :: (168, tabObj tp2) :: (ex ++ (pgs.flatMap Pg.mut ++ fz)), rfl, hgs, F2, by (refine same_fun [Str.ofString "page", Str.ofString "rows", Str.ofString "other", Str.ofString "lines", Str.ofString "flat", Str.ofString "line", Str.ofString "told"] (by with_unfolding_all exact ⟨rfl, rfl, rfl, rfl, rfl, rfl, rfl, trivial⟩) ?_; rintro y ⟨q_page, q_rows, q_other, q_lines, q_flat, q_line, q_told, -⟩; dsimp only [kstO, List.zip_cons_cons, List.zip_nil_right, List.zip_nil_left]; (repeat (refine (if_neg (by with_reducible assumption)).trans ?_)); refine Eq.symm ?_; (repeat (refine (if_neg (by with_reducible assumption)).trans ?_)); rfl), news_sub N2 (fun q hq => ?_), fun q hq => ?_, tp1, tp2, pgs, rfl, rfl, ht1, ht2, hpgs, hK, fun q hq => hexA2 q (by rw [hex2]; exact .tail _ (.tail _ hq))⟩
          · rw [hex2]
            revert q
            ((repeat' (first | exact mem_sub_nil | refine mem_sub_cons ?_ ?_ | refine mem_sub_app ?_ ?_)); all_goals (repeat (first | exact List.Mem.head _ | refine List.Mem.tail _ ?_ | exact mem_sub_refl | exact mem_sub_left | refine mem_sub_tail ?_ | refine mem_sub_right ?_)))
          · revert q
            refine all_cons ?_ ?_
            · exact Ne.symm (tab_not hITab).1
            refine all_cons ?_ ?_
            · exact Ne.symm (tab_not hITab).2
            refine all_app ?_ ?_
            · intro q hq
              exact hIex q hq
            refine all_app ?_ ?_
            · intro q hq
              refine gen_goal fun G9 hG9 => ?_
              obtain ⟨X, hX, hqX⟩ := List.mem_flatMap.mp hq
              refine hG9 ?_
              clear hG9 G9
              intro e
              have hq9 := Pg.mut_adr hqX
              rw [e] at hq9
              exact hexA2 (I, io) (by rw [hex2]; exact .tail _ (.head _)) X hX hq9
            intro q hq
            exact hIfz q hq
      · intro h gs tk vals news₁ hz18x hgs F2 N2
        refine gen_goal fun G9 hG9 => ?_
        obtain ⟨tp1, tp2, pgs, hvl, rfl, ht1, ht2, hpgs, hK, hexA⟩ := hz18x
        refine hG9 ?_
        clear hG9 G9
        clear F6 N7
        try (with_reducible refine wp_letQ ?_; intro Qz30)
        k_steps
        exact hret _ _ _ hgs (fun b o e hb => F2.keep b o (hg b o e hb)) ⟨tp1, (N2 _ (.head _)).1, ht1⟩ ⟨tp2, (N2 _ (.tail _ (.head _))).1, ht2⟩
end

end

end
end Mi
open PySem PySem.W PySem.Spec PySem.Calls PyProof.Rows
theorem PySem.Challenge.cw_ty0042_01_holds : PySem.Challenge.rw_ty0042_01.Holds := by
  w_on
  refine holds_law Mi.hd_said fun said => ?_
  refine holds_open (q := Mi.hd.view_39) (loose := [Str.ofString "_Accumulator"]) (Xt := fun s => xlAt Mi.hd.view_39 [] s && recOk (RowW.records (OpenRow.toRowW PySem.Challenge.rw_ty0042_01.row)) s) (XP := XL Mi.hd.view_39 []) (Yf := Hook.obs Mi.hd_hook) (Ya := Hook.val Mi.hd_hook) (YP := Hook.says Mi.hd_hook) (N := 2794) Mi.hd_left (Hook.of Mi.hd_hook) (Hook.keeps Mi.hd_hook) (fun s e => xl_of s (Bool.and_eq_true_iff.mp e).1) XL.keeps (by rfl) (by rfl) (by rfl) (fun s e => recFacts_of (Bool.and_eq_true_iff.mp e).2) (by rfl) (by first | assumption | decide +kernel) (by decide +kernel) ⟨rfl, rfl, rfl, rfl, rfl, by decide +kernel⟩ ?hw ?hc
  case hw => w_witness2
  intro w s₀ s₁ mg mb G Y fa o pm cd doc dV kV ho hd hcd hD hmg hg args vals as hpre hlay hrd hwl hlo
  have KX := km_in_of Y
  have hT8 := km_tabs_of Y
  have X := (Ground.X G).1
  have V := (Ground.X G).2
  refine Ground.open G ?_
  intro T B D TE TW
  try (refine guard_noD D (by decide +kernel) ?_; clear D)
  wrow_args hpre hlay hrd hwl hlo
  rename_i nsA q1 q2 q3 q4 q5 q6 q7 lA vsA q8 hLA q9 q10 q11 hIA q12 hz q13
  have hfa := Option.some.inj (hmg.symm.trans (mg_of KX T.g (n := Str.ofString "law") (v := .ref 232) (by first | rfl | kernel_rfl)))
  cases hfa
  refine Mi.law_call KX T hT8 (.of_eq hg) hLA hIA (by omega) (fun h' gs tk hgs hk ht1 ht2 => ?_)
  obtain ⟨o1, vs1, _, _, _, _, _, _, _, c1, c2, c3, c4, -⟩ := codeHd_of_K (c := 165) (P := 161) KX (by first | rfl | kernel_rfl)
  obtain ⟨o2, vs2, _, _, _, _, _, _, _, d1, d2, d3, d4, -⟩ := codeHd_of_K (c := 172) (P := 168) KX (by first | rfl | kernel_rfl)
  refine ⟨.inl ⟨_, _, [], rfl, raisesW_false (fun ct hct => nomatch hct), ReadsW.bool true, by wrow_post, fun _ => ⟨List.nodup_nil, fun _ hm => (nomatch hm)⟩⟩, ⟨fun b ob e => ?_, fun b ob e => ?_⟩, rfl, hgs⟩
  · by_cases hm : b ∈ ([161, 168] : List Addr)
    · have e' := hT8 b hm
      rw [e] at e'; cases e'
      simp only [List.mem_cons, List.not_mem_nil, or_false] at hm
      rcases hm with rfl | rfl
      · obtain ⟨ps, hps, -⟩ := ht1
        exact .inr (.inl ⟨⟨165, o1, vs1, c1, c2, c3, c4⟩, rfl, #[], ps, rfl, by rw [hps]; simp⟩)
      · obtain ⟨ps, hps, -⟩ := ht2
        exact .inr (.inl ⟨⟨172, o2, vs2, d1, d2, d3, d4⟩, rfl, #[], ps, rfl, by rw [hps]; simp⟩)
    · exact .inl (hk b ob e hm)
  · by_cases hm : b ∈ ([161, 168] : List Addr)
    · simp only [List.mem_cons, List.not_mem_nil, or_false] at hm
      rcases hm with rfl | rfl
      · obtain ⟨ps, hps, -⟩ := ht1
        exact ⟨_, hps⟩
      · obtain ⟨ps, hps, -⟩ := ht2
        exact ⟨_, hps⟩
    · exact ⟨_, hk b ob e hm⟩
