import PyProof.Rows.All
import Wide.All
import OpenK.AllK
import Wide.FinOn
import KE.KPar
import KE.KItem
import KE.KMethU
import KE.KStar
import KE.KCallOwn
import KE.KTurns
import KE.KUnpack
import KE.KStrWords
import Lean
import PySem.Challenge.RW_br0037_01
set_option Elab.async false
set_option maxRecDepth 100000
set_option maxHeartbeats 8000000
set_option linter.unusedVariables false
-- part Top01
namespace Mine
section
open PySem PySem.W PyProof.Rows
local macro_rules | `(tactic| o_head $_) => `(tactic| assumption)
/-- it says nothing of the law (its premise is its claim): its proof writes out the part of the heap that the law's texts name, hd.heap_1 -/
theorem hd (h : PySem.Challenge.rw_br0037_01.row.Holds) : PySem.Challenge.rw_br0037_01.row.Holds := by
  k_head
end
end Mine

-- part Base
namespace Mine
section
open PySem PySem.W PySem.Calls PyProof.Rows PySem.Spec
theorem bt_len : bootBuiltins "len" = some (.builtin "len") := boot_len
theorem bt_max : bootBuiltins "max" = some (.builtin "max") := PyProof.Rows.boot_max
theorem bt_min : bootBuiltins "min" = some (.builtin "min") := PyProof.Rows.boot_min
theorem bt_all : bootBuiltins "all" = some (.builtin "all") := PyProof.Rows.boot_all
theorem bt_isinstance : bootBuiltins "isinstance" = some (.builtin "isinstance") := PyProof.Rows.boot_isinstance
theorem bt_int : bootBuiltins "int" = some (.type "int") := PyProof.Rows.boot_int
theorem bt_range : bootBuiltins "range" = some (.type "range") := PyProof.Rows.boot_range
theorem bt_enumerate : bootBuiltins "enumerate" = some (.type "enumerate") := PyProof.Rows.boot_enumerate
theorem bt_list : bootBuiltins "list" = some (.type "list") := PyProof.Rows.boot_list
theorem bt_set : bootBuiltins "set" = some (.type "set") := PyProof.Rows.boot_set
theorem bt_map : bootBuiltins "map" = some (.type "map") := PyProof.Rows.boot_map
theorem bt_zip : bootBuiltins "zip" = some (.type "zip") := PyProof.Rows.boot_zip
theorem bt_str : bootBuiltins "str" = some (.type "str") := PyProof.Rows.boot_str
theorem bt_tuple : bootBuiltins "tuple" = some (.type "tuple") := PyProof.Rows.boot_tuple

theorem item_nat {x : Str} {k : Nat} (h : k < x.length) : Txt.item x (k : Int) = ⟨#[x.cps.getD k 0]⟩ := by
  have hl : x.length = x.cps.size := rfl
  have h1 : ¬ ((k : Int) < 0) := by omega
  have h2 : (0 ≤ (k : Int) && decide ((k : Int) < x.length)) = true := by simp; omega
  have h3 : seqIndex? (k : Int) x.length = some k := by
    unfold seqIndex?
    simp only [h1, if_false]
    rw [h2]
    simp
  unfold Txt.item Txt.charAt
  rw [h3]
  simp [Array.getD_eq_getD_getElem?]
theorem one_beq (a b : Nat) : ((⟨#[a]⟩ : Str) == ⟨#[b]⟩) = decide (a = b) := by
  by_cases h : a = b
  · subst h; simp
  · have : (⟨#[a]⟩ : Str) ≠ ⟨#[b]⟩ := by simpa using h
    rw [decide_eq_false h]
    exact beq_false_of_ne this

theorem if_T {P Q : Prop} (h : P) : if true = true then P else Q := by simpa using h
theorem if_F {P Q : Prop} (h : Q) : if false = true then P else Q := by simpa using h
structure Ok (w : World) (h : Heap) : Prop where
  k : (hd.heap_1 w.params).In h
  top : ∃ p loose mg mb, TopRead p loose mg mb h
theorem Ok.keeps {w : World} {h h' : Heap} (O : Ok w h) (hk : ∀ b o, h.get? b = some o → h'.get? b = some o) : Ok w h' := by
  obtain ⟨p, loose, mg, mb, T⟩ := O.top
  exact ⟨O.k.keeps hk, p, loose, mg, mb, T.keeps hk⟩
theorem Ok.lim {w : World} {h : Heap} (O : Ok w h) : h.NoLimit := by
  obtain ⟨p, loose, mg, mb, T⟩ := O.top
  exact T.nolimit

structure Calm (A : Around) (k : Nat) : Prop where
  hh : A.handled = none
  hd : A.depth + k < recursionLimit
  hu : A.units + 16 * k < cLine
theorem Calm.deeper {A : Around} {k : Nat} (C : Calm A (k + 1)) (env : Env) : Calm (A.deeper env) k :=
  ⟨C.hh, by have := C.hd; simp only [Around.deeper]; omega, by have := C.hu; simp only [Around.deeper]; omega⟩
theorem Calm.le {A : Around} {k j : Nat} (C : Calm A k) (h : j ≤ k) : Calm A j := ⟨C.hh, by have := C.hd; omega, by have := C.hu; omega⟩

/-- the whole heap is kept -/
abbrev Kept (s s' : Shared) : Prop := ∃ h' tk, s' = { s with heap := h', toks := tk } ∧ ∀ b o, s.heap.get? b = some o → h'.get? b = some o
theorem Kept.rfl' (s : Shared) : Kept s s := ⟨s.heap, s.toks, rfl, fun _ _ e => e⟩

/-- what a pure call gives: a value that P says, the heap kept -/
def Gives (prog : Program) (w : World) (A : Around) (f : Value) (args : List Value) (P : Value → Heap → Prop) (s : Shared) : Prop :=
  codeAny (model prog w) A (.call f ⟨args, []⟩) (fun r s' => match r with | .ok (.ret v) => P v s'.heap ∧ Kept s s' | .ok _ => False | .error _ => False) s
theorem Gives.mk {prog : Program} {w : World} {A : Around} {f : Value} {args : List Value} {P : Value → Heap → Prop} {s : Shared}
    (h : codeAny (model prog w) A (.call f ⟨args, []⟩) (fun r s' => match r with | .ok (.ret v) => P v s'.heap ∧ Kept s s' | .ok _ => False | .error _ => False) s) : Gives prog w A f args P s := h

section
variable {prog : Program} {w : World} {A : Around} {s : Shared} {E : Value → Shared → Prop} {h₀ : Heap} {L : Addr} {m : Str → Option Value} {news : List (Addr × Obj)}
theorem Gives.code {f : Value} {args : List Value} {P : Value → Heap → Prop} {Q : Value → Shared → Prop} (G : Gives prog w A f args P s) (F : Fr h₀ L s.heap m) (N : News h₀ L s.heap news)
    (h : ∀ v h' tk, P v h' → Fr h₀ L h' m → News h₀ L h' news → Q v { s with heap := h', toks := tk }) : codeAny (model prog w) A (.call f ⟨args, []⟩) (fun r s' => match r with | .ok (.ret v) => Q v s' | .ok _ => False | .error e => E e s') s := by
  refine codeAny_mono G fun r s' h1 => ?_
  cases r with
  | error e => exact h1.elim
  | ok f =>
    cases f with
    | ret v =>
      obtain ⟨hP, h', tk, rfl, hk⟩ := h1
      exact h v h' tk hP (F.keeps hk) (N.keeps hk)
    | _ => exact h1.elim
theorem Gives.use {f : Value} {args : List Value} {P : Value → Heap → Prop} {Q : Value → Shared → Prop} (G : Gives prog w A f args P s) (F : Fr h₀ L s.heap m) (N : News h₀ L s.heap news)
    (h : ∀ v h' tk, P v h' → Fr h₀ L h' m → News h₀ L h' news → Q v { s with heap := h', toks := tk }) : wpAny (model prog w) A (call f args) Q E s := wpAny_call (G.code F N h)

theorem enter_raw {Q : Value → Shared → Prop} {name qual : Str} {params : Arguments} {body : List Stmt} {scope : Scope} {dV kV doc pm cdv ct oc : Value} {an od : Option Addr} {osl : Array (Option Value)} {f : Addr} {args : Args} {n : Nat}
    (O : Ok w s.heap) (C : Calm A (n + 1))
    (ho : (hd.heap_1 w.params).lookup f = some ⟨oc, od, .func (fnOf name qual params body scope dV kV doc pm an cdv ct), osl⟩) (hcd : codeIn (hd.heap_1 w.params) cdv qual = true)
    (h : wpAny (model prog w) A.in1 (bindArgs (fnOf name qual params body scope dV kV doc pm an cdv ct) args) (fun binds s₁ =>
      wpAny (model prog w) A.in1 (newFunctionEnv scope mainGlobals [] binds (qual ++ ".<locals>.") (some f) cdv none builtinsNs)
        (fun env s₂ => s₂.heap.NoLimit ∧ codeAny (model prog w) A (.func body env) (fun r s' => match r with | .ok (.ret v) => Q v s' | .ok _ => False | .error _ => False) s₂) (fun _ _ => False) s₁) (fun _ _ => False) s)
    (hco : scope.isCoroutine = false) (hgen : scope.isGenerator = false) :
    codeAny (model prog w) A (.call (.ref f) args) (fun r s' => match r with | .ok (.ret v) => Q v s' | .ok _ => False | .error e => E e s') s := by
  refine codeAny_mono (R := fun r s' => match r with | .ok (.ret v) => Q v s' | .ok _ => False | .error _ => False) ?_ (fun r s' h => by
    cases r with
    | ok v => cases v <;> exact h
    | error e => exact h.elim)
  exact codeAny_call_function (fd := fnOf name qual params body scope dV kV doc pm an cdv ct) (body := body) (by have := C.hd; omega) (O.k _ _ ho) rfl hco hgen rfl (codeRec_of O.k hcd) h

/-- the frame's objects: made ahead of it, behind the base -/
abbrev Pre (h₀ h : Heap) (pre : List (Addr × Obj)) : Prop := ∀ p ∈ pre, h.get? p.1 = some p.2 ∧ h₀.get? p.1 = none

theorem env_plain {Q : Value → Shared → Prop} {qual : Str} {body : List Stmt} {scope : Scope} {cdv : Value} {f : Addr} {binds : List (Str × Value)} {n : Nat} {s₁ : Shared} {pre : List (Addr × Obj)}
    (O : Ok w s₁.heap) (C : Calm A (n + 1)) (hk₀ : ∀ b o, h₀.get? b = some o → s₁.heap.get? b = some o) (hsz : h₀.objs.size ≤ s₁.heap.objs.size) (hpre : Pre h₀ s₁.heap pre)
    (hloc : ∀ y ∈ binds, scope.names.lookup y.1 = some .local)
    (h : ∀ L h₁ tk, Fr h₀ L h₁ (fun y => binds.reverse.lookup y) → News h₀ L h₁ pre → Ok w h₁ → Calm (A.deeper (envX qual scope L f cdv [])) n →
      wpAny (model prog w) (A.deeper (envX qual scope L f cdv [])) (execs body (envX qual scope L f cdv []))
        (fun fl s' => Q (match fl with | .ret v => v | _ => .none) s') (fun _ _ => False) { s₁ with heap := h₁, toks := tk })
    (hcell : ∀ x ∈ scope.names, x.2 ≠ .cell) (hk : scope.kind = .function) :
    wpAny (model prog w) A.in1 (newFunctionEnv scope mainGlobals [] binds (qual ++ ".<locals>.") (some f) cdv none builtinsNs)
        (fun env s₂ => s₂.heap.NoLimit ∧ codeAny (model prog w) A (.func body env) (fun r s' => match r with | .ok (.ret v) => Q v s' | .ok _ => False | .error _ => False) s₂) (fun _ _ => False) s₁ := by
  refine wpAny_newFunctionEnv hcell hloc (fun h₁ hns hsb => ⟨O.lim.fresh _ hsb, codeAny_func ?_⟩) hk
  have hk₁ : ∀ b o, s₁.heap.get? b = some o → h₁.get? b = some o := fun b o e => hsb.extBut b o (Nat.ne_of_lt (Heap.lt_size e)) (Heap.get?_push_of_some _ e)
  refine wpAny_mono (h s₁.heap.objs.size h₁ _ ⟨hns, fun b o e => hk₁ b o (hk₀ b o e), hsz⟩ (fun p hp => ⟨hk₁ _ _ (hpre p hp).1, Nat.ne_of_lt (Heap.lt_size (hpre p hp).1), (hpre p hp).2⟩) (O.keeps hk₁) (C.deeper _)) (fun fl s' x => ?_) (fun _ _ x => x.elim)
  cases fl <;> exact x

theorem env_cells {Q : Value → Shared → Prop} {qual : Str} {body : List Stmt} {scope : Scope} {cdv : Value} {f : Addr} {binds : List (Str × Value)} {n : Nat} {s₁ : Shared} {pre : List (Addr × Obj)}
    (O : Ok w s₁.heap) (C : Calm A (n + 1)) (hk₀ : ∀ b o, h₀.get? b = some o → s₁.heap.get? b = some o) (hsz : h₀.objs.size ≤ s₁.heap.objs.size) (hpre : Pre h₀ s₁.heap pre)
    (hkind : (binds.all fun y => scope.names.lookup y.1 == some .local || scope.names.lookup y.1 == some .cell) = true)
    (hnd : ((cellsFrom 0 scope.names []).map (·.1)).Nodup)
    (h : ∀ L h₁ tk cells, Fr h₀ L h₁ (bindL (envOfC qual scope L f cdv).kindOf binds fun _ => none) → News h₀ L h₁ (cells ++ pre) →
      CellsAre (bindC (envOfC qual scope L f cdv).kindOf binds fun _ => none) (cellsFrom (L + 1) scope.names []) cells → (∀ p ∈ pre, p.1 < L) → Ok w h₁ → Calm (A.deeper (envX qual scope L f cdv (cellsFrom (L + 1) scope.names []))) n →
      wpAny (model prog w) (A.deeper (envX qual scope L f cdv (cellsFrom (L + 1) scope.names []))) (execs body (envX qual scope L f cdv (cellsFrom (L + 1) scope.names [])))
        (fun fl s' => Q (match fl with | .ret v => v | _ => .none) s') (fun _ _ => False) { s₁ with heap := h₁, toks := tk })
    (hk : scope.kind = .function) :
    wpAny (model prog w) A.in1 (newFunctionEnv scope mainGlobals [] binds (qual ++ ".<locals>.") (some f) cdv none builtinsNs)
        (fun env s₂ => s₂.heap.NoLimit ∧ codeAny (model prog w) A (.func body env) (fun r s' => match r with | .ok (.ret v) => Q v s' | .ok _ => False | .error _ => False) s₂) (fun _ _ => False) s₁ := by
  refine wpAny_newFunctionEnv_cells hk (kindsX hkind _) fun env' he s' x => ?_
  subst he
  refine ⟨O.lim.keeps x.toInCall.keep, codeAny_func ?_⟩
  obtain ⟨h₁, tk, rfl, _⟩ := x.done
  have hk₁ := x.toInCall.keep
  obtain ⟨cells, NC, Y⟩ := Cl.news (h₀ := s₁.heap) (Nat.le_refl _) fun n c hm => ⟨x.cell n c (lookup_of_mem_nodup (cellsFrom_names scope.names 0 (s₁.heap.objs.size + 1) [] [] rfl ▸ hnd) hm), x.above n c hm⟩
  refine wpAny_mono (h s₁.heap.objs.size h₁ tk cells ⟨x.toInCall.ns, fun b o e => hk₁ b o (hk₀ b o e), hsz⟩ (fun p hp => ?_) Y (fun p hp => Heap.lt_size (hpre p hp).1) (O.keeps hk₁) (C.deeper _)) (fun fl s' x => ?_) (fun _ _ x => x.elim)
  · rcases List.mem_append.mp hp with hp | hp
    · refine ⟨(NC p hp).1, (NC p hp).2.1, ?_⟩
      cases q : h₀.get? p.1 with
      | none => rfl
      | some o => have := hk₀ _ _ q; rw [(NC p hp).2.2] at this; cases this
    · exact ⟨hk₁ _ _ (hpre p hp).1, Nat.ne_of_lt (Heap.lt_size (hpre p hp).1), (hpre p hp).2⟩
  · cases fl <;> exact x

theorem wp_peek1 {α : Type} {K : Frag} {M : Model} {A : Around} {E : Value → Shared → Prop} {Q : α → Shared → Prop} {s : Shared} {o : Obj} {r : Addr → α} (X : K.In s.heap)
    (q : Q (r s.heap.objs.size) { s with heap := s.heap.push o }) :
    ∀ (t : Sem α) (g : Addr → Option α), peek1 K ⟨M.prog, M.w.params⟩ t = some (o, g) → (∀ D, g D = some (r D)) → wpAny M A t Q E s := by
  intro t
  induction t with
  | rule _ k ih => intro g e hg Γ p hΓ; exact ih () g e hg Γ p hΓ
  | point _ k ih => intro g e hg Γ p hΓ; exact ih () g e hg Γ p hΓ
  | ask k ih => intro g e hg Γ p hΓ; exact ih _ g e hg Γ p hΓ
  | load a _ k ih =>
    intro g e hg Γ p hΓ
    simp only [peek1] at e
    split at e
    · rename_i ob ho; exact ⟨ob, X _ _ ho, ih ob g e hg Γ p hΓ⟩
    · cases e
  | alloc ob k _ =>
    intro g e hg
    have e : some (ob, fun D => peek K ⟨M.prog, M.w.params⟩ (k D)) = some (o, g) := e
    obtain ⟨e1, e2⟩ := Prod.mk.inj (Option.some.inj e)
    subst e1
    subst e2
    show wpAny M A (alloc ob >>= k) Q E s
    refine wpAny_bind (wpAny_alloc ?_)
    exact (Looks.of_peek (M := M) (h := s.heap.push ob) (X.keeps fun b x hb => Heap.get?_push_of_some _ hb) (hg s.heap.objs.size)).here (s := { s with heap := s.heap.push ob }) q
  | _ => intro g e; cases e

abbrev tupObj (vs : List Value) : Obj := { cls := .type "tuple", data := .seq vs.toArray }
theorem Pre.one {h : Heap} {o : Obj} (hf : o.isFreed = false) : Pre h (h.push o) [(h.objs.size, o)] := fun p hp => by
  rw [List.mem_singleton.mp hp]
  exact ⟨Heap.get?_push_size _ hf, Heap.get?_none_of_le (Nat.le_refl _)⟩

/-- a def with plain parameters alone -/
theorem enter {Q : Value → Shared → Prop} {name qual : Str} {params : Arguments} {body : List Stmt} {scope : Scope} {dV kV doc pm cdv ct oc : Value} {an od : Option Addr} {osl : Array (Option Value)} {f : Addr} {args : Args} {binds : List (Str × Value)} {n : Nat}
    (O : Ok w s.heap) (C : Calm A (n + 1))
    (ho : (hd.heap_1 w.params).lookup f = some ⟨oc, od, .func (fnOf name qual params body scope dV kV doc pm an cdv ct), osl⟩) (hcd : codeIn (hd.heap_1 w.params) cdv qual = true)
    (hbind : BindsTo s (fnOf name qual params body scope dV kV doc pm an cdv ct) args binds) (hloc : ∀ y ∈ binds, scope.names.lookup y.1 = some .local)
    (h : ∀ L h₁ tk, Fr s.heap L h₁ (fun y => binds.reverse.lookup y) → News s.heap L h₁ [] → Ok w h₁ → Calm (A.deeper (envX qual scope L f cdv [])) n →
      wpAny (model prog w) (A.deeper (envX qual scope L f cdv [])) (execs body (envX qual scope L f cdv []))
        (fun fl s' => Q (match fl with | .ret v => v | _ => .none) s') (fun _ _ => False) { s with heap := h₁, toks := tk })
    (hcell : ∀ x ∈ scope.names, x.2 ≠ .cell) (hco : scope.isCoroutine = false) (hgen : scope.isGenerator = false) (hk : scope.kind = .function) :
    codeAny (model prog w) A (.call (.ref f) args) (fun r s' => match r with | .ok (.ret v) => Q v s' | .ok _ => False | .error e => E e s') s :=
  enter_raw O C ho hcd (hbind _ _ _ _ (env_plain (pre := []) O C (fun _ _ e => e) (Nat.le_refl _) (fun _ hp => nomatch hp) hloc h hcell hk)) hco hgen

/-- a def with plain parameters, some of them captured -/
theorem enterC {Q : Value → Shared → Prop} {name qual : Str} {params : Arguments} {body : List Stmt} {scope : Scope} {dV kV doc pm cdv ct oc : Value} {an od : Option Addr} {osl : Array (Option Value)} {f : Addr} {args : Args} {binds : List (Str × Value)} {n : Nat}
    (O : Ok w s.heap) (C : Calm A (n + 1))
    (ho : (hd.heap_1 w.params).lookup f = some ⟨oc, od, .func (fnOf name qual params body scope dV kV doc pm an cdv ct), osl⟩) (hcd : codeIn (hd.heap_1 w.params) cdv qual = true)
    (hbind : BindsTo s (fnOf name qual params body scope dV kV doc pm an cdv ct) args binds)
    (hkind : (binds.all fun y => scope.names.lookup y.1 == some .local || scope.names.lookup y.1 == some .cell) = true)
    (hnd : ((cellsFrom 0 scope.names []).map (·.1)).Nodup)
    (h : ∀ L h₁ tk cells, Fr s.heap L h₁ (bindL (envOfC qual scope L f cdv).kindOf binds fun _ => none) → News s.heap L h₁ cells →
      CellsAre (bindC (envOfC qual scope L f cdv).kindOf binds fun _ => none) (cellsFrom (L + 1) scope.names []) cells → Ok w h₁ → Calm (A.deeper (envX qual scope L f cdv (cellsFrom (L + 1) scope.names []))) n →
      wpAny (model prog w) (A.deeper (envX qual scope L f cdv (cellsFrom (L + 1) scope.names []))) (execs body (envX qual scope L f cdv (cellsFrom (L + 1) scope.names [])))
        (fun fl s' => Q (match fl with | .ret v => v | _ => .none) s') (fun _ _ => False) { s with heap := h₁, toks := tk })
    (hco : scope.isCoroutine = false) (hgen : scope.isGenerator = false) (hk : scope.kind = .function) :
    codeAny (model prog w) A (.call (.ref f) args) (fun r s' => match r with | .ok (.ret v) => Q v s' | .ok _ => False | .error e => E e s') s :=
  enter_raw O C ho hcd (hbind _ _ _ _ (env_cells (pre := []) O C (fun _ _ e => e) (Nat.le_refl _) (fun _ hp => nomatch hp) hkind hnd (fun L h₁ tk cells F N Y _ => h L h₁ tk cells F (by simpa using N) Y) hk)) hco hgen

/-- a def with a rest parameter -/
theorem enterV {Q : Value → Shared → Prop} {name qual : Str} {params : Arguments} {body : List Stmt} {scope : Scope} {dV kV doc pm cdv ct oc : Value} {an od : Option Addr} {osl : Array (Option Value)} {f : Addr} {args : Args} {vs : List Value} {g₁ : Addr → Option (List (Str × Value))} {binds : Addr → List (Str × Value)} {n : Nat}
    (O : Ok w s.heap) (C : Calm A (n + 1))
    (ho : (hd.heap_1 w.params).lookup f = some ⟨oc, od, .func (fnOf name qual params body scope dV kV doc pm an cdv ct), osl⟩) (hcd : codeIn (hd.heap_1 w.params) cdv qual = true)
    (hp : peek1 (hd.heap_1 w.params) ⟨prog, w.params⟩ (bindArgs (fnOf name qual params body scope dV kV doc pm an cdv ct) args) = some (tupObj vs, g₁))
    (hg : ∀ D, g₁ D = some (binds D)) (hloc : ∀ D, ∀ y ∈ binds D, scope.names.lookup y.1 = some .local)
    (h : ∀ D L h₁ tk, D < L → Fr s.heap L h₁ (fun y => (binds D).reverse.lookup y) → News s.heap L h₁ [(D, tupObj vs)] → Ok w h₁ → Calm (A.deeper (envX qual scope L f cdv [])) n →
      wpAny (model prog w) (A.deeper (envX qual scope L f cdv [])) (execs body (envX qual scope L f cdv []))
        (fun fl s' => Q (match fl with | .ret v => v | _ => .none) s') (fun _ _ => False) { s with heap := h₁, toks := tk })
    (hcell : ∀ x ∈ scope.names, x.2 ≠ .cell) (hco : scope.isCoroutine = false) (hgen : scope.isGenerator = false) (hk : scope.kind = .function) :
    codeAny (model prog w) A (.call (.ref f) args) (fun r s' => match r with | .ok (.ret v) => Q v s' | .ok _ => False | .error e => E e s') s := by
  refine enter_raw O C ho hcd ?_ hco hgen
  refine wp_peek1 (r := binds) O.k ?_ _ g₁ hp hg
  refine env_plain (s₁ := { s with heap := s.heap.push (tupObj vs) }) (h₀ := s.heap) (pre := [(s.heap.objs.size, tupObj vs)]) (O.keeps fun b o e => Heap.get?_push_of_some _ e) C (fun b o e => Heap.get?_push_of_some _ e) (by rw [Heap.size_push]; exact Nat.le_succ _) (Pre.one rfl) (hloc _) ?_ hcell hk
  intro L h₁ tk F N O1 C1
  exact h s.heap.objs.size L h₁ tk (Nat.lt_of_lt_of_le (by have := (N _ (.head _)).1; exact Nat.lt_of_le_of_ne F.above (fun e => (N _ (.head _)).2.1 e)) (Nat.le_refl _)) F N O1 C1

theorem nmE_L {x : Str} {pos : Pos} {v : Value} {Q : Value → Shared → Prop} {env : Env} (hl : env.kindOf x = some .local) (hk : env.scope.kind = .function) (hdb : (x == ("__debug__" : Str)) = false) (F : Fr h₀ L s.heap m) (hL : env.locals = L) (hv : m x = some v) (h : Q v s) :
    wpAny (model prog w) A (eval (.Name x pos) env) Q E s := by
  subst hL
  exact wpAny_Name (wpAny_loadName_local hk hl F.ns hv h) hdb
theorem ldE_L {x : Str} {v : Value} {Q : Value → Shared → Prop} {env : Env} (hl : env.kindOf x = some .local) (hk : env.scope.kind = .function) (F : Fr h₀ L s.heap m) (hL : env.locals = L) (hv : m x = some v) (h : Q v s) :
    wpAny (model prog w) A (loadName env x) Q E s := by
  subst hL
  exact wpAny_loadName_local hk hl F.ns hv h
theorem stE_L {x : Str} {v : Value} {Q : Unit → Shared → Prop} {env : Env} (hl : env.kindOf x = some .local) (hk : env.scope.kind = .function) (F : Fr h₀ L s.heap m) (N : News h₀ L s.heap news) (hL : env.locals = L)
    (h : ∀ h' tk, Fr h₀ L h' (fun y => if y = x then some v else m y) → News h₀ L h' news → Q () { s with heap := h', toks := tk }) : wpAny (model prog w) A (storeName env x v) Q E s := by
  subst hL
  exact wpAny_storeName_local hl F.ns (fun h' hn hs => h h' _ (F.set hn hs) (N.set hs)) (by rw [hk]; rfl)
theorem nmE_C {x : Str} {pos : Pos} {v : Value} {Q : Value → Shared → Prop} {env : Env} {c : Addr} {o : Obj} (hl : env.kindOf x = some .cell) (hk : env.scope.kind = .function) (hc : env.cells.lookup x = some c) (hdb : (x == ("__debug__" : Str)) = false) (N : News h₀ L s.heap news) (hm : (c, o) ∈ news) (ho : o.data = .cell (some v)) (h : Q v s) :
    wpAny (model prog w) A (eval (.Name x pos) env) Q E s := wpAny_Name (wpAny_loadName_cell hk hl hc ⟨o, N.get hm, ho⟩ h) hdb
theorem nmE_boot {x : Str} {pos : Pos} {v : Value} {Q : Value → Shared → Prop} {env : Env} (hx : env.kindOf x = some .globalImplicit) (hk : env.scope.kind = .function) (hg : env.globals = mainGlobals) (hb : env.builtins = builtinsNs) (hdb : (x == ("__debug__" : Str)) = false)
    (e : nsIn (hd.heap_1 w.params) mainGlobals x = some none) (hv : bootBuiltins x = some v) (hn : x ≠ "__name__") (F : Fr h₀ L s.heap m) (O : Ok w h₀) (h : Q v s) : wpAny (model prog w) A (eval (.Name x pos) env) Q E s := by
  obtain ⟨p, loose, mg, mb, T⟩ := O.top
  exact Name_function_global hk hx (loadGlobal_builtin (hg ▸ T.g.keeps F.keep) (mg_none_of O.k T.g e) (hb ▸ T.b.keeps F.keep) ((T.builtins x hn).trans hv) h) hdb
theorem nmE_glob {x : Str} {pos : Pos} {v : Value} {Q : Value → Shared → Prop} {env : Env} (hx : env.kindOf x = some .globalImplicit) (hk : env.scope.kind = .function) (hg : env.globals = mainGlobals) (hdb : (x == ("__debug__" : Str)) = false)
    (e : nsIn (hd.heap_1 w.params) mainGlobals x = some (some v)) (F : Fr h₀ L s.heap m) (O : Ok w h₀) (h : Q v s) : wpAny (model prog w) A (eval (.Name x pos) env) Q E s := by
  obtain ⟨p, loose, mg, mb, T⟩ := O.top
  exact Name_function_global hk hx (loadGlobal_global (hg ▸ T.g.keeps F.keep) (mg_of O.k T.g e) h) hdb
theorem nm_old {x : Str} {v : Value} {Q : Value → Shared → Prop} {cn : Str} {cs : Scope} {a : Addr} {ccd : Value} {cl : List (Str × Addr)} (F : Fr h₀ L s.heap m) (hv : m x = some v) (h : Q v s)
    (hk : cs.kind = .function) (hl : (envX cn cs L a ccd cl).kindOf x = some .local) : wpAny (model prog w) A (loadName (envX cn cs L a ccd cl) x) Q E s := wpAny_loadName_local hk hl F.ns hv h
theorem nm_glob {x : Str} {pos : Pos} {v : Value} {Q : Value → Shared → Prop} {cn : Str} {cs : Scope} {a : Addr} {ccd : Value} {cl : List (Str × Addr)} (F : Fr h₀ L s.heap m) (O : Ok w h₀) (e : nsIn (hd.heap_1 w.params) mainGlobals x = some (some v)) (h : Q v s)
    (hk : cs.kind = .function) (hx : (envX cn cs L a ccd cl).kindOf x = some .globalImplicit) (hd : (x == ("__debug__" : Str)) = false) :
    wpAny (model prog w) A (eval (.Name x pos) (envX cn cs L a ccd cl)) Q E s := by
  obtain ⟨p, loose, mg, mb, T⟩ := O.top
  exact nameX_K F O.k T e h hk hx hd
theorem nm_boot {x : Str} {pos : Pos} {v : Value} {Q : Value → Shared → Prop} {cn : Str} {cs : Scope} {a : Addr} {ccd : Value} {cl : List (Str × Addr)} (F : Fr h₀ L s.heap m) (O : Ok w h₀) (e : nsIn (hd.heap_1 w.params) mainGlobals x = some none) (hv : bootBuiltins x = some v) (hn : x ≠ "__name__") (h : Q v s)
    (hk : cs.kind = .function) (hx : (envX cn cs L a ccd cl).kindOf x = some .globalImplicit) (hd : (x == ("__debug__" : Str)) = false) :
    wpAny (model prog w) A (eval (.Name x pos) (envX cn cs L a ccd cl)) Q E s := by
  obtain ⟨p, loose, mg, mb, T⟩ := O.top
  exact nameX_B F O.k T e hv hn h hk hx hd
end
end
end Mine

-- part Comp
namespace Mine
section
open PySem PySem.W PySem.Calls PyProof.Rows PySem.Spec
theorem nlt {h : Heap} {b : Addr} {o : Obj} (e : h.get? b = some o) : @LT.lt Nat instLTNat b h.objs.size := Heap.lt_size e
theorem nne {a b : Addr} (h : ¬ @Eq Nat a b) : a ≠ b := h
theorem nnot {a b : Addr} (h : a ≠ b) : ¬ @Eq Nat a b := h
theorem nslt {h : Heap} {a : Addr} {m : Str → Option Value} (n : h.Ns a m) : @LT.lt Nat instLTNat a h.objs.size := by
  obtain ⟨o, _, _, ho, _⟩ := n
  exact Heap.lt_size ho
theorem Ns.lt {h : Heap} {a : Addr} {m : Str → Option Value} (n : h.Ns a m) : a < h.objs.size := by
  obtain ⟨o, _, _, ho, _⟩ := n
  exact Heap.lt_size ho

section
variable {prog : Program} {w : World} {A : Around} {env : Env}

abbrev testsOf (env : Env) (ifs : List Expr) : Sem Bool :=
  forIn ifs true fun c r => if r = true then do let ok ← isTrue c env (eval c env); pure (ForInStep.yield ok) else pure (ForInStep.yield r)

/-- changed only below lim -/
abbrev Above (lim : Nat) (h h' : Heap) : Prop := ∀ b o, lim ≤ b → h.get? b = some o → h'.get? b = some o

/-- no two of them are one object -/
abbrev Apart (ys : List Value) : Prop := ys.Pairwise fun u v => ∀ a, u = .ref a → v ≠ .ref a
abbrev NewVal (h : Heap) (y : Value) : Prop := ∀ a, y = .ref a → h.get? a = none
abbrev LiveVal (h : Heap) (y : Value) : Prop := ∀ a, y = .ref a → ∃ o, h.get? a = some o

/-- kept, but for the block's own names, which stand as they are -/
abbrev KeptC (C : Addr) (m : Str → Option Value) (s s' : Shared) : Prop := ∃ h' tk, s' = { s with heap := h', toks := tk } ∧ (∀ b o, b ≠ C → s.heap.get? b = some o → h'.get? b = some o) ∧ h'.Ns C m
theorem Kept.toC {C : Addr} {m : Str → Option Value} {s s' : Shared} (k : Kept s s') (n : s.heap.Ns C m) : KeptC C m s s' := by
  obtain ⟨h', tk, rfl, hk⟩ := k
  exact ⟨h', tk, rfl, fun b o _ e => hk b o e, n.keeps hk⟩
theorem allNews (h₀ : Heap) (C : Addr) (h : Heap) : ∃ all, News h₀ C h all ∧ ∀ b o, b ≠ C → h₀.get? b = none → h.get? b = some o → (b, o) ∈ all := by
  refine ⟨PyProof.Rows.ownOf h₀ ((List.range h.objs.size).filter (· != C)) h, news_ownOf (by simp), fun b o hb h0 e => mem_ownOf ?_ h0 e⟩
  exact List.mem_filter.mpr ⟨List.mem_range.mpr (Heap.lt_size e), by simpa using hb⟩
theorem keptOf {h₀ h h' : Heap} {C : Addr} {m : Str → Option Value} {news : List (Addr × Obj)} (F : Fr h₀ C h' m) (N : News h₀ C h' news) (h0 : ∀ b o, h₀.get? b = some o → h.get? b = some o) (hall : ∀ b o, b ≠ C → h₀.get? b = none → h.get? b = some o → (b, o) ∈ news) :
    ∀ b o, b ≠ C → h.get? b = some o → h'.get? b = some o := by
  intro b o hb e
  cases q : h₀.get? b with
  | none => exact (N _ (hall b o hb q e)).1
  | some o₀ =>
    have := h0 b o₀ q
    rw [e] at this
    cases this
    exact F.keep b o q
theorem newValOf {h h' : Heap} {C : Addr} {m : Str → Option Value} (k : ∀ b o, b ≠ C → h.get? b = some o → h'.get? b = some o) (n : h'.Ns C m) : NewVal h (.ref h'.objs.size) := by
  intro a ha
  cases ha
  cases q : h.get? h'.objs.size with
  | none => rfl
  | some o => exact absurd (Heap.lt_size (k _ o (Nat.ne_of_gt (nslt n)) q)) (Nat.lt_irrefl _)

theorem comp_loop {R : Result → Shared → Prop} {s : Shared} {elt iter : Expr} {x : Str} {px : Pos} {ifs : List Expr} {scope : Scope} {pos : Pos} {I D : Addr} {fp wr : List Addr} {n : Nat} {P : Nat → Value → Prop} {St : Nat → Heap → Prop}
    {cenv : Env} {m : Str → Option Value} (W : Walks prog w A I fp wr n P St) (p : Nat → Bool) (G : Nat → Value → Heap → Prop)
    (hx : cenv.kindOf x = some .local) (hp : (cenv.scope.kind == .class || (cenv.scope.kind == .module && cenv.locals != cenv.globals)) = false)
    (hDl : D < cenv.locals) (hDf : D ∉ fp) (hfl : ∀ b ∈ fp, b < cenv.locals)
    (hG : ∀ i y h h', G i y h → Above (cenv.locals + 1) h h' → G i y h') (hGl : ∀ i y h, G i y h → LiveVal h y)
    (hst : St 0 s.heap) (hacc : s.heap.PlainList D #[]) (hn : s.heap.Ns cenv.locals m)
    (htests : ∀ i v s₂ m₂, i < n → P i v → s₂.heap.Ns cenv.locals m₂ → m₂ x = some v → (∀ b o, b ≠ cenv.locals → b ∉ wr → b ≠ D → s.heap.get? b = some o → s₂.heap.get? b = some o) →
      wpAny (model prog w) A (testsOf cenv ifs) (fun ok s₃ => ok = p i ∧ KeptC cenv.locals m₂ s₂ s₃) (fun _ _ => False) s₂)
    (helt : ∀ i v s₂ m₂, i < n → P i v → p i = true → s₂.heap.Ns cenv.locals m₂ → m₂ x = some v → (∀ b o, b ≠ cenv.locals → b ∉ wr → b ≠ D → s.heap.get? b = some o → s₂.heap.get? b = some o) →
      wpAny (model prog w) A (eval elt cenv) (fun y s₃ => G i y s₃.heap ∧ KeptC cenv.locals m₂ s₂ s₃ ∧ NewVal s₂.heap y) (fun _ _ => False) s₂)
    (hR : ∀ h' tk m' ys, h'.Ns cenv.locals m' → h'.PlainList D ys → Apart ys.toList → Paired (fun i y => G i y h') ((List.range n).filter p) ys.toList →
      (∀ b o, b ≠ cenv.locals → b ∉ wr → b ≠ D → s.heap.get? b = some o → h'.get? b = some o) → R (.ok .next) { s with heap := h', toks := tk })
    (hsz : n ≤ sizeLine) :
    codeAny (model prog w) A (.compLoop (.ListComp elt [⟨.Name x px, iter, ifs, 0⟩] scope pos) 0 (.ref I) (.ref D) cenv) R s := by
  have hDC : D ≠ cenv.locals := Nat.ne_of_lt hDl
  have hCf : cenv.locals ∉ fp := fun h => Nat.lt_irrefl _ (hfl _ h)
  have hCw : cenv.locals ∉ wr := fun h => hCf (W.sub _ h)
  have hDw : D ∉ wr := fun h => hDf (W.sub _ h)
  refine codeAny_compLoop_tests
    (fun k s' => ∃ h' tk m' ys, ∃ i : Nat, s' = { s with heap := h', toks := tk } ∧ St i h' ∧ h'.PlainList D ys ∧ h'.Ns cenv.locals m' ∧ Paired (fun i y => G i y h') ((List.range i).filter p) ys.toList ∧ i ≤ n ∧ k = n + 1 - i ∧ Apart ys.toList ∧
      (∀ b o, b ≠ cenv.locals → b ∉ wr → b ≠ D → s.heap.get? b = some o → h'.get? b = some o)) ?_ (n + 1)
    ⟨s.heap, s.toks, m, #[], 0, rfl, hst, hacc, hn, Paired.nil, Nat.zero_le _, rfl, List.Pairwise.nil, fun _ _ _ _ _ e => e⟩
  rintro k s' ⟨H, tk, m', ys, i, rfl, hst', hacc', hn', hF, hi, rfl, hap, hk⟩
  have off : ∀ b, cenv.locals + 1 ≤ b → b ≠ cenv.locals ∧ b ∉ wr ∧ b ≠ D := fun b hb =>
    ⟨Nat.ne_of_gt hb, fun hm => Nat.lt_asymm (hfl _ (W.sub _ hm)) hb, Nat.ne_of_gt (Nat.lt_trans hDl hb)⟩
  by_cases hlt : i < n
  · refine W.item i _ _ _ hlt hst' fun v h₁ tk₁ hPv hst₁ hk₁ => ?_
    refine wpAny_assign_Name (wpAny_storeName_local hx (hn'.at' fun o e => hk₁ _ o hCw e) (fun h₂ hn₂ hs₂ => ?_) hp)
    have up₂ : ∀ b o, b ≠ cenv.locals → b ∉ wr → H.get? b = some o → h₂.get? b = some o := fun b o hbC hbf e => hs₂.extBut b o hbC (hk₁ b o hbf e)
    have hst₂ : St (i + 1) h₂ := W.frame _ _ _ hst₁ fun b hb o e => hs₂.extBut b o (fun h => hCf (h ▸ hb)) e
    refine wpAny_mono (htests i v { s with heap := h₂, toks := tk₁ + 1 } _ hlt hPv hn₂ (by simp) (fun b o hbC hbf hbD e => up₂ b o hbC hbf (hk b o hbC hbf hbD e))) (fun ok s₃ h₃ => ?_) fun _ _ e => e.elim
    obtain ⟨rfl, h₃, tk₃, rfl, hk₃, hn₃⟩ := h₃
    replace hk₃ : ∀ b o, b ≠ cenv.locals → h₂.get? b = some o → h₃.get? b = some o := hk₃
    have hst₃ : St (i + 1) h₃ := W.frame _ _ _ hst₂ fun b hb o e => hk₃ b o (fun h => hCf (h ▸ hb)) e
    have hacc₃ : h₃.PlainList D ys := hacc'.at fun o e => hk₃ _ o hDC (up₂ D o hDC hDw e)
    have old₃ : Above (cenv.locals + 1) H h₃ := fun b o hb e => hk₃ b o (off b hb).1 (up₂ b o (off b hb).1 (off b hb).2.1 e)
    have hF₃ : Paired (fun i y => G i y h₃) ((List.range i).filter p) ys.toList := hF.mono fun a b h => hG a b _ _ h old₃
    have hr : (List.range (i + 1)).filter p = (List.range i).filter p ++ (if p i = true then [i] else []) := by
      rw [List.range_succ, List.filter_append]; simp [List.filter_cons]
    cases hpv : p i with
    | false =>
      simp only [Bool.false_eq_true, if_false]
      refine ⟨n + 1 - (i + 1), by omega, h₃, tk₃, _, ys, i + 1, rfl, hst₃, hacc₃, hn₃, ?_, hlt, rfl, hap, fun b o hbC hbf hbD e => hk₃ b o hbC (up₂ b o hbC hbf (hk b o hbC hbf hbD e))⟩
      rw [hr, hpv]; simpa using hF₃
    | true =>
      simp only [if_true]
      refine wpAny_mono (helt i v { s with heap := h₃, toks := tk₃ } _ hlt hPv hpv hn₃ (by simp) (fun b o hbC hbf hbD e => hk₃ b o hbC (up₂ b o hbC hbf (hk b o hbC hbf hbD e)))) (fun y s₄ h₄ => ?_) fun _ _ e => e.elim
      obtain ⟨hGy, ⟨h₄, tk₄, rfl, hk₄, hn₄⟩, hnew⟩ := h₄
      replace hk₄ : ∀ b o, b ≠ cenv.locals → h₃.get? b = some o → h₄.get? b = some o := hk₄
      replace hGy : G i y h₄ := hGy
      have hys : ys.size ≤ sizeLine := by
        have e1 := hF.length
        have e2 : ((List.range i).filter p).length ≤ (List.range i).length := List.length_filter_le _ _
        have e3 : (List.range i).length = i := List.length_range
        have e4 : ys.toList.length = ys.size := by simp
        omega
      refine wpAny_list_append_plain (hsz := hys) (hacc₃.at fun o e => hk₄ _ o hDC e) fun h₅ hl₅ hs₅ => ?_
      have old₅ : Above (cenv.locals + 1) h₄ h₅ := fun b o hb e => hs₅.extBut b o (off b hb).2.2 e
      refine ⟨n + 1 - (i + 1), by omega, h₅, tk₄, _, ys.push y, i + 1, rfl, ?_, hl₅, Heap.Ns.sameBut hn₄ hs₅ (Ne.symm hDC), ?_, hlt, rfl, ?_,
        fun b o hbC hbf hbD e => hs₅.extBut b o hbD (hk₄ b o hbC (hk₃ b o hbC (up₂ b o hbC hbf (hk b o hbC hbf hbD e))))⟩
      · exact W.frame _ _ h₅ hst₃ fun b hb o e => hs₅.extBut b o (fun h => hDf (h ▸ hb)) (hk₄ b o (fun h => hCf (h ▸ hb)) e)
      · rw [hr, hpv, Array.toList_push]
        exact Paired.snoc (hF₃.mono fun a b h => hG a b _ _ h (fun b o hb e => old₅ b o hb (hk₄ b o (off b hb).1 e))) (hG i y _ _ hGy old₅)
      · rw [Array.toList_push]
        refine List.pairwise_append.mpr ⟨hap, List.pairwise_singleton _ _, fun u hu v hv a hua hva => ?_⟩
        rw [List.mem_singleton.mp hv] at hva
        obtain ⟨j, hj⟩ := Paired.right hF₃ u hu
        obtain ⟨o, ho⟩ := hGl j u h₃ hj a hua
        have hno := hnew a hva
        have hno : h₃.get? a = none := hno
        rw [ho] at hno; cases hno
  · have hin : i = n := by omega
    subst hin
    refine W.done _ _ _ hst' fun h₁ tk₁ hk₁ => ?_
    have old₁ : Above (cenv.locals + 1) H h₁ := fun b o hb e => hk₁ b o (off b hb).2.1 e
    exact hR h₁ tk₁ m' ys (hn'.at' fun o e => hk₁ _ o hCw e) (hacc'.at fun o e => hk₁ _ o hDw e) hap (hF.mono fun a b h => hG a b _ _ h old₁) fun b o hbC hbf hbD e => hk₁ b o hbf (hk b o hbC hbf hbD e)

/-- what a comprehension asks of its iterator, tests and elements, at the iterator's state s₂; D is the list's place, C the block's -/
structure CompAt (prog : Program) (w : World) (A : Around) (env : Env) (scope : Scope) (cl : List (Str × Addr)) (x : Str) (ifs : List Expr) (elt : Expr) (it : Value) (s₂ : Shared) (n : Nat) (p : Nat → Bool) (G : Nat → Nat → Value → Heap → Prop) : Prop where
  at' : ∃ I fp P St, it = .ref I ∧ Walks prog w A I fp [I] n P St ∧ (∀ b ∈ fp, b < s₂.heap.objs.size) ∧ n ≤ sizeLine ∧ St 0 s₂.heap ∧
    (∀ i v s₃ m₃, i < n → P i v → s₃.heap.Ns (s₂.heap.objs.size + 1) m₃ → m₃ x = some v → (∀ b o, b ≠ I → s₂.heap.get? b = some o → s₃.heap.get? b = some o) →
      wpAny (model prog w) A (testsOf (compEnvC scope cl (s₂.heap.objs.size + 1) env) ifs) (fun ok s₄ => ok = p i ∧ KeptC (s₂.heap.objs.size + 1) m₃ s₃ s₄) (fun _ _ => False) s₃) ∧
    (∀ i v s₃ m₃, i < n → P i v → p i = true → s₃.heap.Ns (s₂.heap.objs.size + 1) m₃ → m₃ x = some v → (∀ b o, b ≠ I → s₂.heap.get? b = some o → s₃.heap.get? b = some o) →
      wpAny (model prog w) A (eval elt (compEnvC scope cl (s₂.heap.objs.size + 1) env)) (fun y s₄ => G (s₂.heap.objs.size + 2) i y s₄.heap ∧ KeptC (s₂.heap.objs.size + 1) m₃ s₃ s₄ ∧ NewVal s₃.heap y) (fun _ _ => False) s₃)

theorem comp_block {elt iter : Expr} {x : Str} {px : Pos} {ifs : List Expr} {scope : Scope} {cl : List (Str × Addr)} {pos : Pos} {s₂ : Shared} {it : Value} {n : Nat} {p : Nat → Bool} {G : Nat → Nat → Value → Heap → Prop}
    {RR : Value → Addr → Result → Shared → Prop} (X : CompAt prog w A env scope cl x ifs elt it s₂ n p G)
    (hcell : ∀ y ∈ scope.names, y.2 ≠ .cell) (hkind : scope.kind = .function) (hx : scope.names.lookup x = some .local)
    (hG : ∀ lim i y h h', G lim i y h → Above lim h h' → G lim i y h') (hGl : ∀ lim i y h, G lim i y h → LiveVal h y)
    (hRR : ∀ h' tk m' ys, h'.Ns (s₂.heap.objs.size + 1) m' → h'.PlainList s₂.heap.objs.size ys → Apart ys.toList → Paired (fun i y => G (s₂.heap.objs.size + 2) i y h') ((List.range n).filter p) ys.toList →
      (∀ b o, it ≠ .ref b → s₂.heap.get? b = some o → h'.get? b = some o) → RR (.ref s₂.heap.objs.size) (s₂.heap.objs.size + 1) (.ok .next) { s₂ with heap := h', toks := tk }) :
    wpAny (model prog w) A (newList []) (fun acc s₃ => wpAny (model prog w) A (newFunctionEnv scope env.globals cl [] env.qual none .none (some env)) (fun cenv s₄ =>
      codeAny (model prog w) A (.compStart (.ListComp elt [⟨.Name x px, iter, ifs, 0⟩] scope pos) 0 it acc { cenv with scope := relabel scope env }) (RR acc cenv.locals) s₄) (fun _ _ => False) s₃) (fun _ _ => False) s₂ := by
  obtain ⟨I, fp, P, St, rfl, W, hI, hsz, hst, htests, helt⟩ := X.at'
  refine wpAny_newObj_type (wpAny_newFunctionEnv hcell (by intro y hy; simp at hy) (fun h₁ hns₁ hsb₁ => ?_) hkind)
  dsimp only at hns₁ hsb₁ ⊢
  generalize hH2 : s₂.heap.push { cls := .type "list", dict := none, data := .seq ([] : List Value).toArray } = H2 at hns₁ hsb₁ ⊢
  have hC : H2.objs.size = s₂.heap.objs.size + 1 := by rw [← hH2, Heap.size_push]
  rw [hC] at hns₁ hsb₁ ⊢
  have old : ∀ b o, s₂.heap.get? b = some o → h₁.get? b = some o := fun b o e => hsb₁.extBut b o (Nat.ne_of_lt (Nat.lt_succ_of_lt (nlt e))) (Heap.get?_push_of_some _ (hH2 ▸ Heap.get?_push_of_some _ e))
  have hacc : h₁.PlainList s₂.heap.objs.size #[] := ⟨_, hsb₁.extBut _ _ (Nat.ne_of_lt (Nat.lt_succ_self _)) (Heap.get?_push_of_some _ (hH2 ▸ Heap.get?_push_size _ rfl))⟩
  have hst₁ : St 0 h₁ := W.frame _ _ _ hst fun b _ o e => old b o e
  have loop : ∀ s₃ : Shared, s₃ = { s₂ with heap := h₁, toks := s₂.toks + ([] : List (Str × Value)).length } →
      codeAny (model prog w) A (.compLoop (.ListComp elt [⟨.Name x px, iter, ifs, 0⟩] scope pos) 0 (.ref I) (.ref s₂.heap.objs.size) (compEnvC scope cl (s₂.heap.objs.size + 1) env))
        (RR (.ref s₂.heap.objs.size) (s₂.heap.objs.size + 1)) s₃ := by
    rintro s₃ rfl
    refine comp_loop (cenv := compEnvC scope cl (s₂.heap.objs.size + 1) env) W p (fun i y h => G (s₂.heap.objs.size + 2) i y h) (lookup_relabel_local hx) (by simp [compEnvC, relabel, hkind])
      (Nat.lt_succ_self _) (fun hm => Nat.lt_irrefl _ (hI _ hm)) (fun b hb => Nat.lt_succ_of_lt (hI b hb))
      (fun i y h h' => hG _ i y h h') (fun i y h => hGl _ i y h) hst₁ hacc hns₁ ?_ ?_ ?_ hsz
    · intro i v s₃ m₃ hi hv hn hm hk
      exact htests i v s₃ m₃ hi hv hn hm fun b o hbI e => hk b o (Nat.ne_of_lt (Nat.lt_succ_of_lt (nlt e))) (fun hm => hbI (List.mem_singleton.mp hm)) (Nat.ne_of_lt (nlt e)) (old b o e)
    · intro i v s₃ m₃ hi hv hpi hn hm hk
      exact helt i v s₃ m₃ hi hv hpi hn hm fun b o hbI e => hk b o (Nat.ne_of_lt (Nat.lt_succ_of_lt (nlt e))) (fun hm => hbI (List.mem_singleton.mp hm)) (Nat.ne_of_lt (nlt e)) (old b o e)
    · intro h' tk m' ys hn hpl hap hF hk
      exact hRR h' tk m' ys hn hpl hap hF fun b o hbI e => hk b o (Nat.ne_of_lt (Nat.lt_succ_of_lt (nlt e))) (fun hm => hbI (by rw [List.mem_singleton.mp hm])) (Nat.ne_of_lt (nlt e)) (old b o e)
  exact codeAny_compStart_list (loop _ rfl) (W.self 0 _ _ _ hst₁ (loop _ rfl))

/-- a comprehension as an expression, in a frame -/
theorem listcomp {s : Shared} {h₀ : Heap} {L : Addr} {elt iter : Expr} {x : Str} {px : Pos} {ifs : List Expr} {scope : Scope} {cl : List (Str × Addr)} {pos : Pos} {Q : Value → Shared → Prop} (n : Nat) (p : Nat → Bool) (G : Nat → Nat → Value → Heap → Prop)
    (hclos : closureFor scope env = pure cl) (hcell : ∀ y ∈ scope.names, y.2 ≠ .cell) (hkind : scope.kind = .function)
    (hnames : ∀ y ∈ scope.names, y.2 = .local → scope.names.lookup y.1 = some .local) (hx : scope.names.lookup x = some .local)
    (hG : ∀ lim i y h h', G lim i y h → Above lim h h' → G lim i y h') (hGl : ∀ lim i y h, G lim i y h → LiveVal h y)
    (h : wpAny (model prog w) A (eval iter env) (fun xv s₁ => wpAny (model prog w) A (pyIter xv) (fun it s₂ => ∃ m news, Fr h₀ L s₂.heap m ∧ News h₀ L s₂.heap news ∧ (∃ I, it = .ref I ∧ I ≠ L ∧ h₀.get? I = none ∧ ∀ q ∈ news, q.1 ≠ I) ∧
      CompAt prog w A env scope cl x ifs elt it s₂ n p G ∧
      (∀ h' tk ys k, Fr h₀ L h' m → News h₀ L h' ((s₂.heap.objs.size, listOf ys k) :: news) → Apart ys.toList → Paired (fun i y => G (s₂.heap.objs.size + 2) i y h') ((List.range n).filter p) ys.toList →
        Q (.ref s₂.heap.objs.size) { s₂ with heap := h', toks := tk })) (fun _ _ => False) s₁) (fun _ _ => False) s)
    (hs : ∀ x, foldedSetIterable iter env x = pure x) :
    wpAny (model prog w) A (eval (.ListComp elt [⟨.Name x px, iter, ifs, 0⟩] scope pos) env) Q (fun _ _ => False) s := by
  rw [eval_ListComp]
  refine wpAny_comprehension_free (use := none) rfl hs hclos hkind hnames (wpAny_mono h (fun xv s₁ h₁ => wpAny_mono h₁ (fun it s₂ h₂ => ?_) fun _ _ e => e) fun _ _ e => e)
  obtain ⟨m, news, F, N, ⟨I, rfl, hIL, hI0, hIn⟩, X, hQ⟩ := h₂
  refine comp_block (RR := fun acc C => compPost (model prog w) A (fun _ _ => False) none Q acc C) X hcell hkind hx hG hGl ?_
  intro h' tk m' ys hn hpl hap hF hk
  refine ⟨m', hn, fun h'' hs'' => ?_⟩
  replace hs'' : Heap.SameBut (s₂.heap.objs.size + 1) h' h'' := hs''
  obtain ⟨k, hpl⟩ := hpl
  have hL := F.ns.lt
  have up : ∀ b o, b ≠ I → s₂.heap.get? b = some o → h''.get? b = some o := fun b o hb e => hs''.extBut b o (Nat.ne_of_lt (Nat.lt_succ_of_lt (nlt e))) (hk b o (fun q => hb (Value.ref.inj q).symm) e)
  refine hQ h'' tk ys k ⟨F.ns.at' fun o e => up L o (Ne.symm hIL) e, fun b o e => up b o (fun q => by rw [q, hI0] at e; cases e) (F.keep b o e), F.above⟩ ?_ hap (hF.mono fun a b g => hG _ a b _ _ g fun b o hb e => hs''.extBut b o (Nat.ne_of_gt hb) e)
  intro q hq
  rcases List.mem_cons.mp hq with rfl | hq
  · exact ⟨hs''.extBut _ _ (Nat.ne_of_lt (Nat.lt_succ_self _)) hpl, Nat.ne_of_gt hL, next_is_new F⟩
  · exact ⟨up q.1 q.2 (hIn q hq) (N q hq).1, (N q hq).2⟩

/-- a comprehension stored under a name: the stores are exchanged -/
theorem listcomp_store {s : Shared} {h₀ : Heap} {elt iter : Expr} {x y : Str} {px py : Pos} {ifs : List Expr} {scope : Scope} {cl : List (Str × Addr)} {pos spos : Pos} {Q : Flow → Shared → Prop} (n : Nat) (p : Nat → Bool) (G : Nat → Nat → Value → Heap → Prop)
    (hsw : swapsWith (.ListComp elt [⟨.Name x px, iter, ifs, 0⟩] scope pos) (some (.Name y py)) spos.line env = pure true)
    (hclos : closureFor scope env = pure cl) (hcell : ∀ y ∈ scope.names, y.2 ≠ .cell) (hkind : scope.kind = .function)
    (hnames : ∀ y ∈ scope.names, y.2 = .local → scope.names.lookup y.1 = some .local) (hx : scope.names.lookup x = some .local)
    (hy : env.kindOf y = some .local) (hp : (env.scope.kind == .class || (env.scope.kind == .module && env.locals != env.globals)) = false)
    (hG : ∀ lim i y h h', G lim i y h → Above lim h h' → G lim i y h') (hGl : ∀ lim i y h, G lim i y h → LiveVal h y)
    (h : wpAny (model prog w) A (eval iter env) (fun xv s₁ => wpAny (model prog w) A (pyIter xv) (fun it s₂ => ∃ m news, Fr h₀ env.locals s₂.heap m ∧ News h₀ env.locals s₂.heap news ∧ (∃ I, it = .ref I ∧ I ≠ env.locals ∧ h₀.get? I = none ∧ ∀ q ∈ news, q.1 ≠ I) ∧
      CompAt prog w A env scope cl x ifs elt it s₂ n p G ∧
      (∀ h' tk ys k, Fr h₀ env.locals h' (fun z => if z = y then some (.ref s₂.heap.objs.size) else m z) → News h₀ env.locals h' ((s₂.heap.objs.size, listOf ys k) :: news) → Apart ys.toList → Paired (fun i y => G (s₂.heap.objs.size + 2) i y h') ((List.range n).filter p) ys.toList →
        Q .next { s₂ with heap := h', toks := tk })) (fun _ _ => False) s₁) (fun _ _ => False) s)
    (hs : ∀ x, foldedSetIterable iter env x = pure x) :
    wpAny (model prog w) A (exec (.Assign [.Name y py] (.ListComp elt [⟨.Name x px, iter, ifs, 0⟩] scope pos) spos) env) Q (fun _ _ => False) s := by
  rw [exec_Assign_Name_used _ _ _ _ hsw]
  refine wpAny_bind (wpAny_standAt (wpAny_bind ?_))
  show wpAny _ A (do let _ ← comprehension (.ListComp elt [⟨.Name x px, iter, ifs, 0⟩] scope pos) scope env _ (newList []) false (eval iter env) (some (assign (.Name y py) env))) _ _ s
  refine wpAny_bind (wpAny_mono (wpAny_comprehension_free (use := some (assign (.Name y py) env)) (Q := fun _ s' => Q .next s') rfl hs hclos hkind hnames
    (wpAny_mono h (fun xv s₁ h₁ => wpAny_mono h₁ (fun it s₂ h₂ => ?_) fun _ _ e => e) fun _ _ e => e)) (fun _ s' hq => wpAny_pure (wpAny_pure hq)) fun _ _ e => e)
  obtain ⟨m, news, F, N, ⟨I, rfl, hIL, hI0, hIn⟩, X, hQ⟩ := h₂
  refine comp_block (RR := fun acc C => compPost (model prog w) A (fun _ _ => False) (some (assign (.Name y py) env)) (fun _ s' => Q .next s') acc C) X hcell hkind hx hG hGl ?_
  intro h' tk m' ys hn hpl hap hF hk
  obtain ⟨k, hpl⟩ := hpl
  have hL := F.ns.lt
  show wpAny _ A (assign (.Name y py) env (.ref s₂.heap.objs.size)) _ _ _
  refine wpAny_assign_Name (wpAny_storeName_local hy (F.ns.at' fun o e => hk _ o (fun q => hIL (Value.ref.inj q)) e) (fun h₂ hn₂ hs₂ => ?_) hp)
  have hCL : s₂.heap.objs.size + 1 ≠ env.locals := Nat.ne_of_gt (Nat.lt_succ_of_lt (nslt F.ns))
  refine ⟨m', hn.sameBut hs₂ hCL, fun h'' hs'' => ?_⟩
  replace hs'' : Heap.SameBut (s₂.heap.objs.size + 1) h₂ h'' := hs''
  have up : ∀ b o, b ≠ I → b ≠ env.locals → s₂.heap.get? b = some o → h''.get? b = some o := fun b o hb hbL e => hs''.extBut b o (Nat.ne_of_lt (Nat.lt_succ_of_lt (nlt e))) (hs₂.extBut b o hbL (hk b o (fun q => hb (Value.ref.inj q).symm) e))
  refine hQ h'' _ ys k ⟨hn₂.sameBut hs'' (Ne.symm hCL), fun b o e => up b o (fun q => by rw [q, hI0] at e; cases e) (Nat.ne_of_lt (Nat.lt_of_lt_of_le (Heap.lt_size e) F.above)) (F.keep b o e), F.above⟩ ?_ hap
    (hF.mono fun a b g => hG _ a b _ _ g fun b o hb e => hs''.extBut b o (Nat.ne_of_gt hb) (hs₂.extBut b o (Nat.ne_of_gt (Nat.lt_trans (Nat.lt_succ_of_lt (nslt F.ns)) hb)) e))
  intro q hq
  rcases List.mem_cons.mp hq with rfl | hq
  · exact ⟨hs''.extBut _ _ (Nat.ne_of_lt (Nat.lt_succ_self _)) (hs₂.extBut _ _ (Nat.ne_of_gt (nslt F.ns)) hpl), Nat.ne_of_gt (nslt F.ns), next_is_new F⟩
  · exact ⟨up q.1 q.2 (hIn q hq) (N q hq).2.1 (N q hq).1, (N q hq).2⟩

/-- where an iterator stands: made anew, over n items -/
structure Src (prog : Program) (w : World) (A : Around) (h₀ : Heap) (L : Addr) (news : List (Addr × Obj)) (I : Addr) (fp : List Addr) (n : Nat) (P : Nat → Value → Prop) (St : Nat → Heap → Prop) (h : Heap) : Prop where
  walks : Walks prog w A I fp [I] n P St
  low : ∀ b ∈ fp, b < h.objs.size
  st : St 0 h
  off : L ∉ fp
  base : h₀.get? I = none
  apart : ∀ q ∈ news, q.1 ≠ I
theorem Src.mem {h₀ h : Heap} {L I : Addr} {news : List (Addr × Obj)} {fp : List Addr} {n : Nat} {P : Nat → Value → Prop} {St : Nat → Heap → Prop} (S : Src prog w A h₀ L news I fp n P St h) : I ∈ fp := S.walks.sub I (.head _)
theorem Src.newL {h₀ h : Heap} {L I : Addr} {news : List (Addr × Obj)} {fp : List Addr} {n : Nat} {P : Nat → Value → Prop} {St : Nat → Heap → Prop} (S : Src prog w A h₀ L news I fp n P St h) : ∃ I', Value.ref I = .ref I' ∧ I' ≠ L ∧ h₀.get? I' = none ∧ ∀ q ∈ news, q.1 ≠ I' :=
  ⟨I, rfl, fun e => S.off (e ▸ S.mem), S.base, S.apart⟩
abbrev rngObj (n : Int) (a b c : Tok) : Obj := { cls := .type "range", data := .fields #[.int 0 a, .int n b, .int 1 c] }
theorem range_it {s : Shared} {E : Value → Shared → Prop} {h₀ : Heap} {L : Addr} {m : Str → Option Value} {news : List (Addr × Obj)} {Q : Value → Shared → Prop} {k : Int} {t : Tok} {n : Nat} (hh : A.handled = none) (F : Fr h₀ L s.heap m) (N : News h₀ L s.heap news) (hn : k = n) (hk : n ≤ 1000000)
    (h : ∀ I St h' tk, Fr h₀ L h' m → News h₀ L h' news → Src prog w A h₀ L news I [I] n (fun i v => ∃ t, v = .int (i : Int) t) St h' → Q (.ref I) { s with heap := h', toks := tk }) :
    wpAny (model prog w) A (call (.type "range") [.int k t]) (fun xv s₁ => wpAny (model prog w) A (pyIter xv) Q E s₁) E s := by
  subst hn
  refine call_range_1 ?_
  have F1 := F.push (rngObj n s.toks t (s.toks + 1))
  have N1 := N.push F (rngObj n s.toks t (s.toks + 1))
  have hr : IsRange (s.heap.push (rngObj n s.toks t (s.toks + 1))) s.heap.objs.size 0 (n : Int) 1 s.toks t (s.toks + 1) := Heap.get?_push_size _ rfl
  have hsz : Builtin.Range.rangeSize 0 (n : Int) 1 = (n : Int) := by
    unfold Builtin.Range.rangeSize
    by_cases h : 0 < (n : Int)
    · rw [if_pos (by decide), if_pos h]; omega
    · have : n = 0 := by omega
      subst this; simp
  refine wpAny_pyIter_range (a := 0) (b := (n : Int)) (c := 1) hr ?_ ?_
  · have fit : ∀ i : Int, 0 ≤ i → i ≤ 1000000 → Builtin.Range.rangeFitsLong i = true := fun i h1 h2 => by
      unfold Builtin.Range.rangeFitsLong
      rw [Bool.and_eq_true]
      exact ⟨decide_eq_true (by omega), decide_eq_true (by omega)⟩
    unfold Builtin.Range.small
    rw [hsz, fit 0 (by omega) (by omega), fit n (by omega) (by omega), fit 1 (by omega) (by omega)]
    rw [if_pos (by decide), fit (n + (1 - 1)) (by omega) (by omega), Bool.or_true]
    rfl
  rw [hsz]
  show Q (Value.ref _) { s with heap := _, toks := s.toks + 1 + 1 }
  refine h (s.heap.push (rngObj n s.toks t (s.toks + 1))).objs.size (fun i h => IsRangeIter h (s.heap.push (rngObj n s.toks t (s.toks + 1))).objs.size (0 + (i : Nat) * 1) ((n : Int) - (i : Nat)) 1) _ _ (F1.push _) (fun p hp => (N1.push F1 _) p (.tail _ (.tail _ hp))) ⟨?_, ?_, ?_, ?_, ?_, ?_⟩
  · have W := Walks.range (prog := prog) (w := w) (A := A) hh (s.heap.push (rngObj n s.toks t (s.toks + 1))).objs.size 0 1 n
    have e : (fun (i : Nat) v => ∃ t, v = Value.int (0 + (i : Int) * 1) t) = fun (i : Nat) v => ∃ t, v = Value.int (i : Int) t := by
      funext i v
      have : (0 + (i : Int) * 1) = (i : Int) := by omega
      rw [this]
    rw [e] at W
    exact W
  · intro b hb
    rw [List.mem_singleton.mp hb]
    exact Nat.lt_of_lt_of_le (Nat.lt_succ_self _) (Nat.le_of_eq (Heap.size_push _ _).symm)
  · have : (0 : Int) + ((0 : Nat) : Int) * 1 = 0 := by omega
    show IsRangeIter _ _ _ _ _
    rw [this]
    have e2 : (n : Int) - ((0 : Nat) : Int) = n := by omega
    rw [e2]
    exact Heap.get?_push_size _ rfl
  · intro hm
    have e := List.mem_singleton.mp hm
    exact Nat.ne_of_lt (nslt F1.ns) e
  · exact next_is_new F1
  · intro q hq
    exact Nat.ne_of_lt (nlt (N1 q (.tail _ hq)).1)
end
end
end Mine

-- part Lcs
namespace Mine
section
/-- the table of the longest common row: lengths over the first i of a and the first j of b -/
def lc (a b : List Nat) : Nat → Nat → Nat
  | 0, _ => 0
  | _ + 1, 0 => 0
  | i + 1, j + 1 => if a[i]? = b[j]? then lc a b i j + 1 else max (lc a b (i + 1) j) (lc a b i (j + 1))
termination_by i j => (i, j)
theorem lc_zero_left (a b : List Nat) (j : Nat) : lc a b 0 j = 0 := by rw [lc]
theorem lc_zero_right (a b : List Nat) (i : Nat) : lc a b i 0 = 0 := by cases i <;> rw [lc]
theorem lc_succ (a b : List Nat) (i j : Nat) : lc a b (i + 1) (j + 1) = if a[i]? = b[j]? then lc a b i j + 1 else max (lc a b (i + 1) j) (lc a b i (j + 1)) := by rw [lc]
theorem lc_le (a b : List Nat) (i j : Nat) : lc a b i j ≤ i := by
  induction i generalizing j with
  | zero => rw [lc_zero_left]; exact Nat.le_refl _
  | succ i ih =>
    induction j with
    | zero => rw [lc_zero_right]; exact Nat.zero_le _
    | succ j ihj =>
      rw [lc_succ]
      split
      · have := ih j; omega
      · have := ih (j + 1); omega
/-- the walk back -/
def tr (a b : List Nat) : Nat → Nat → List Nat → List Nat
  | 0, _, acc => acc
  | _ + 1, 0, acc => acc
  | i + 1, j + 1, acc =>
    if lc a b (i + 1) (j + 1) = lc a b i (j + 1) then tr a b i (j + 1) acc
    else if lc a b (i + 1) (j + 1) = lc a b (i + 1) j then tr a b (i + 1) j acc
    else tr a b i j (a.getD i 0 :: acc)
termination_by i j => (i, j)
theorem tr_zero_left (a b : List Nat) (j : Nat) (acc) : tr a b 0 j acc = acc := by rw [tr]
theorem tr_zero_right (a b : List Nat) (i : Nat) (acc) : tr a b i 0 acc = acc := by cases i <;> rw [tr]
theorem tr_succ (a b : List Nat) (i j : Nat) (acc) : tr a b (i + 1) (j + 1) acc =
    if lc a b (i + 1) (j + 1) = lc a b i (j + 1) then tr a b i (j + 1) acc
    else if lc a b (i + 1) (j + 1) = lc a b (i + 1) j then tr a b (i + 1) j acc
    else tr a b i j (a.getD i 0 :: acc) := by rw [tr]
/-- Levenshtein's table -/
def lev (a b : List Nat) : Nat → Nat → Nat
  | 0, j => j
  | i + 1, 0 => i + 1
  | i + 1, j + 1 => min (min (lev a b i j + if a[i]? = b[j]? then 0 else 1) (lev a b i (j + 1) + 1)) (lev a b (i + 1) j + 1)
termination_by i j => (i, j)
theorem lev_zero_left (a b : List Nat) (j : Nat) : lev a b 0 j = j := by rw [lev]
theorem lev_zero_right (a b : List Nat) (i : Nat) : lev a b i 0 = i := by cases i <;> rw [lev]
theorem lev_succ (a b : List Nat) (i j : Nat) : lev a b (i + 1) (j + 1) = min (min (lev a b i j + if a[i]? = b[j]? then 0 else 1) (lev a b i (j + 1) + 1)) (lev a b (i + 1) j + 1) := by rw [lev]
/-- what the table holds while cell (i, j) is the last that is filled -/
def cell (a b : List Nat) (i j p q : Nat) : Nat := if p ≤ i ∨ (p = i + 1 ∧ q ≤ j) then lc a b p q else 0
theorem cell_zero (a b : List Nat) (p q : Nat) : cell a b 0 0 p q = 0 := by
  unfold cell
  split
  · rename_i h
    rcases h with h | ⟨rfl, h⟩
    · have : p = 0 := by omega
      subst this; exact lc_zero_left a b q
    · have : q = 0 := by omega
      subst this; exact lc_zero_right a b _
  · rfl
theorem cell_turn (a b : List Nat) (i p q M : Nat) (hq : q ≤ M) : cell a b i M p q = cell a b (i + 1) 0 p q := by
  unfold cell
  by_cases h1 : p ≤ i
  · rw [if_pos (.inl h1), if_pos (.inl (by omega))]
  · by_cases h2 : p = i + 1
    · subst h2; rw [if_pos (.inr ⟨rfl, hq⟩), if_pos (.inl (Nat.le_refl _))]
    · rw [if_neg (by omega)]
      split
      · rename_i h
        rcases h with h | ⟨rfl, h⟩
        · omega
        · have : q = 0 := by omega
          subst this; exact (lc_zero_right a b _).symm
      · rfl
theorem cell_step (a b : List Nat) (i j p q : Nat) : cell a b i (j + 1) p q = if p = i + 1 ∧ q = j + 1 then lc a b (i + 1) (j + 1) else cell a b i j p q := by
  unfold cell
  by_cases h : p = i + 1 ∧ q = j + 1
  · rw [if_pos h, h.1, h.2, if_pos (.inr ⟨rfl, Nat.le_refl _⟩)]
  · rw [if_neg h]
    have : (p ≤ i ∨ p = i + 1 ∧ q ≤ j + 1) ↔ (p ≤ i ∨ p = i + 1 ∧ q ≤ j) := by omega
    simp only [this]
theorem cell_full (a b : List Nat) (n p q : Nat) (hp : p ≤ n) : cell a b n 0 p q = lc a b p q := by
  unfold cell; rw [if_pos (.inl hp)]
theorem cell_old (a b : List Nat) (i j q : Nat) : cell a b i j i q = lc a b i q := by
  unfold cell; rw [if_pos (.inl (Nat.le_refl _))]
theorem cell_left (a b : List Nat) (i j : Nat) : cell a b i j (i + 1) j = lc a b (i + 1) j := by
  unfold cell; rw [if_pos (.inr ⟨rfl, Nat.le_refl _⟩)]
theorem cell_map {a b : List Nat} {i j p M : Nat} {z : Int} (hz : z = (lc a b (i + 1) (j + 1) : Int)) : ((List.range M).map fun q => (cell a b i (j + 1) p q : Int)) = (List.range M).map fun q => if p = i + 1 ∧ q = j + 1 then z else (cell a b i j p q : Int) :=
  List.map_congr_left fun q _ => by
    rw [cell_step]
    split
    · exact hz.symm
    · rfl
theorem cell_map_turn {a b : List Nat} {i p M : Nat} : ((List.range (M + 1)).map fun q => (cell a b (i + 1) 0 p q : Int)) = (List.range (M + 1)).map fun q => (cell a b i M p q : Int) :=
  List.map_congr_left fun q hq => by rw [← cell_turn a b i p q M (by have := List.mem_range.mp hq; omega)]
/-- where the walk back goes up-left, the letters agree -/
theorem tr_same (a b : List Nat) (i j : Nat) (h1 : lc a b (i + 1) (j + 1) ≠ lc a b i (j + 1)) (h2 : lc a b (i + 1) (j + 1) ≠ lc a b (i + 1) j) : a[i]? = b[j]? := by
  rw [lc_succ] at h1 h2
  by_cases h : a[i]? = b[j]?
  · exact h
  · rw [if_neg h] at h1 h2
    rcases Nat.le_total (lc a b (i + 1) j) (lc a b i (j + 1)) with e | e
    · rw [Nat.max_eq_right e] at h1; exact absurd rfl h1
    · rw [Nat.max_eq_left e] at h2; exact absurd rfl h2
end
end Mine

-- part Tab
namespace Mine
section
open PySem PySem.W PySem.Calls PyProof.Rows PySem.Spec
theorem Upd.mk' {d : Addr} {o o' : Obj} : ∀ {pre post : List (Addr × Obj)}, (∀ p ∈ pre, p.1 ≠ d) → (∀ p ∈ post, p.1 ≠ d) → Upd d o o' (pre ++ (d, o) :: post) (pre ++ (d, o') :: post)
  | [], _, _, h => .head h
  | p :: pre, post, h1, h2 => .tail (h1 p (.head _)) (Upd.mk' (fun q hq => h1 q (.tail _ hq)) h2)
theorem Upd.append {d : Addr} {o o' : Obj} {l l' pre post : List (Addr × Obj)} (U : Upd d o o' l l') (h1 : ∀ p ∈ pre, p.1 ≠ d) (h2 : ∀ p ∈ post, p.1 ≠ d) : Upd d o o' (pre ++ l ++ post) (pre ++ l' ++ post) := by
  obtain ⟨a, b, rfl, rfl, ha, hb⟩ := U.split
  have e : ∀ x, pre ++ (a ++ (d, x) :: b) ++ post = (pre ++ a) ++ (d, x) :: (b ++ post) := fun x => by simp
  rw [e, e]
  refine Upd.mk' (fun p hp => ?_) (fun p hp => ?_)
  · rcases List.mem_append.mp hp with hp | hp
    · exact h1 p hp
    · exact ha p hp
  · rcases List.mem_append.mp hp with hp | hp
    · exact hb p hp
    · exact h2 p hp

/-- the rows of a table, as a ledger -/
def rowsLed (N : Nat) (r : Nat → Addr) (ob : Nat → Obj) : List (Addr × Obj) := (List.range N).map fun p => (r p, ob p)
theorem rowsLed_mem {N : Nat} {r : Nat → Addr} {ob : Nat → Obj} {p : Nat} (h : p < N) : (r p, ob p) ∈ rowsLed N r ob := List.mem_map.mpr ⟨p, List.mem_range.mpr h, rfl⟩
theorem rowsLed_fst {N : Nat} {r : Nat → Addr} {ob : Nat → Obj} : (rowsLed N r ob).map (·.1) = (List.range N).map r := by unfold rowsLed; simp [List.map_map, Function.comp_def]
theorem rowsLed_upd {N : Nat} {r : Nat → Addr} {ob : Nat → Obj} {p₀ : Nat} {o' : Obj} (hp : p₀ < N) (inj : ∀ p q, p < N → q < N → r p = r q → p = q) :
    Upd (r p₀) (ob p₀) o' (rowsLed N r ob) (rowsLed N r fun p => if p = p₀ then o' else ob p) := by
  have hr : List.range N = List.range p₀ ++ p₀ :: ((List.range (N - p₀ - 1)).map fun k => p₀ + 1 + k) := by
    have : N = p₀ + (1 + (N - p₀ - 1)) := by omega
    rw [this, List.range_add, List.range_add]
    simp [List.range_one, List.map_map, Function.comp_def, Nat.add_assoc]
  unfold rowsLed
  rw [hr, List.map_append, List.map_cons, List.map_append, List.map_cons]
  have e1 : (List.range p₀).map (fun p => (r p, if p = p₀ then o' else ob p)) = (List.range p₀).map fun p => (r p, ob p) := by
    refine List.map_congr_left fun p hp => ?_
    have : p ≠ p₀ := by have := List.mem_range.mp hp; omega
    rw [if_neg this]
  have e2 : ((List.range (N - p₀ - 1)).map fun k => p₀ + 1 + k).map (fun p => (r p, if p = p₀ then o' else ob p)) = ((List.range (N - p₀ - 1)).map fun k => p₀ + 1 + k).map fun p => (r p, ob p) := by
    refine List.map_congr_left fun p hp => ?_
    obtain ⟨k, _, rfl⟩ := List.mem_map.mp hp
    rw [if_neg (by omega)]
  rw [e1, e2]
  have e3 : (fun p => if p = p₀ then o' else ob p) p₀ = o' := if_pos rfl
  rw [e3]
  refine Upd.mk' (fun q hq => ?_) (fun q hq => ?_)
  · obtain ⟨p, hp', rfl⟩ := List.mem_map.mp hq
    have hlt := List.mem_range.mp hp'
    intro e
    have := inj p p₀ (by omega) hp e
    omega
  · obtain ⟨p, hp', rfl⟩ := List.mem_map.mp hq
    obtain ⟨k, hk, rfl⟩ := List.mem_map.mp hp'
    have hlt := List.mem_range.mp hk
    intro e
    have := inj _ p₀ (by omega) hp e
    omega

/-- a made row of ints -/
def RowAt (lim : Nat) (ns : List Int) (y : Value) (h : Heap) : Prop := ∃ a vs k, y = .ref a ∧ lim ≤ a ∧ h.get? a = some (listOf vs k) ∧ IntsAre vs.toList ns
theorem RowAt.above {lim : Nat} {ns : List Int} {y : Value} {h h' : Heap} (x : RowAt lim ns y h) (k : Above lim h h') : RowAt lim ns y h' := by
  obtain ⟨a, vs, c, rfl, hl, ho, hi⟩ := x
  exact ⟨a, vs, c, rfl, hl, k a _ hl ho, hi⟩
theorem RowAt.live {lim : Nat} {ns : List Int} {y : Value} {h : Heap} (x : RowAt lim ns y h) : LiveVal h y := by
  obtain ⟨a, vs, c, rfl, hl, ho, hi⟩ := x
  intro b hb
  cases hb
  exact ⟨_, ho⟩

/-- the rows that a comprehension has made, as a ledger of functions -/
theorem rows_of {h₀ h : Heap} {L : Addr} {lim N : Nat} {g : Nat → List Int} {ys : List Value} (hL : @LT.lt Nat instLTNat L lim) (h0 : h₀.objs.size ≤ lim) (P : Paired (fun i y => RowAt lim (g i) y h) (List.range N) ys) (ap : Apart ys) :
    ∃ (r : Nat → Addr) (vs : Nat → Array Value) (k : Nat → Nat), ys = (List.range N).map (fun p => Value.ref (r p)) ∧ (∀ p q, p < N → q < N → r p = r q → p = q) ∧ (∀ p, p < N → IntsAre (vs p).toList (g p)) ∧ (∀ p, p < N → lim ≤ r p) ∧
      News h₀ L h (rowsLed N r fun p => listOf (vs p) (k p)) := by
  have len : ys.length = N := by rw [← P.length, List.length_range]
  have at' : ∀ p, p < N → ∃ x : Addr × Array Value × Nat, ys[p]? = some (.ref x.1) ∧ lim ≤ x.1 ∧ h.get? x.1 = some (listOf x.2.1 x.2.2) ∧ IntsAre x.2.1.toList (g p) := by
    intro p hp
    have key : ∀ {l₁ : List Nat} {l₂ : List Value}, Paired (fun i y => RowAt lim (g i) y h) l₁ l₂ → ∀ (p i : Nat), l₁[p]? = some i → ∃ y, l₂[p]? = some y ∧ RowAt lim (g i) y h := by
      intro l₁ l₂ P
      induction P with
      | nil => intro p i e; simp at e
      | cons hr _ ih =>
        intro p i e
        cases p with
        | zero => simp at e; subst e; exact ⟨_, rfl, hr⟩
        | succ p => simp at e; simpa using ih p i e
    obtain ⟨y, hy, a, vs, k, rfl, hl, ho, hi⟩ := key P p p (by simp [hp])
    exact ⟨(a, vs, k), hy, hl, ho, hi⟩
  let f : Nat → Addr × Array Value × Nat := fun p => if hp : p < N then (at' p hp).choose else (0, #[], 0)
  have hf : ∀ p, p < N → ys[p]? = some (.ref (f p).1) ∧ lim ≤ (f p).1 ∧ h.get? (f p).1 = some (listOf (f p).2.1 (f p).2.2) ∧ IntsAre (f p).2.1.toList (g p) := by
    intro p hp
    have := (at' p hp).choose_spec
    simp only [f, dif_pos hp]
    exact this
  refine ⟨fun p => (f p).1, fun p => (f p).2.1, fun p => (f p).2.2, ?_, ?_, fun p hp => (hf p hp).2.2.2, fun p hp => (hf p hp).2.1, ?_⟩
  · apply List.ext_getElem?
    intro p
    by_cases hp : p < N
    · rw [(hf p hp).1]; simp [hp]
    · rw [List.getElem?_eq_none (by omega), List.getElem?_eq_none (by simp; omega)]
  · intro p q hp hq e
    have hp' : p < ys.length := by omega
    have hq' : q < ys.length := by omega
    have ep : ys[p] = .ref (f p).1 := by have := (hf p hp).1; rw [List.getElem?_eq_getElem hp'] at this; exact Option.some.inj this
    have eq' : ys[q] = .ref (f q).1 := by have := (hf q hq).1; rw [List.getElem?_eq_getElem hq'] at this; exact Option.some.inj this
    have e : (f p).1 = (f q).1 := e
    rcases Nat.lt_trichotomy p q with h1 | h1 | h1
    · exact absurd (eq'.trans (by rw [e])) ((List.pairwise_iff_getElem.mp ap) p q hp' hq' h1 _ ep)
    · exact h1
    · exact absurd (ep.trans (by rw [e])) ((List.pairwise_iff_getElem.mp ap) q p hq' hp' h1 _ eq')
  · intro q hq
    obtain ⟨p, hp, rfl⟩ := List.mem_map.mp hq
    have hp := List.mem_range.mp hp
    have hh := hf p hp
    exact ⟨hh.2.2.1, Nat.ne_of_gt (Nat.lt_of_lt_of_le hL hh.2.1), Heap.get?_none_of_le (Nat.le_trans h0 hh.2.1)⟩


theorem ki_setL_lt : ∀ {l : List Value} {k : Nat} {v : Value}, k < l.length → ki_setL l k v = some (l.set k v)
  | [], _, _, h => by simp at h
  | x :: r, 0, v, _ => rfl
  | x :: r, k + 1, v, h => by
    unfold ki_setL
    rw [ki_setL_lt (l := r) (by simpa using h)]
    simp
theorem ints_set : ∀ {vs : List Value} {ns : List Int} {q : Nat} {z : Int} {t : Tok}, IntsAre vs ns → IntsAre (vs.set q (.int z t)) (ns.set q z)
  | _, _, _, _, _, .nil => by simpa using IntsAre.nil
  | _, _, 0, z, t, .cons n u r => .cons z t r
  | _, _, q + 1, z, t, .cons n u r => .cons n u (ints_set r)
theorem range_map_set {M q : Nat} {f : Nat → Int} {z : Int} : ((List.range M).map f).set q z = (List.range M).map fun p => if p = q then z else f p := by
  apply List.ext_getElem?
  intro i
  by_cases hi : i < M
  · rw [List.getElem?_set]
    by_cases e : q = i
    · subst e; simp [hi]
    · have e' : ¬ i = q := fun x => e x.symm
      simp [hi, e, e']
  · rw [List.getElem?_eq_none (by simp; omega), List.getElem?_eq_none (by simp; omega)]
theorem ints_zeros (n : Nat) (t : Tok) : IntsAre (List.replicate n [Value.int 0 t]).flatten (List.replicate n 0) := by
  induction n with
  | zero => exact .nil
  | succ n ih => simpa [List.replicate_succ] using IntsAre.cons 0 t ih

section
variable {prog : Program} {w : World} {A : Around} {s : Shared} {E : Value → Shared → Prop} {h₀ : Heap} {L : Addr} {m : Str → Option Value} {news : List (Addr × Obj)}
theorem read_ref {value slice : Expr} {l : Addr} {vs : Array Value} {c k : Nat} {z : Int} {u : Tok} {v : Value} {Q : Value → Shared → Prop} (N : News h₀ L s.heap news) (hm : (l, listOf vs c) ∈ news) (hz : z = k) (hk : k < 1000000) (hx : vs.toList[k]? = some v) (h : Q v s)
    (hs : subscripted slice false (.ref l) (.int z u) = operate [.ref l, .int z u] (getItem (.ref l) (.int z u)) := by with_unfolding_all rfl) (hg : ∀ r, letTemporaryGo value (.ref l) r = pure () := by intro _; with_unfolding_all rfl) :
    wpAny (model prog w) A (subscriptTail value slice (.ref l) (.int z u)) Q E s := by
  refine item_list (N.isList hm) (by omega) (by omega) ?_ h hs hg
  subst hz
  simpa using hx
theorem read_refR {value slice : Expr} {l : Addr} {vs : Array Value} {c k : Nat} {z : Int} {u : Tok} {v : Value} {Q : Value → Shared → Prop} (N : News h₀ L s.heap news) (hm : (l, listOf vs c) ∈ news) (hz : z = k) (hk : k < 1000000) (hx : vs.toList[k]? = some v) (h : Q v s)
    (hs : subscripted slice false (.ref l) (.int z u) = operate [.ref l, .int z u] (getItem (.ref l) (.int z u)) := by with_unfolding_all rfl) :
    wpAny (model prog w) A (subscriptTail value slice (.ref l) (.int z u)) Q E s := by
  refine item_listR (N.isList hm) (by omega) (by omega) ?_ h hs
  subst hz
  simpa using hx
theorem read_int {value slice : Expr} {l : Addr} {vs : Array Value} {c k M : Nat} {f : Nat → Int} {z : Int} {u : Tok} {Q : Value → Shared → Prop} (N : News h₀ L s.heap news) (hm : (l, listOf vs c) ∈ news) (hi : IntsAre vs.toList ((List.range M).map f)) (hz : z = k) (hk : k < 1000000) (hM : k < M) (h : ∀ t, Q (.int (f k) t) s)
    (hs : subscripted slice false (.ref l) (.int z u) = operate [.ref l, .int z u] (getItem (.ref l) (.int z u)) := by with_unfolding_all rfl) :
    wpAny (model prog w) A (subscriptTail value slice (.ref l) (.int z u)) Q E s := by
  obtain ⟨t, ht⟩ := hi.get k (f k) (by simp [hM])
  exact read_refR N hm hz hk ht (h t) hs
theorem upd_tab {own fix : List (Addr × Obj)} {n : Nat} {r : Nat → Addr} {ob : Nat → Obj} {p : Nat} {o' : Obj} (hp : p < n) (inj : ∀ p q, p < n → q < n → r p = r q → p = q) (h1 : ∀ q ∈ own, q.1 ≠ r p) (h2 : ∀ q ∈ fix, q.1 ≠ r p) :
    Upd (r p) (ob p) o' (own ++ (fix ++ rowsLed n r ob)) (own ++ (fix ++ rowsLed n r fun i => if i = p then o' else ob i)) := by
  have U := Upd.append (pre := own ++ fix) (post := []) (rowsLed_upd (ob := ob) (o' := o') hp inj) (fun q hq => by
    rcases List.mem_append.mp hq with hq | hq
    · exact h1 q hq
    · exact h2 q hq) (fun _ hq => nomatch hq)
  simpa using U
theorem set_tab {own fix : List (Addr × Obj)} {n : Nat} {r : Nat → Addr} {ob : Nat → Obj} {p q : Nat} {vs : Array Value} {c : Nat} {z : Int} {u : Tok} {v : Value} {Q : Unit → Shared → Prop} (F : Fr h₀ L s.heap m) (N : News h₀ L s.heap (own ++ (fix ++ rowsLed n r ob)))
    (hp : p < n) (inj : ∀ p q, p < n → q < n → r p = r q → p = q) (h1 : ∀ q ∈ own, q.1 ≠ r p) (h2 : ∀ q ∈ fix, q.1 ≠ r p) (ho : ob p = listOf vs c) (hz : z = q) (hq : q < vs.toList.length) (hq1 : q < 1000000)
    (h : ∀ h', Fr h₀ L h' m → News h₀ L h' (own ++ (fix ++ rowsLed n r fun i => if i = p then listOf (vs.toList.set q v).toArray c else ob i)) → Q () { s with heap := h' }) :
    wpAny (model prog w) A (setItem (.ref (r p)) (.int z u) v) Q E s := by
  subst hz
  refine ki_set (n := c) F N (by omega) (by omega) (ki_setL_lt hq) ?_ h
  rw [← ho]
  exact upd_tab hp inj h1 h2
end
theorem sign_at {x : Str} {i : Nat} {a : Str} (h : (signs x)[i]? = some a) : i < x.length ∧ a = ⟨#[x.cps.getD i 0]⟩ ∧ x.cps.toList[i]? = some (x.cps.getD i 0) := by
  have hl : i < (signs x).length := by
    cases q : decide (i < (signs x).length) with
    | true => exact of_decide_eq_true q
    | false => rw [List.getElem?_eq_none (by have := of_decide_eq_false q; omega)] at h; cases h
  have hx : i < x.cps.size := by have : i < x.length := (by simpa [signs_length] using hl); exact this
  have hc : x.cps[i]? = some x.cps[i] := Array.getElem?_eq_getElem hx
  have := signs_get hc
  rw [h] at this
  refine ⟨hx, ?_, ?_⟩
  · rw [Option.some.inj this]; simp [Array.getD_eq_getD_getElem?, hx]
  · simp [Array.getD_eq_getD_getElem?, hx]
theorem sign_lt {x : Str} {i : Nat} {a : Str} (h : (signs x)[i]? = some a) : i < x.length := (sign_at h).1
def setRow (vs : Nat → Array Value) (p₀ q : Nat) (v : Value) (p : Nat) : Array Value := if p = p₀ then ((vs p₀).toList.set q v).toArray else vs p
theorem set_rows {prog : Program} {w : World} {A : Around} {s : Shared} {E : Value → Shared → Prop} {h₀ : Heap} {L : Addr} {m : Str → Option Value} {own fix : List (Addr × Obj)} {n M : Nat} {r : Nat → Addr} {vs : Nat → Array Value} {kk : Nat → Nat} {g : Nat → Nat → Int} {p q : Nat} {z : Int} {u : Tok} {v : Value} {Q : Unit → Shared → Prop} (F : Fr h₀ L s.heap m) (N : News h₀ L s.heap (own ++ (fix ++ rowsLed n r fun p => listOf (vs p) (kk p))))
    (hrow : ∀ p, p < n → IntsAre (vs p).toList ((List.range M).map fun q => g p q)) (hp : p < n) (inj : ∀ p q, p < n → q < n → r p = r q → p = q) (h1 : ∀ q ∈ own, q.1 ≠ r p) (h2 : ∀ q ∈ fix, q.1 ≠ r p) (hz : z = q) (hq : q < M) (hq1 : q < 1000000)
    (h : ∀ h', Fr h₀ L h' m → News h₀ L h' (own ++ (fix ++ rowsLed n r fun i => listOf (setRow vs p q v i) (kk i))) → Q () { s with heap := h' }) :
    wpAny (model prog w) A (setItem (.ref (r p)) (.int z u) v) Q E s := by
  refine set_tab F N hp inj h1 h2 rfl hz (by rw [(hrow p hp).length]; simpa using hq) hq1 fun h' F' N' => h h' F' ?_
  have e : (fun i => if i = p then listOf ((vs p).toList.set q v).toArray (kk p) else listOf (vs i) (kk i)) = fun i => listOf (setRow vs p q v i) (kk i) := by
    funext i
    unfold setRow
    by_cases hi : i = p
    · subst hi; simp
    · simp [hi]
  rw [e] at N'
  exact N'
theorem rows_set {n M : Nat} {vs : Nat → Array Value} {g : Nat → Nat → Int} {p₀ q₀ : Nat} {z : Int} {t : Tok} (hrow : ∀ p, p < n → IntsAre (vs p).toList ((List.range M).map fun q => g p q)) (hp : p₀ < n) :
    ∀ p, p < n → IntsAre (setRow vs p₀ q₀ (.int z t) p).toList ((List.range M).map fun q => if p = p₀ ∧ q = q₀ then z else g p q) := by
  intro p hp'
  unfold setRow
  by_cases e : p = p₀
  · subst e
    simp only [if_true, true_and]
    have := ints_set (q := q₀) (z := z) (t := t) (hrow p hp)
    rw [range_map_set] at this
    exact this
  · simp only [e, if_false, false_and]
    exact hrow p hp'
theorem signs_beq {x y : Str} {i j : Nat} {a b : Str} (ha : (signs x)[i]? = some a) (hb : (signs y)[j]? = some b) : (a == b) = decide (x.cps.toList[i]? = y.cps.toList[j]?) := by
  obtain ⟨_, rfl, e1⟩ := sign_at ha
  obtain ⟨_, rfl, e2⟩ := sign_at hb
  rw [one_beq, e1, e2]
  simp
theorem read_str {prog : Program} {w : World} {A : Around} {s : Shared} {E : Value → Shared → Prop} {value slice : Expr} {x : Str} {t u : Tok} {z : Int} {k : Nat} {Q : Value → Shared → Prop} (hz : z = k) (hk : k < x.length) (hk1 : k < 1000000)
    (h : Q (.str ⟨#[x.cps.getD k 0]⟩ s.toks) { s with toks := s.toks + 1 })
    (hs : subscripted slice false (.str x t) (.int z u) = operate [.str x t, .int z u] (getItem (.str x t) (.int z u)) := by with_unfolding_all rfl)
    (ht : ∀ r, letTemporaryGo value (.str x t) r = pure () := by intro _; with_unfolding_all rfl) :
    wpAny (model prog w) A (subscriptTail value slice (.str x t) (.int z u)) Q E s := by
  subst hz
  refine PyProof.Rows.item_str (fitsSsize_of (N := 9223372036854775808) (by omega) (by omega) (Int.le_refl _)) (by omega) (by omega) (fun _ => ?_) hs ht
  rw [item_nat hk]
  exact h
end
end Mine

-- part SetStr
namespace Mine
section
open PySem PySem.W PySem.Calls PyProof.Rows PySem.Spec
/-- the texts met so far, each once -/
def metStep (σ : List Str) (v : Str) : List Str := if σ.any (· == v) then σ else σ ++ [v]
def met (ks : List Str) (i : Nat) : List Str := (ks.take i).foldl metStep []
theorem met_succ {ks : List Str} {i : Nat} {v : Str} (h : ks[i]? = some v) : met ks (i + 1) = metStep (met ks i) v := by
  unfold met
  rw [List.take_add_one, h, List.foldl_append]
  rfl
theorem metStep_any (σ : List Str) (v k : Str) : (metStep σ v).any (· == k) = (σ.any (· == k) || decide (k = v)) := by
  unfold metStep
  by_cases h : σ.any (· == v) = true
  · rw [if_pos h]
    by_cases e : k = v
    · subst e; rw [h]; simp
    · simp [e]
  · rw [if_neg h, List.any_append]
    by_cases e : k = v
    · subst e; simp
    · have hb : (v == k) = false := by simpa [beq_iff_eq] using (fun h' : v = k => e h'.symm)
      simp [hb, e]
theorem metStep_length (σ : List Str) (v : Str) : (metStep σ v).length = if σ.any (· == v) then σ.length else σ.length + 1 := by
  unfold metStep; split <;> simp
theorem met_len (ks : List Str) (i : Nat) : (met ks i).length ≤ i := by
  induction i with
  | zero => unfold met; simp
  | succ i ih =>
    cases h : ks[i]? with
    | none =>
      unfold met at ih ⊢
      rw [List.take_add_one, h]
      simpa using Nat.le_succ_of_le ih
    | some v =>
      rw [met_succ h, metStep_length]
      split <;> omega

section
variable {prog : Program} {w : World} {A : Around} {R : Result → Shared → Prop} {I : Addr} {fp wr : List Addr} {G : Array GenState → Array GenState → Prop} {P : Nat → Value → Prop} {St : Nat → Shared → Prop}
theorem set_loopS {ks : List Str} (W : WalksS prog w A.in1 I fp wr G ks.length P St) (S : Addr) (hSf : S ∉ fp)
    (hval : ∀ i v, P i v → ∃ y t, v = .str y t ∧ ks[i]? = some y) (hb : ks.length + 1 < scanBound) :
    ∀ (k i : Nat) (s : Shared), ks.length - i = k → i ≤ ks.length → St i s →
      s.heap.SetOf (strKind prog w) S (fun k' => (met ks i).any (· == k')) (met ks i).length →
      (∀ s', Moved (S :: wr) G s s' → s'.heap.SetOf (strKind prog w) S (fun k' => (met ks ks.length).any (· == k')) (met ks ks.length).length → R (.ok (.ret .none)) s') →
      codeAny (model prog w) A (.builtin "set.update.loop" ⟨[.ref S, .ref I], []⟩) R s := by
  have hSw : S ∉ wr := fun h => hSf (W.sub _ h)
  have hsub : ∀ b ∈ wr, b ∈ S :: wr := fun b hb => List.mem_cons_of_mem _ hb
  intro k
  induction k with
  | zero =>
    intro i s hk hi hst hS hR
    have hin : i = ks.length := by omega
    subst hin
    refine codeAny_builtin F.entry_set_update_loop ?_
    rw [Around.under_plainId F.plain_set_update_loop _]
    show wpAny _ A.in1 (pyNext (.ref I) >>= _) _ _ s
    refine wpAny_bind (W.done s _ _ hst fun s' hm => ?_)
    show wpAny _ A.in1 (ret Value.none) _ _ s'
    exact wpAny_pure (hR s' (hm.mono hsub) (by
      obtain ⟨o, es, ep, t, ho, rest⟩ := hS
      exact ⟨o, es, ep, t, hm.heap S _ hSw ho, rest⟩))
  | succ k ih =>
    intro i s hk hi hst hS hR
    have hlt : i < ks.length := by omega
    refine codeAny_builtin F.entry_set_update_loop ?_
    rw [Around.under_plainId F.plain_set_update_loop _]
    show wpAny _ A.in1 (pyNext (.ref I) >>= _) _ _ s
    refine wpAny_bind (W.item i s _ _ hlt hst fun v s' hP hst' hm => ?_)
    obtain ⟨y, t, rfl, hy⟩ := hval i v hP
    have hS' : s'.heap.SetOf (strKind prog w) S (fun k' => (met ks i).any (· == k')) (met ks i).length := by
      obtain ⟨o, es, ep, tb, ho, rest⟩ := hS
      exact ⟨o, es, ep, tb, hm.heap S _ hSw ho, rest⟩
    show wpAny _ A.in1 (holding [Value.str y t] (setAdd S (.str y t)) >>= _) _ _ s'
    refine wpAny_bind (wpAny_holding ?_)
    unfold setAdd
    refine wpAny_holding ?_
    have hkey : (strKind prog w).is y (.str y t) = true := by simp [PySem.strKind, Value.isStrOf]
    refine wpAny_bind ((strKind prog w).pyHash (k := y) hkey ?_)
    have hroom : (met ks i).length + 1 < scanBound := by have := met_len ks i; omega
    refine wpAny_setAddHashed_of (knd := strKind prog w) (s := { s' with toks := s'.toks + 1 }) hkey rfl hS' hroom fun h' hsb hS2 => ?_
    have hSi : h'.SetOf (strKind prog w) S (fun k' => (met ks (i + 1)).any (· == k')) (met ks (i + 1)).length :=
      SetOf_congr hS2 (fun k' => by rw [met_succ hy, metStep_any]) (by rw [met_succ hy, metStep_length])
    refine wpAny_pure ⟨plainId_quiet F.plain_set_update_loop _, ih (i + 1) _ (by omega) hlt (W.frame _ s' _ _ hst' (Nat.le_succ _) fun b hb o e => ?_) hSi fun s'' hm'' hS'' => ?_⟩
    · rw [hsb.2 b (fun h : b = S => hSf (by rw [← h]; exact hb))]; exact e
    · refine hR s'' (Moved.trans W.gtrans ((hm.mono hsub).then_heap (Nat.le_succ _) fun b o hb e => ?_) hm'') hS''
      rw [hsb.2 b (fun h : b = S => hb (by rw [h]; exact List.mem_cons_self))]; exact e
end

theorem sub_tuple_set : isSubtype (.type "tuple") (.type "set") = pure false := by rw [isSubtype_type]; kernel_rfl
theorem sub_tuple_frozenset : isSubtype (.type "tuple") (.type "frozenset") = pure false := by rw [isSubtype_type]; kernel_rfl

section
variable {prog : Program} {w : World} {A : Around} {E : Value → Shared → Prop} {s : Shared}
/-- set(t) of a tuple of texts -/
theorem set_tuple {l : Addr} {items : Array Value} {ks : List Str} {Q : Value → Shared → Prop}
    (hh : A.handled = none) (hl : s.heap.IsTuple l items) (hi : StrsAre items.toList ks) (hb : ks.length + 1 < scanBound)
    (h : ∀ (h' : Heap) (tk : Nat), h'.SetOf (strKind prog w) s.heap.objs.size (fun k' => (met ks ks.length).any (· == k')) (met ks ks.length).length →
      (∀ b o, b < s.heap.objs.size → s.heap.get? b = some o → h'.get? b = some o) → Q (.ref s.heap.objs.size) { s with heap := h', toks := tk }) :
    wpAny (model prog w) A (call (.type "set") [.ref l]) Q E s := by
  obtain ⟨c, tl, hmro⟩ := F.called_set.mro
  have hmade := F.called_set.made
  have hsub := F.called_set.sub
  refine wpAny_call (codeAny_of_tree ?_)
  show wpAny _ _ (callAny (.type "set") _) _ _ _
  refine wpAny_pure ⟨Code.quiet_builtin _ (by decide +kernel), codeAny_builtin F.entry_type_call ?_⟩
  rw [Around.under_plain (weight_type_call_type "set" [.ref l] []) rfl]
  have h1 := F.called_set.notType
  have h2 := F.called_set.canCreate
  have hct := F.typeCall_set_1 (.ref l)
  wp_delta; (with_reducible apply PySem.wpAny_ite_false); rfl; (with_reducible apply PySem.wpAny_ite_false); rfl; (with_reducible refine PySem.wpAny_bind ?_)
  (with_reducible refine PySem.wpAny_of_eq (by assumption) ?_); (with_reducible refine PySem.wpAny_bind ?_); (with_reducible refine PySem.wpAny_of_eq (by assumption) ?_); (with_reducible apply PySem.wpAny_ite_false); rfl
  (with_reducible refine PySem.wpAny_bind ?_); (with_reducible refine PySem.wpAny_of_eq (by assumption) ?_); (with_reducible refine PySem.wpAny_bind ?_); (with_reducible refine PySem.wpAny_pure ?_)
  (with_reducible refine PySem.wpAny_bind ?_); (with_reducible refine PySem.wpAny_holding ?_); (with_reducible refine PySem.wpAny_call ?_)
  refine codeAny_mono (code_set_new_1 (.ref l) (E := E) (Q₁ := fun obj s₁ => ∃ led : Bool, obj = .ref s.heap.objs.size ∧ s₁ = { s with heap := s.heap.push { cls := .type "set", dict := none, data := .set #[] 0 (.fresh 0 0 led) } }) fun led => ⟨led, rfl, rfl⟩) fun r s₁ hr => ?_
  cases r with
  | error e => exact hr
  | ok fl =>
    cases fl with
    | ret obj =>
      obtain ⟨led, rfl, rfl⟩ := hr
      have hS : (s.heap.push { cls := .type "set", dict := none, data := .set #[] 0 (.fresh 0 0 led) }).get? s.heap.objs.size = some { cls := .type "set", dict := none, data := .set #[] 0 (.fresh 0 0 led) } := Heap.get?_push_size _ rfl
      have hT : Shared.TypeIs { s with heap := s.heap.push { cls := .type "set", dict := none, data := .set #[] 0 (.fresh 0 0 led) } } (.ref s.heap.objs.size) "set" := ⟨_, hS, rfl⟩
      have hli := F.called_set.init.lookup
      have hbi := F.called_set.init.bind (.ref s.heap.objs.size)
      (with_reducible refine PySem.wpAny_bind ?_); (with_reducible refine PySem.wpAny_isInstance (by assumption) (by assumption) ?_); (with_reducible apply PySem.wpAny_ite_false); rfl; (with_reducible refine PySem.wpAny_bind ?_)
      (with_reducible refine PySem.wpAny_holding ?_); wp_delta; (with_reducible refine PySem.wpAny_bind ?_); (with_reducible refine PySem.wpAny_specialOf (by assumption) (by assumption) ?_)
      (with_reducible refine PySem.wpAny_holding ?_); (with_reducible refine PySem.wpAny_bind ?_); (with_reducible refine PySem.wpAny_of_eq (by assumption) ?_); (with_reducible refine PySem.wpAny_bind ?_)
      (with_reducible refine PySem.wpAny_call ?_)
      refine codeAny_mono (codeAny_call_builtin (R := wants (fun r s₂ => r = .none ∧ ∃ h' tk, s₂ = { s with heap := h', toks := tk } ∧
          h'.SetOf (strKind prog w) s.heap.objs.size (fun k' => (met ks ks.length).any (· == k')) (met ks ks.length).length ∧
          (∀ b o, b < s.heap.objs.size → s.heap.get? b = some o → h'.get? b = some o)) E) F.called_set.init.plain F.entry_set_init (check_set_init_1 hT ?_)) fun r₂ s₂ hr₂ => ?_
      · obtain ⟨ol, hol, hcl, nl, hdl⟩ := hl
        obtain ⟨ocls, odict, odata, oslots⟩ := ol
        simp only at hcl hdl
        subst hcl; subst hdl
        have hol' : (s.heap.push { cls := .type "set", dict := none, data := .set #[] 0 (.fresh 0 0 led) }).get? l = some { cls := .type "tuple", dict := odict, data := .seq items nl, slots := oslots } := Heap.get?_push_of_some _ hol
        have hsls := sub_tuple_set
        have hslf := sub_tuple_frozenset
        have hne : (Value.type "tuple" == Value.type "dict") = false := by decide
        have hl1 : (s.heap.push { cls := .type "set", dict := none, data := .set #[] 0 (.fresh 0 0 led) }).IsTuple l items := ⟨_, hol', rfl, nl, rfl⟩
        unfold Builtin.«set.__init__» noKeywords Builtin.Frozenset.updateFrom
        generalize hPI : pyIter = PI
        (with_reducible refine PySem.wpAny_bind ?_); (with_reducible apply PySem.wpAny_ite_true); rfl; (with_reducible refine PySem.wpAny_pure ?_); wp_delta
        (with_reducible refine PySem.wpAny_bind ?_); wp_delta; (with_reducible refine PySem.wpAny_bind ?_); wp_delta
        (with_reducible refine PySem.wpAny_bind ?_); (with_reducible refine PySem.wpAny_typeOf (by assumption) ?_); (with_reducible apply PySem.wpAny_ite_false); rfl; (with_reducible refine PySem.wpAny_pure ?_)
        wp_delta; wp_delta; (with_reducible refine PySem.wpAny_pure ?_); (with_reducible refine PySem.wpAny_bind ?_)
        wp_delta; (with_reducible apply PySem.wpAny_ite_false); rfl; (with_reducible apply PySem.wpAny_ite_false); rfl; (with_reducible apply PySem.wpAny_ite_false); rfl
        (with_reducible refine PySem.wpAny_pure ?_); (with_reducible refine PySem.wpAny_bind ?_); wp_delta; (with_reducible refine PySem.wpAny_pure ?_)
        (with_reducible refine PySem.wpAny_bind ?_); wp_delta; (with_reducible refine PySem.wpAny_bind ?_); wp_delta
        (with_reducible refine PySem.wpAny_bind ?_); (with_reducible apply PySem.wpAny_load'); heap_get; (with_reducible apply PySem.wpAny_ite_false); rfl; (with_reducible refine PySem.wpAny_pure ?_)
        (with_reducible refine PySem.wpAny_pure ?_); (with_reducible apply PySem.wpAny_ite_false); rfl; wp_delta; (with_reducible refine PySem.wpAny_bind ?_)
        (with_reducible refine PySem.wpAny_bind ?_); wp_delta; wp_delta; (with_reducible refine PySem.wpAny_bind ?_)
        wp_delta; (with_reducible refine PySem.wpAny_bind ?_); wp_delta; (with_reducible refine PySem.wpAny_bind ?_)
        (with_reducible apply PySem.wpAny_loadPart'); heap_get; (with_reducible refine PySem.wpAny_pure ?_); (with_reducible refine PySem.wpAny_of_eq (by assumption) ?_); wp_delta
        wp_delta; (with_reducible refine PySem.wpAny_bind ?_); wp_delta; (with_reducible refine PySem.wpAny_bind ?_)
        (with_reducible apply PySem.wpAny_loadPart'); heap_get; (with_reducible refine PySem.wpAny_pure ?_); (with_reducible refine PySem.wpAny_of_eq (by assumption) ?_); (with_reducible apply PySem.wpAny_ite_false); rfl
        (with_reducible refine PySem.wpAny_bind ?_); wp_delta; (with_reducible refine PySem.wpAny_bind ?_); (with_reducible apply PySem.wpAny_loadPart'); heap_get
        (with_reducible refine PySem.wpAny_pure ?_); (with_reducible apply PySem.wpAny_ite_false); rfl; (with_reducible refine PySem.wpAny_bind ?_)
        subst hPI
        refine wpAny_pyIter_tuple hl1 ?_
        refine wpAny_bind (wpAny_runValue ?_)
        have hlS : l < s.heap.objs.size := Heap.lt_size hol
        have hh3 : A.in1.in1.in1.handled = none := by simp [hh]
        have hneI : l ≠ (s.heap.push { cls := .type "set", dict := none, data := .set #[] 0 (.fresh 0 0 led) }).objs.size := by
          rw [Heap.size_push]; exact Nat.ne_of_lt (Nat.lt_succ_of_lt hlS)
        have hSf : s.heap.objs.size ∉ [(s.heap.push { cls := .type "set", dict := none, data := .set #[] 0 (.fresh 0 0 led) }).objs.size, l] := by
          rw [Heap.size_push]; simp only [List.mem_cons, List.mem_singleton, List.not_mem_nil, or_false, not_or]
          exact ⟨Nat.ne_of_lt (Nat.lt_succ_self _), Nat.ne_of_gt hlS⟩
        have hval : ∀ (i : Nat) (v : Value), items[i]? = some v → ∃ y t, v = .str y t ∧ ks[i]? = some y := fun i v hv =>
          StrsAre.item hi i v (by rw [Array.getElem?_toList]; exact hv)
        have hlen : ks.length = items.size := by have := StrsAre.len_eq hi; simpa using this.symm
        have WS : WalksS prog w A.in1.in1.in1 (s.heap.push { cls := .type "set", dict := none, data := .set #[] 0 (.fresh 0 0 led) }).objs.size _ _ _ ks.length _ _ := hlen ▸ (Walks.tuple hh3 _ l hneI items).toS
        refine set_loopS WS s.heap.objs.size
          hSf hval hb (ks.length - 0) 0 _ (by omega) (Nat.zero_le _)
          ⟨⟨_, Heap.get?_push_size _ rfl, rfl, rfl⟩, ?hT0⟩ ?hS0 ?hR
        case hT0 => exact ⟨_, Heap.get?_push_of_some _ hol', rfl, nl, rfl⟩
        case hS0 =>
          have hget : ((s.heap.push { cls := .type "set", dict := none, data := .set #[] 0 (.fresh 0 0 led) }).push { cls := .type "tuple_iterator", data := .fields #[.ref l, .int 0 0] }).get? s.heap.objs.size
              = some { cls := .type "set", dict := none, data := .set #[] 0 (.fresh 0 0 led) } := Heap.get?_push_of_some _ hS
          exact SetOf_congr ((setObjOf_fresh (knd := strKind prog w) led).setOf hget (by unfold scanBound; omega)) (fun _ => rfl) rfl
        case hR =>
          intro s' hm hS'
          obtain ⟨h', g', d', tk', os'⟩ := s'
          have eg : g' = s.gens := hm.gens
          have ed : d' = s.drawn := hm.drawn
          have eo : os' = s.os := hm.os
          subst eg; subst ed; subst eo
          show wpAny _ _ _ _ _ _
          refine wpAny_pure ?_
          show wpAny _ _ (ret Value.none) _ _ _
          refine wpAny_pure ⟨rfl, h', tk', rfl, hS', fun b o hb e => ?_⟩
          have hb1 : b ≠ s.heap.objs.size := Nat.ne_of_lt hb
          have hb2 : b ≠ (s.heap.push { cls := .type "set", dict := none, data := .set #[] 0 (.fresh 0 0 led) }).objs.size := by
            rw [Heap.size_push]; exact Nat.ne_of_lt (Nat.lt_succ_of_lt hb)
          exact hm.heap b o (by simp only [List.mem_cons, List.mem_singleton, List.not_mem_nil, or_false, not_or]; exact ⟨hb1, hb2⟩) (Heap.get?_push_of_some _ (Heap.get?_push_of_some _ e))
      · cases r₂ with
        | error e => exact hr₂
        | ok fl₂ =>
          cases fl₂ with
          | ret r =>
            obtain ⟨rfl, h', tk, rfl, hS', hk'⟩ := hr₂
            (with_reducible refine PySem.wpAny_pure ?_); (with_reducible apply PySem.wpAny_ite_false); rfl; wp_delta; wp_delta
            (with_reducible refine PySem.wpAny_pure ?_)
            exact h _ _ hS' hk'
          | _ => exact hr₂.elim
    | _ => exact hr.elim
end
theorem set_tuple_N {prog : Program} {w : World} {A : Around} {E : Value → Shared → Prop} {s : Shared} {h₀ : Heap} {L : Addr} {m : Str → Option Value} {news : List (Addr × Obj)} {D : Addr} {vs : List Value} {ks : List Str} {Q : Value → Shared → Prop}
    (hh : A.handled = none) (F : Fr h₀ L s.heap m) (N : News h₀ L s.heap news) (hm : (D, tupObj vs) ∈ news) (hi : StrsAre vs ks) (hb : ks.length ≤ 100)
    (h : ∀ h' tk o, Fr h₀ L h' m → News h₀ L h' ((s.heap.objs.size, o) :: news) → o.SetObjOf (PySem.strKind prog w) (fun k' => (met ks ks.length).any (· == k')) (met ks ks.length).length → Q (.ref s.heap.objs.size) { s with heap := h', toks := tk }) :
    wpAny (model prog w) A (call (.type "set") [.ref D]) Q E s := by
  refine set_tuple (items := vs.toArray) (ks := ks) hh ⟨_, N.get hm, rfl, _, rfl⟩ (by simpa using hi) (by unfold scanBound; omega) fun h' tk hS hk => ?_
  obtain ⟨o, ho, hso⟩ := hS.objOf
  refine h h' tk o ⟨F.ns.at' fun o' e => hk L o' (nslt F.ns) e, fun b o' e => hk b o' (Heap.lt_size (F.keep b o' e)) (F.keep b o' e), F.above⟩ (fun p hp => ?_) hso
  rcases List.mem_cons.mp hp with rfl | hp
  · exact ⟨ho, Nat.ne_of_gt (nslt F.ns), Heap.get?_none_of_le (Nat.le_trans F.above (Nat.le_of_lt (nslt F.ns)))⟩
  · exact ⟨hk _ _ (nlt (N p hp).1) (N p hp).1, (N p hp).2⟩
theorem met_two (x y : Str) : (met [x, y] 2).length = if x = y then 1 else 2 := by
  by_cases h : x = y
  · subst h; simp [met, metStep]
  · have : (x == y) = false := by simpa using h
    simp [met, metStep, h, this]
theorem met_three (x y z : Str) : ((met [x, y, z] 3).length = 1) ↔ (x = y ∧ x = z) := by
  by_cases h : x = y
  · subst h
    by_cases h2 : x = z
    · subst h2; simp [met, metStep]
    · have : (x == z) = false := by simpa using h2
      simp [met, metStep, h2, this]
  · have h1 : (x == y) = false := by simpa using h
    by_cases h2 : x = z
    · subst h2; simp [met, metStep, h, h1]
    · have h3 : (x == z) = false := by simpa using h2
      by_cases h4 : y = z
      · subst h4; simp [met, metStep, h, h1]
      · have h5 : (y == z) = false := by simpa using h4
        simp [met, metStep, h, h1, h3, h5]
end
end Mine

-- part Loop
namespace Mine
section
open PySem PySem.W PySem.Calls PyProof.Rows PySem.Spec
section
variable {prog : Program} {w : World} {A : Around} {s : Shared} {E : Value → Shared → Prop} {h₀ : Heap} {L : Addr} {m : Str → Option Value} {news : List (Addr × Obj)}
theorem ints_at : ∀ {l : List Value} {f : Nat → Int}, (∀ (j : Nat) (v : Value), l[j]? = some v → ∃ t, v = Value.int (f j) t) → IntsAre l ((List.range l.length).map f)
  | [], _, _ => .nil
  | x :: r, f, h => by
    obtain ⟨t, rfl⟩ := h 0 x rfl
    have ih := ints_at (l := r) (f := fun j => f (j + 1)) (fun j v e => h (j + 1) v (by simpa using e))
    rw [List.length_cons, List.range_succ_eq_map, List.map_cons, List.map_map]
    exact .cons (f 0) t ih
theorem rng_fit (i : Int) (h1 : 0 ≤ i) (h2 : i ≤ 1000001) : Builtin.Range.rangeFitsLong i = true := by
  unfold Builtin.Range.rangeFitsLong
  rw [Bool.and_eq_true]
  exact ⟨decide_eq_true (by omega), decide_eq_true (by omega)⟩
theorem rng_size (a n : Nat) : Builtin.Range.rangeSize (a : Int) ((a + n : Nat) : Int) 1 = (n : Int) := by
  unfold Builtin.Range.rangeSize
  by_cases h : (a : Int) < ((a + n : Nat) : Int)
  · rw [if_pos (by decide), if_pos h]; omega
  · have : n = 0 := by omega
    subst this; simp
theorem rng_small (a n : Nat) (ha : a ≤ 1) (hn : n ≤ 1000000) : Builtin.Range.small (a : Int) ((a + n : Nat) : Int) 1 = true := by
  unfold Builtin.Range.small
  rw [rng_size, rng_fit a (by omega) (by omega), rng_fit ((a + n : Nat) : Int) (by omega) (by omega), rng_fit 1 (by omega) (by omega)]
  rw [if_pos (by decide), rng_fit (((a + n : Nat) : Int) + (1 - 1)) (by omega) (by omega)]
  simp
  exact rng_fit n (by omega) (by omega)
/-- range(1, k) and an iterator over it -/
theorem range1_it {Q : Value → Shared → Prop} {k : Int} {t u : Tok} {n : Nat} (hh : A.handled = none) (F : Fr h₀ L s.heap m) (N : News h₀ L s.heap news) (hn : k = ((1 + n : Nat) : Int)) (hk : n ≤ 1000000)
    (h : ∀ I St h' tk, Fr h₀ L h' m → News h₀ L h' news → Src prog w A h₀ L news I [I] n (fun i v => ∃ t, v = .int (1 + (i : Int)) t) St h' → (∀ i h, St i h → ∃ o, h.get? I = some o) → Q (.ref I) { s with heap := h', toks := tk }) :
    wpAny (model prog w) A (call (.type "range") [.int 1 t, .int k u]) (fun xv s₁ => wpAny (model prog w) A (pyIter xv) Q E s₁) E s := by
  subst hn
  refine call_range_2 ?_
  generalize hR : ({ cls := .type "range", data := .fields #[.int 1 t, .int ((1 + n : Nat) : Int) u, .int 1 s.toks] } : Obj) = R
  have hf : R.isFreed = false := by subst hR; rfl
  have F1 := F.push R
  have N1 := N.push F R hf
  have hr : IsRange (s.heap.push R) s.heap.objs.size 1 ((1 + n : Nat) : Int) 1 t u s.toks := by rw [← hR]; exact Heap.get?_push_size _ rfl
  refine wpAny_pyIter_range (a := 1) (b := ((1 + n : Nat) : Int)) (c := 1) hr (rng_small 1 n (Nat.le_refl _) hk) ?_
  have hsz : Builtin.Range.rangeSize 1 ((1 + n : Nat) : Int) 1 = (n : Int) := rng_size 1 n
  rw [hsz]
  refine h (s.heap.push R).objs.size (fun i h => IsRangeIter h (s.heap.push R).objs.size (1 + (i : Nat) * 1) ((n : Int) - (i : Nat)) 1) _ _ (F1.push _) (fun p hp => (N1.push F1 _) p (.tail _ (.tail _ hp))) ⟨?_, ?_, ?_, ?_, ?_, ?_⟩ (fun i h st => ⟨_, st⟩)
  · have W := Walks.range (prog := prog) (w := w) (A := A) hh (s.heap.push R).objs.size 1 1 n
    have e : (fun (i : Nat) v => ∃ t, v = Value.int (1 + (i : Int) * 1) t) = fun (i : Nat) v => ∃ t, v = Value.int (1 + (i : Int)) t := by
      funext i v
      have : (1 + (i : Int) * 1) = 1 + (i : Int) := by omega
      rw [this]
    rw [e] at W
    exact W
  · intro b hb
    rw [List.mem_singleton.mp hb]
    exact Nat.lt_of_lt_of_le (Nat.lt_succ_self _) (Nat.le_of_eq (Heap.size_push _ _).symm)
  · have : (1 : Int) + ((0 : Nat) : Int) * 1 = 1 := by omega
    show IsRangeIter _ _ _ _ _
    rw [this]
    have e2 : (n : Int) - ((0 : Nat) : Int) = n := by omega
    rw [e2]
    exact Heap.get?_push_size _ rfl
  · intro hm
    exact Nat.ne_of_lt (nslt F1.ns) (List.mem_singleton.mp hm)
  · exact next_is_new F1
  · intro q hq
    exact Nat.ne_of_lt (nlt (N1 q (.tail _ hq)).1)

theorem mk_range {Q : Value → Shared → Prop} {k : Int} {t : Tok} (F : Fr h₀ L s.heap m) (N : News h₀ L s.heap news)
    (h : ∀ h', Fr h₀ L h' m → News h₀ L h' ((s.heap.objs.size, rngObj k s.toks t (s.toks + 1)) :: news) → Q (.ref s.heap.objs.size) { s with heap := h', toks := s.toks + 1 + 1 }) :
    wpAny (model prog w) A (call (.type "range") [.int k t]) Q E s :=
  call_range_1 (h _ (F.push _) (N.push F _))
/-- list(range(k)) -/
theorem list_range_ints {Q : Value → Shared → Prop} {k : Int} {r : Addr} {t t1 t2 : Tok} {n : Nat} (hh : A.handled = none) (F : Fr h₀ L s.heap m) (N : News h₀ L s.heap news) (hm : (r, rngObj k t1 t t2) ∈ news) (hn : k = n) (hk : n ≤ 1000000)
    (h : ∀ h' tk (vs : Array Value) c, Fr h₀ L h' m → News h₀ L h' ((s.heap.objs.size, listOf vs c) :: news) → IntsAre vs.toList ((List.range n).map fun (q : Nat) => (q : Int)) → Q (.ref s.heap.objs.size) { s with heap := h', toks := tk }) :
    wpAny (model prog w) A (call (.type "list") [.ref r]) Q E s := by
  subst hn
  have hr : IsRange s.heap r 0 (n : Int) 1 t1 t t2 := (N _ hm).1
  have e0 : ((0 + n : Nat) : Int) = (n : Int) := by omega
  refine call_list_range hh hr (by have := rng_small 0 n (Nat.zero_le _) hk; rw [e0] at this; exact this) (n := n) (by have := rng_size 0 n; rw [e0] at this; exact this) (by omega) ?_
  intro h' tk acc' c' hk' ho hi
  refine h h' tk acc' c' (F.keeps hk') (fun q hq => ?_) ?_
  · rcases List.mem_cons.mp hq with rfl | hq
    · exact ⟨ho, Nat.ne_of_gt (nslt F.ns), next_is_new F⟩
    · exact N.keeps hk' q hq
  · obtain ⟨hs, hi⟩ := hi
    have := ints_at (l := acc'.toList) (f := fun (q : Nat) => (q : Int)) (fun j v e => by
      obtain ⟨t, rfl⟩ := hi j v (by simpa using e)
      exact ⟨t, by congr 1; omega⟩)
    simpa [hs] using this
theorem mul_zero {l : Addr} {t0 u : Tok} {z : Int} {n : Nat} {Q : Value → Shared → Prop} (F : Fr h₀ L s.heap m) (N : News h₀ L s.heap news) (hm : (l, listOf #[.int 0 t0] 0) ∈ news) (hz : z = n) (hn : n ≤ 100000)
    (h : ∀ h' vs, Fr h₀ L h' m → News h₀ L h' ((s.heap.objs.size, listOf vs 0) :: news) → IntsAre vs.toList (List.replicate n 0) → Q (.ref s.heap.objs.size) { s with heap := h' }) :
    wpAny (model prog w) A (binaryOp .Mult (.ref l) (.int z u)) Q E s := by
  subst hz
  refine mul_list F N (N.get hm) (by omega) (by omega) (by simp; omega) fun h' F' N' => h h' _ F' N' ?_
  rw [listMul_foldl_if]
  have := ints_zeros n t0
  simpa using this
theorem fresh_ne {h h₁ : Heap} (N : News h₀ L h news) (hm : h.objs.size ≤ h₁.objs.size) : ∀ q ∈ news, q.1 ≠ h₁.objs.size := fun q hq e => by
  have := nlt (N q hq).1
  have e : @Eq Nat q.1 h₁.objs.size := e
  omega
theorem set_cell1 {l : Addr} {vs : Array Value} {c q : Nat} {z : Int} {u : Tok} {v : Value} {pre post : List (Addr × Obj)} {Q : Unit → Shared → Prop} (F : Fr h₀ L s.heap m) (N : News h₀ L s.heap (pre ++ (l, listOf vs c) :: post)) (h1 : ∀ p ∈ pre, p.1 ≠ l) (h2 : ∀ p ∈ post, p.1 ≠ l) (hz : z = q) (hq : q < vs.toList.length) (hq1 : q < 1000000)
    (h : ∀ h', Fr h₀ L h' m → News h₀ L h' (pre ++ (l, listOf (vs.toList.set q v).toArray c) :: post) → Q () { s with heap := h' }) :
    wpAny (model prog w) A (setItem (.ref l) (.int z u) v) Q E s := by
  subst hz
  exact ki_set (n := c) F N (by omega) (by omega) (ki_setL_lt hq) (Upd.mk' h1 h2) h
theorem min3_N {a b c : Int} {t u x : Tok} {Q : Value → Shared → Prop} (hh : A.handled = none) (F : Fr h₀ L s.heap m) (N : News h₀ L s.heap news)
    (h : ∀ h' tk t', Fr h₀ L h' m → News h₀ L h' news → Q (.int (min (min a b) c) t') { s with heap := h', toks := tk }) :
    wpAny (model prog w) A (call (.builtin "min") [.int a t, .int b u, .int c x]) Q E s := by
  refine min_three_ints hh fun h' tk hk => ?_
  have key : ∃ t', (if b < a then (if c < b then Value.int c x else .int b u) else (if c < a then .int c x else .int a t)) = .int (min (min a b) c) t' := by
    by_cases h1 : b < a
    · by_cases h2 : c < b
      · exact ⟨x, by rw [if_pos h1, if_pos h2]; congr 1; omega⟩
      · exact ⟨u, by rw [if_pos h1, if_neg h2]; congr 1; omega⟩
    · by_cases h2 : c < a
      · exact ⟨x, by rw [if_neg h1, if_pos h2]; congr 1; omega⟩
      · exact ⟨t, by rw [if_neg h1, if_neg h2]; congr 1; omega⟩
  obtain ⟨t', e⟩ := key
  rw [e]
  exact h h' tk t' (F.keeps hk) (N.keeps hk)
theorem chars_eq {x y : Str} {i j : Nat} (hi : i < x.length) (hj : j < y.length) : ((⟨#[x.cps.getD i 0]⟩ : Str) = ⟨#[y.cps.getD j 0]⟩) ↔ x.cps.toList[i]? = y.cps.toList[j]? := by
  have h1 : i < x.cps.size := hi
  have h2 : j < y.cps.size := hj
  simp [Array.getD_eq_getD_getElem?, h1, h2]
theorem lev_cell {x y : Str} {i j : Nat} (hi : i < x.length) (hj : j < y.length) :
    min (min ((lev x.cps.toList y.cps.toList i j : Int) + if (!decide ((⟨#[x.cps.getD i 0]⟩ : Str) = ⟨#[y.cps.getD j 0]⟩)) = true then (1 : Int) else 0) ((lev x.cps.toList y.cps.toList i (j + 1) : Int) + 1)) ((lev x.cps.toList y.cps.toList (i + 1) j : Int) + 1) = (lev x.cps.toList y.cps.toList (i + 1) (j + 1) : Int) := by
  have e := chars_eq hi hj
  rw [lev_succ]
  by_cases h : x.cps.toList[i]? = y.cps.toList[j]?
  · rw [if_pos h]
    have : (!decide ((⟨#[x.cps.getD i 0]⟩ : Str) = ⟨#[y.cps.getD j 0]⟩)) = false := by rw [decide_eq_true (e.mpr h)]; rfl
    rw [this]
    simp only [Bool.false_eq_true, if_false]
    omega
  · rw [if_neg h]
    have : (!decide ((⟨#[x.cps.getD i 0]⟩ : Str) = ⟨#[y.cps.getD j 0]⟩)) = true := by rw [decide_eq_false (fun h' => h (e.mp h'))]; rfl
    rw [this]
    simp only [if_true]
    omega
theorem row_step {f : Nat → Int} {M j : Nat} {z : Int} (hz : z = f (j + 1)) : ((List.range M).map fun p => if p = j + 1 then z else if p ≤ j then f p else 0) = (List.range M).map fun q => if q ≤ j + 1 then f q else 0 :=
  List.map_congr_left fun p _ => by
    by_cases h : p = j + 1
    · subst h; simp [hz]
    · by_cases h2 : p ≤ j
      · rw [if_neg h, if_pos h2, if_pos (by omega)]
      · rw [if_neg h, if_neg h2, if_neg (by omega)]
theorem row_full {f : Nat → Int} {M : Nat} : ((List.range (M + 1)).map fun q => if q ≤ M then f q else 0) = (List.range (M + 1)).map f :=
  List.map_congr_left fun p hp => by rw [if_pos (by have := List.mem_range.mp hp; omega)]
/-- an iterator over a list -/
theorem list_src {Q : Value → Shared → Prop} {a : Addr} {its : Array Value} {k : Nat} (hh : A.handled = none) (F : Fr h₀ L s.heap m) (N : News h₀ L s.heap news) (hm : (a, listOf its k) ∈ news)
    (h : ∀ I St h', Fr h₀ L h' m → News h₀ L h' news → Src prog w A h₀ L news I [I, a] its.size (fun i v => its[i]? = some v) St h' → (∀ i h, St i h → ∃ o, h.get? I = some o) → a ≠ I → Q (.ref I) { s with heap := h' }) :
    wpAny (model prog w) A (pyIter (.ref a)) Q E s := by
  have hl : s.heap.IsList a its := N.isList hm
  refine wpAny_pyIter_list hl ?_
  have hne : a ≠ s.heap.objs.size := Nat.ne_of_lt (nlt (N _ hm).1)
  have F1 := F.push { cls := .type "list_iterator", data := .fields #[.ref a, .int 0 0] }
  have N1 := N.push F { cls := .type "list_iterator", data := .fields #[.ref a, .int 0 0] }
  refine h s.heap.objs.size (fun i h => h.IsListIter s.heap.objs.size a i ∧ h.IsList a its) _ F1 (fun q hq => N1 q (.tail _ hq)) ⟨Walks.list hh _ a hne its, ?_, ⟨⟨_, Heap.get?_push_size _ rfl, rfl, rfl⟩, hl.push _⟩, ?_, next_is_new F, fun q hq => Nat.ne_of_lt (nlt (N q hq).1)⟩ (fun i h st => ⟨_, st.1.choose_spec.1⟩) hne
  · intro b hb
    rw [Heap.size_push]
    rcases List.mem_cons.mp hb with rfl | hb
    · exact Nat.lt_succ_self _
    · rw [List.mem_singleton.mp hb]
      exact Nat.lt_succ_of_lt (nlt (N _ hm).1)
  · intro hb
    rcases List.mem_cons.mp hb with e | hb
    · exact Nat.ne_of_lt (nslt F.ns) e
    · exact (N _ hm).2.1 (List.mem_singleton.mp hb).symm
theorem evalPart_N {M : Model} {A : Around} {E : Value → Shared → Prop} {s : Shared} {env : Env} {Q : Value → Shared → Prop} (h : Q .none s) : wpAny M A (evalPart none env) Q E s := wpAny_pure h
theorem evalPart_S {M : Model} {A : Around} {E : Value → Shared → Prop} {s : Shared} {env : Env} {e : Expr} {Q : Value → Shared → Prop} (h : wpAny M A (eval e env) Q E s) : wpAny M A (evalPart (some e) env) Q E s := h
theorem News.drop2 {h : Heap} {p q : Addr × Obj} (N : News h₀ L h (p :: q :: news)) : News h₀ L h (p :: news) := fun r hr => by
  rcases List.mem_cons.mp hr with rfl | hr
  · exact N _ (.head _)
  · exact N r (.tail _ (.tail _ hr))
/-- a loop over a source -/
theorem loop_src {env : Env} {x : Str} {body : List Stmt} {Q : Flow → Shared → Prop} {I : Addr} {fp : List Addr} {n : Nat} {P : Nat → Value → Prop} {St : Nat → Heap → Prop} (J : Nat → (Str → Option Value) → List (Addr × Obj) → Prop)
    (F : Fr h₀ env.locals s.heap m) (N : News h₀ env.locals s.heap news) (S : Src prog w A h₀ env.locals news I fp n P St s.heap) (hI : ∀ i h, St i h → ∃ o, h.get? I = some o) (h0 : J 0 m news)
    (turn : ∀ i v m₁ news₁ h tk own, i < n → P i v → J i m₁ news₁ → (∀ p ∈ news₁, p.1 ≠ I) → (∃ o, (I, o) ∈ own) → (∀ p ∈ own, p.1 ∈ fp) → Fr h₀ env.locals h (fun y => if y = x then some v else m₁ y) → News h₀ env.locals h (own ++ news₁) →
      wpAny (model prog w) A (execs body env) (LoopStepV h₀ env.locals [I] own (J (i + 1)) { s with heap := h, toks := tk } (fun v s' => Q (.ret v) s') fun s' => Q .next s') E { s with heap := h, toks := tk })
    (done : ∀ m₁ news₁ h tk, J n m₁ news₁ → Fr h₀ env.locals h m₁ → News h₀ env.locals h news₁ → Q .next { s with heap := h, toks := tk }) :
    LoopAtV prog w A h₀ env x body Q E (.ref I) s := by
  refine ⟨I, fp, [I], n, P, St, m, news, J, rfl, S.walks, S.off, ?_, ?_, S.st, F, N, h0, ?_, ?_⟩
  · intro b hb
    rw [List.mem_singleton.mp hb]
    exact S.base
  · intro p hp hm
    exact S.apart p hp (List.mem_singleton.mp hm)
  · rintro i v m₁ news₁ s₁ own ⟨h, tk, rfl⟩ hi hP hJ hnw hfp _ hown hst F1 N1
    obtain ⟨o, ho⟩ := hI _ _ hst
    exact turn i v m₁ news₁ h tk own hi hP hJ (fun p hp e => hnw p hp (e ▸ .head _)) ⟨o, hown I S.mem S.base o ho⟩ hfp F1 N1
  · intro h' tk m' news' F1 N1 _ hJ
    exact done m' news' h' tk hJ F1 N1
end
end
end Mine

-- part Inst
namespace Mine
section
open PySem PySem.W PySem.Calls PyProof.Rows PySem.Spec
theorem if_is_T {P Q : Prop} {c : Bool} (hc : c = true) (h : P) : if c = true then P else Q := by rw [if_pos hc]; exact h
theorem if_is_F {P Q : Prop} {c : Bool} (hc : c = false) (h : Q) : if c = true then P else Q := by rw [if_neg (by rw [hc]; decide)]; exact h
/-- the names that a measure does not hold itself -/
def clsNames : List Str := ["_ident", "_get_sequences", "quick_answer", "maximum", "distance", "similarity", "_cycled", "_dynamic", "_recursive"]
/-- a measure as it was made: qval 1, test_func the class's own -/
structure SelfAt (h : Heap) (x C : Addr) (es : List DictEntry) (n : Nat) : Prop where
  dx : ∃ dx, h.get? x = some (instObj C dx) ∧ h.get? dx = some (dictOf es n)
  q : ∃ t, getL "qval" es = some (some (.int 1 t))
  f : getL "test_func" es = some (some (.ref 100))
  no : ∀ nm ∈ clsNames, getL nm es = some none
theorem SelfAt.keeps {h h' : Heap} {x C : Addr} {es : List DictEntry} {n : Nat} (S : SelfAt h x C es n) (k : ∀ b o, h.get? b = some o → h'.get? b = some o) : SelfAt h' x C es n := by
  obtain ⟨dx, h1, h2⟩ := S.dx
  exact ⟨⟨dx, k _ _ h1, k _ _ h2⟩, S.q, S.f, S.no⟩
theorem SelfAt.inst {h : Heap} {x C : Addr} {es : List DictEntry} {n : Nat} (S : SelfAt h x C es n) : ∃ dx, InstAt h x (instObj C dx) C (some (dictOf es n)) := by
  obtain ⟨dx, h1, h2⟩ := S.dx
  exact ⟨dx, ⟨h1, rfl, rfl, h2⟩⟩
theorem inOf {w : World} {h₀ h : Heap} {L : Addr} {m : Str → Option Value} (F : Fr h₀ L h m) (O : Ok w h₀) : (hd.heap_1 w.params).In h := (O.keeps F.keep).k
section
variable {prog : Program} {w : World} {A : Around} {E : Value → Shared → Prop} {s : Shared} {x C p L : Addr} {name : Str} {h₀ : Heap} {m : Str → Option Value} {news : List (Addr × Obj)} {es : List DictEntry} {n : Nat} {pl : Sem Bool} {fv : Value} {rest : List Value}
/-- a value that the object holds -/
theorem s_get {expr : Bool} {Q : Value → Shared → Prop} {v : Value} (F : Fr h₀ L s.heap m) (O : Ok w h₀) (S : SelfAt h₀ x C es n) (hl : getL name es = some (some v)) (hg : plainGet (hd.heap_1 w.params) C name = true) (hh : hasDictIn (hd.heap_1 w.params) C = true)
    (ha : findIn (hd.heap_1 w.params) (.ref C) name = some none) (hn : noGet (hd.heap_1 w.params) none = true) (hv : handedIn v = true) (h : Q v { s with toks := s.toks + 1 }) :
    wpAny (model prog w) A (getAttr (.ref x) name expr) Q E s := by
  obtain ⟨dx, I⟩ := (S.keeps F.keep).inst
  exact get_own F O.k I hg hh ha hn hl hv h
/-- a value that the object holds, called -/
theorem s_own {Q : Value × List Value → Shared → Prop} {v : Value} (F : Fr h₀ L s.heap m) (O : Ok w h₀) (S : SelfAt h₀ x C es n) (hl : getL name es = some (some v)) (hg : plainGet (hd.heap_1 w.params) C name = true) (hh : hasDictIn (hd.heap_1 w.params) C = true)
    (ha : findIn (hd.heap_1 w.params) (.ref C) name = some none) (hn : noGet (hd.heap_1 w.params) none = true) (hv : handedIn v = true) (h : Q (v, []) { s with toks := s.toks + 1 }) :
    wpAny (model prog w) A (getMethod (.ref x) name pl) Q E s := by
  obtain ⟨dx, I⟩ := (S.keeps F.keep).inst
  exact kmu_own F O.k I hg ha (get_own F O.k I hg hh ha hn hl hv h)
/-- a method of its class -/
theorem s_meth {Q : Value × List Value → Shared → Prop} {f : Addr} (F : Fr h₀ L s.heap m) (O : Ok w h₀) (S : SelfAt h₀ x C es n) (hm : name ∈ clsNames) (hg : plainGet (hd.heap_1 w.params) C name = true)
    (hf : findIn (hd.heap_1 w.params) (.ref C) name = some (some (.ref f))) (ht : isFn (hd.heap_1 w.params) (.ref f) = true) (h : Q (.ref f, [.ref x]) s) : wpAny (model prog w) A (getMethod (.ref x) name pl) Q E s := by
  obtain ⟨dx, I⟩ := (S.keeps F.keep).inst
  exact method_inst F O.k I hg hf ht (S.no name hm) h
/-- a static method of its class -/
theorem s_stat {Q : Value × List Value → Shared → Prop} (F : Fr h₀ L s.heap m) (O : Ok w h₀) (S : SelfAt h₀ x C es n) (hm : name ∈ clsNames) (hg : plainGet (hd.heap_1 w.params) C name = true) (hh : hasDictIn (hd.heap_1 w.params) C = true) (ha : findIn (hd.heap_1 w.params) (.ref C) name = some (some (.ref p))) (ht : typeIn (hd.heap_1 w.params) (.ref p) = some (.type "staticmethod"))
    (hgf : specialIn (hd.heap_1 w.params) (.ref p) "__get__" = some (some (.builtin "staticmethod.__get__"))) (hts : takesIn (hd.heap_1 w.params) (.ref p) = some false) (hc : copiedNames.contains name = false) (hp : recIn (hd.heap_1 w.params) p "staticmethod" = some (fv :: rest)) (hv : handedIn fv = true)
    (h : Q (fv, []) { s with toks := s.toks + 1 }) : wpAny (model prog w) A (getMethod (.ref x) name pl) Q E s := by
  obtain ⟨dx, I⟩ := (S.keeps F.keep).inst
  exact kmu_sm F O.k I hg hh ha ht hgf hts hc (S.no name hm) hp hv h
end
end
end Mine

-- part Map
namespace Mine
section
open PySem PySem.W PySem.Calls PyProof.Rows PySem.Spec
theorem owner_map : Manifest.owners.lookup (String.ofList ['p', 'a', 'm'].reverse) = some Manifest.sig_map := by kernel_rfl
theorem slot_map_init : Slot "map" "__init__" "object.__init__" :=
  .of (owner := "object") (n := "__init__") (by rw [typeLookup_type, builtinLookup_eq_fast]; kernel_rfl) (by decide +kernel) (by decide +kernel) (by decide +kernel)
    (by first | exact .inl (by decide +kernel) | exact .inr (by decide +kernel)) (by rw [isSubtype_type]; kernel_rfl)
theorem slot_map_iter : Slot "map" "__iter__" "map.__iter__" :=
  .of (owner := "map") (n := "__iter__") (by rw [typeLookup_type, builtinLookup_eq_fast]; kernel_rfl) (by decide +kernel) (by decide +kernel) (by decide +kernel)
    (by first | exact .inl (by decide +kernel) | exact .inr (by decide +kernel)) (by rw [isSubtype_type]; kernel_rfl)
theorem slot_map_next : Slot "map" "__next__" "map.__next__" :=
  .of (owner := "map") (n := "__next__") (by rw [typeLookup_type, builtinLookup_eq_fast]; kernel_rfl) (by decide +kernel) (by decide +kernel) (by decide +kernel)
    (by first | exact .inl (by decide +kernel) | exact .inr (by decide +kernel)) (by rw [isSubtype_type]; kernel_rfl)
theorem args_map_iter_1 (a : Value) : argsOk "map.__iter__" ⟨[a], []⟩ := by
  unfold argsOk; rw [signature?_of (id := "map.__iter__") (n := ['_', '_', 'r', 'e', 't', 'i', '_', '_']) (o := ['p', 'a', 'm']) (by kernel_rfl) owner_map]; kernel_rfl
theorem args_map_next_1 (a : Value) : argsOk "map.__next__" ⟨[a], []⟩ := by
  unfold argsOk; rw [signature?_of (id := "map.__next__") (n := ['_', '_', 't', 'x', 'e', 'n', '_', '_']) (o := ['p', 'a', 'm']) (by kernel_rfl) owner_map]; kernel_rfl
theorem entry_map_new : entryFor table "map.__new__" = some Builtin.«map.__new__» := entryFor_of_tree (by kernel_rfl)
theorem entry_map_next : entryFor table "map.__next__" = some Builtin.«map.__next__» := entryFor_of_tree (by kernel_rfl)
theorem entry_map_iter : entryFor table "map.__iter__" = some Builtin.«dict_keyiterator.__iter__» :=
  entryFor_alias (id' := "dict_keyiterator.__iter__") (by kernel_rfl) (by first | rfl | decide +kernel | (unfold String.splitOn; simp +decide [String.splitOnAux])) (by decide +kernel) (by kernel_rfl)
theorem mro_map : mroOf (.type "map") = pure [.type "map", .type "object"] := by rw [mroOf_type]; kernel_rfl
theorem lookup_map_new : typeLookup (.type "map") "__new__" = pure (some (.builtin "map.__new__")) := by rw [typeLookup_type, builtinLookup_eq_fast]; kernel_rfl
theorem called_map : TypeCalled "map" "map.__new__" "object.__init__" :=
  ⟨by decide +kernel, by decide +kernel, ⟨_, _, mro_map⟩, madeBy_type mro_map lookup_map_new (by decide +kernel), by decide +kernel, by rw [isSubtype_type]; kernel_rfl, slot_map_init⟩
theorem typeCall_map_2 (a b : Value) : checkTypeCall "map" ⟨[a, b], []⟩ = pure () := by kernel_rfl
theorem newCall_map_2 (a b : Value) : checkBuiltinCall "map.__new__" ⟨[.type "map", a, b], []⟩ = pure () := by kernel_rfl
theorem args_object_init_3 (a b c : Value) : argsOk "object.__init__" ⟨[a, b, c], []⟩ := by unfold argsOk; kernel_rfl
theorem sub_map : isSubtype (.type "map") (.type "map") = pure true := by rw [isSubtype_type]; kernel_rfl

section
variable {prog : Program} {w : World} {A : Around} {E : Value → Shared → Prop} {s : Shared}
theorem nextOf_tuple_item {it t : Addr} {i : Nat} {items : Array Value} {x : Value} {Q : Value → Shared → Prop} (hit : s.heap.IsTupleIter it t i)
    (hl : s.heap.IsTuple t items) (hx : items[i]? = some x)
    (hQ : ∀ h', h'.IsTupleIter it t (i + 1) → Heap.SameBut it s.heap h' → Q x { s with heap := h' }) :
    wpAny (model prog w) A (Builtin.SmallTypes.nextOf (.ref it)) Q E s := by
  obtain ⟨o, ho, hc, hd⟩ := id hit
  obtain ⟨ol, hol, _, nl, hdl⟩ := hl
  unfold Builtin.SmallTypes.nextOf
  refine wpAny_bind (wpAny_callSpecial?_slot (name := Str.ofString "__next__") hit.typeIs F.slot_tuple_iterator_next
    (wpAny_call_entry F.slot_tuple_iterator_next hit.typeIs F.entry_tuple_iterator_next ?_ (F.args_tuple_iterator_next_1 _)))
  show wpAny _ _ (field (.ref it) 0 >>= _) _ _ s
  refine wpAny_bind (wpAny_field ho hd (x := .ref t) rfl ?_)
  show wpAny _ _ (if (Value.ref t == Value.none) = true then _ else _) _ _ s
  rw [if_neg (show ¬ ((Value.ref t == Value.none) = true) from Bool.false_ne_true)]
  show wpAny _ _ (field (.ref it) 1 >>= _) _ _ s
  refine wpAny_bind (wpAny_field ho hd (x := .int i 0) rfl ?_)
  show wpAny _ _ (seqItems? (.ref t) >>= _) _ _ s
  refine wpAny_bind (wpAny_seqItems hol hdl ?_)
  simp only [Int.toNat_natCast, hx]
  refine wpAny_bind (wpAny_setField ho hd (by simp) (wpAny_pure ⟨x, rfl, wpAny_pure (hQ _ ?_ (Heap.SameBut.update ..))⟩))
  exact ⟨_, Heap.get?_update_self _ ho (Obj.isFreed_of_fields (Obj.data_mapFields hd _)), (Obj.cls_mapFields ..).trans hc, by
    rw [Obj.data_mapFields hd]; simp [rawInt]⟩
theorem nextOf_tuple_end {it t : Addr} {i : Nat} {items : Array Value} {Q : Value → Shared → Prop} (hh : A.handled = none)
    (hit : s.heap.IsTupleIter it t i) (hl : s.heap.IsTuple t items) (hx : items[i]? = none)
    (hE : ∀ h' e, Heap.ExtBut it s.heap h' → (∃ o, h'.get? e = some o ∧ o.cls = .type "StopIteration") → E (.ref e) { s with heap := h' }) :
    wpAny (model prog w) A (Builtin.SmallTypes.nextOf (.ref it)) Q E s := by
  obtain ⟨o, ho, hc, hd⟩ := id hit
  obtain ⟨ol, hol, _, nl, hdl⟩ := hl
  unfold Builtin.SmallTypes.nextOf
  refine wpAny_bind (wpAny_callSpecial?_slot (name := Str.ofString "__next__") hit.typeIs F.slot_tuple_iterator_next
    (wpAny_call_entry F.slot_tuple_iterator_next hit.typeIs F.entry_tuple_iterator_next ?_ (F.args_tuple_iterator_next_1 _)))
  show wpAny _ _ (field (.ref it) 0 >>= _) _ _ s
  refine wpAny_bind (wpAny_field ho hd (x := .ref t) rfl ?_)
  show wpAny _ _ (if (Value.ref t == Value.none) = true then _ else _) _ _ s
  rw [if_neg (show ¬ ((Value.ref t == Value.none) = true) from Bool.false_ne_true)]
  show wpAny _ _ (field (.ref it) 1 >>= _) _ _ s
  refine wpAny_bind (wpAny_field ho hd (x := .int i 0) rfl ?_)
  show wpAny _ _ (seqItems? (.ref t) >>= _) _ _ s
  refine wpAny_bind (wpAny_seqItems hol hdl ?_)
  simp only [Int.toNat_natCast, hx]
  refine wpAny_bind (wpAny_rule (wpAny_bind (wpAny_setField ho hd (by simp) ?_)))
  show wpAny _ _ (newExc (.type "StopIteration") [] >>= _) _ _ _
  refine wpAny_bind ?_
  simp only [newExc, newTuple]
  refine wpAny_bind (wpAny_newObj_type ?_ (by size_fits))
  refine wpAny_bind (m := firstArgMember _ _) (wpAny_of_eq (a := Value.none) (by first | rfl | (simp only [firstArgMember]; rfl)) ?_)
  refine wpAny_newObj_type ?_ (by size_fits)
  simp only [raiseNew]
  refine wpAny_bind (wpAny_handled ?_)
  first | rw [show A.in1.handled = none from hh] | rw [hh]
  refine wpAny_bind (wpAny_pure (wpAny_throw ?_))
  exact hE _ _ (((Heap.SameBut.update ..).extBut.push _).push _) ⟨_, Heap.get?_push_size _ rfl, rfl⟩

abbrev mapObj (T : Addr) : Obj := { cls := .type "map", data := .fields #[.ref T, .builtin "len"] }
abbrev IsMap (h : Heap) (I T it D : Addr) (items : Array Value) (i : Nat) : Prop :=
  h.get? I = some (mapObj T) ∧ h.IsTuple T #[.ref it] ∧ h.IsTupleIter it D i ∧ h.IsTuple D items
theorem pyIter_map {I T it D : Addr} {items : Array Value} {i : Nat} {Q : Value → Shared → Prop} (hm : IsMap s.heap I T it D items i) (h : Q (.ref I) s) : wpAny (model prog w) A (pyIter (.ref I)) Q E s := by
  have hT : s.TypeIs (.ref I) "map" := ⟨_, hm.1, rfl⟩
  refine wpAny_pyIter_slot hT slot_map_iter (wpAny_call_entry slot_map_iter hT entry_map_iter ?_ (args_map_iter_1 _))
  show wpAny _ _ (ret (.ref I)) _ _ s
  exact wpAny_pure ⟨_, rfl, "map", _, hT, slot_map_next.lookup, h⟩
theorem pyNext_map_item {I T it D : Addr} {items : Array Value} {i : Nat} {x : Str} {t : Tok} {Q : Option Value → Shared → Prop} (hm : IsMap s.heap I T it D items i) (hne : I ≠ it) (hx : items[i]? = some (.str x t)) (hl : x.length ≤ 1000000)
    (hQ : ∀ h' tk t', h'.IsTupleIter it D (i + 1) → Heap.SameBut it s.heap h' → Q (some (.int x.length t')) { s with heap := h', toks := tk }) :
    wpAny (model prog w) A (pyNext (.ref I)) Q E s := by
  obtain ⟨h1, ⟨oT, hT1, hT2, nT, hT3⟩, h3, h4⟩ := hm
  have hT : s.TypeIs (.ref I) "map" := ⟨_, h1, rfl⟩
  unfold pyNext
  refine wpAny_bind (wpAny_attempt (wpAny_callSpecial?_slot (name := Str.ofString "__next__") hT slot_map_next
    (wpAny_call_entry slot_map_next hT entry_map_next ?_ (args_map_next_1 _))))
  show wpAny _ _ (field (.ref I) 0 >>= _) _ _ s
  refine wpAny_bind (wpAny_field h1 rfl (x := .ref T) rfl ?_)
  show wpAny _ _ (seqItems? (.ref T) >>= _) _ _ s
  refine wpAny_bind (wpAny_seqItems hT1 hT3 ?_)
  dsimp only
  simp only [Array.forIn_toList.symm, List.forIn_cons, List.forIn_nil, bind_assoc, pure_bind]
  refine wpAny_bind (wpAny_holding (nextOf_tuple_item h3 h4 hx fun h' hit' hs' => ?_))
  have hI : h'.get? I = some (mapObj T) := (hs'.2 I hne).trans h1
  refine wpAny_bind (wpAny_field hI rfl (x := .builtin "len") rfl ?_)
  refine wpAny_bind (wpAny_holding ?_)
  show wpAny _ _ (call (.builtin "len") [.str x t]) _ _ _
  refine PyProof.Rows.len_str (by omega) ?_
  refine wpAny_bind (wpAny_letGo ?_)
  exact wpAny_pure ⟨_, rfl, wpAny_pure (hQ h' _ _ hit' hs')⟩
theorem pyNext_map_end {I T it D : Addr} {items : Array Value} {i : Nat} {Q : Option Value → Shared → Prop} (hh : A.handled = none) (hm : IsMap s.heap I T it D items i) (hx : items[i]? = none)
    (hQ : ∀ h', Heap.ExtBut it s.heap h' → Q none { s with heap := h' }) :
    wpAny (model prog w) A (pyNext (.ref I)) Q E s := by
  obtain ⟨h1, ⟨oT, hT1, hT2, nT, hT3⟩, h3, h4⟩ := hm
  have hT : s.TypeIs (.ref I) "map" := ⟨_, h1, rfl⟩
  unfold pyNext
  refine wpAny_bind (wpAny_attempt (wpAny_callSpecial?_slot (name := Str.ofString "__next__") hT slot_map_next
    (wpAny_call_entry slot_map_next hT entry_map_next ?_ (args_map_next_1 _))))
  show wpAny _ _ (field (.ref I) 0 >>= _) _ _ s
  refine wpAny_bind (wpAny_field h1 rfl (x := .ref T) rfl ?_)
  show wpAny _ _ (seqItems? (.ref T) >>= _) _ _ s
  refine wpAny_bind (wpAny_seqItems hT1 hT3 ?_)
  dsimp only
  simp only [Array.forIn_toList.symm, List.forIn_cons, List.forIn_nil, bind_assoc, pure_bind]
  refine wpAny_bind (wpAny_holding (nextOf_tuple_end (A := A.in1) hh h3 h4 hx fun h' e he' hx' => ?_))
  obtain ⟨o, ho, hc⟩ := hx'
  refine wpAny_bind (wpAny_isInstance (T := "StopIteration") (b := true) ⟨o, ho, hc⟩ isSubtype_stop ?_)
  exact wpAny_pure (hQ _ he')
theorem walks_map (hh : A.handled = none) {I T it D : Addr} {items : Array Value} {ks : List Str} (h1 : I ≠ it) (h2 : T ≠ it) (h3 : D ≠ it) (hi : StrsAre items.toList ks) (hl : ∀ x ∈ ks, x.length ≤ 1000000) :
    Walks prog w A I [I, T, it, D] [it] ks.length (fun i v => ∃ t, v = .int (((ks.getD i Str.empty).length : Nat) : Int) t) (fun i h => IsMap h I T it D items i) where
  sub := fun b hb => by rw [List.mem_singleton.mp hb]; simp
  frame := fun i h h' st hk => by
    obtain ⟨a, b, c, d⟩ := st
    refine ⟨hk I (by simp) _ a, ?_, c.at fun o e => hk it (by simp) o e, d.at fun o e => hk D (by simp) o e⟩
    exact b.at fun o e => hk T (by simp) o e
  item := fun i s Q E hlt st hQ => by
    have hk : ks[i]? = some ks[i] := List.getElem?_eq_getElem hlt
    obtain ⟨t, ht⟩ := hi.at hk
    refine pyNext_map_item st h1 (x := ks[i]) (t := t) (by rw [← Array.getElem?_toList]; exact ht) (hl _ (List.getElem_mem hlt)) fun h' tk t' hit' hs' => ?_
    obtain ⟨a, b, c, d⟩ := st
    refine hQ _ h' tk ⟨t', by simp [List.getD_eq_getElem?_getD, hk]⟩ ⟨(hs'.2 I h1).trans a, b.at fun o e => (hs'.2 T h2).trans e, hit', d.at fun o e => (hs'.2 D h3).trans e⟩ fun b o hb e => (hs'.2 b fun q => hb (by simp [q])).trans e
  done := fun s Q E st hQ => by
    have hn : items[ks.length]? = none := by
      have := hi.len_eq
      rw [Array.getElem?_eq_none]
      simp at this; omega
    exact pyNext_map_end hh st hn fun h' hx => hQ h' s.toks fun b o hb e => hx b o (fun q => hb (by simp [q])) e
  self := fun i s Q E st hQ => pyIter_map st hQ
theorem meets_map_new (D : Addr) (items : Array Value) (n : Nat) (dct : Option Addr) (sl : Array (Option Value)) :
    Meets (Builtin.«map.__new__» ⟨[.type "map", .builtin "len", .ref D], []⟩) (fun _ R s => s.heap.get? D = some { cls := .type "tuple", dict := dct, data := .seq items n, slots := sl } ∧
      R (.ok (.ret (.ref (s.heap.objs.size + 2))))
        { s with heap := ((s.heap.push { cls := .type "tuple_iterator", data := .fields #[.ref D, .int 0 0] }).push { cls := .type "tuple", data := .seq #[.ref s.heap.objs.size] }).push (mapObj (s.heap.objs.size + 1)) }) :=
  .of_wp fun prog w A R s h => by
    obtain ⟨hp, g, d, tk, os⟩ := s; obtain ⟨hl, h⟩ := h
    have hsub := sub_map
    have hL : Heap.IsTuple (Shared.heap ⟨hp, g, d, tk, os⟩) D items := ⟨_, hl, rfl, n, rfl⟩
    unfold Builtin.«map.__new__»
    (with_reducible refine PySem.wpAny_bind ?_); wp_delta; (with_reducible refine PySem.wpAny_bind ?_)
    wp_delta; (with_reducible refine PySem.wpAny_pure ?_); (with_reducible apply PySem.wpAny_ite_false); rfl; (with_reducible refine PySem.wpAny_bind ?_)
    (with_reducible refine PySem.wpAny_of_eq (by assumption) ?_); (with_reducible apply PySem.wpAny_ite_false); rfl; (with_reducible refine PySem.wpAny_pure ?_); (with_reducible refine PySem.wpAny_bind ?_)
    wp_delta; (with_reducible apply PySem.wpAny_ite_true); rfl; (with_reducible refine PySem.wpAny_pure ?_); (with_reducible apply PySem.wpAny_ite_false); rfl
    (with_reducible refine PySem.wpAny_bind ?_); wp_delta; (with_reducible refine PySem.wpAny_bind ?_); wp_delta
    wp_delta; wp_delta; wp_delta; (with_reducible refine PySem.wpAny_bind ?_)
    (with_reducible refine PySem.wpAny_bind ?_); (with_reducible refine PySem.wpAny_holding ?_); (with_reducible apply wpAny_pyIter_tuple hL); (with_reducible refine PySem.wpAny_pure ?_); wp_delta
    wp_delta; (with_reducible refine PySem.wpAny_pure ?_); (with_reducible refine PySem.wpAny_pure ?_); (with_reducible refine PySem.wpAny_bind ?_)
    wp_delta; wp_delta; (with_reducible apply PySem.wpAny_ite_false); rfl; wp_delta
    wp_delta; (with_reducible refine PySem.wpAny_bind ?_); (with_reducible refine PySem.wpAny_alloc' ?_); (with_reducible refine PySem.wpAny_pure ?_)
    (with_reducible refine PySem.wpAny_bind ?_); wp_delta; wp_delta; (with_reducible apply PySem.wpAny_ite_false); rfl
    wp_delta; wp_delta; (with_reducible refine PySem.wpAny_bind ?_); (with_reducible refine PySem.wpAny_alloc' ?_)
    (with_reducible refine PySem.wpAny_pure ?_); wp_delta; (with_reducible refine PySem.wpAny_pure ?_)
    refine ⟨_, rfl, ?_⟩
    have e1 : (hp.push { cls := Value.type "tuple_iterator", data := Data.fields #[Value.ref D, Value.int 0 0] }).objs.size = hp.objs.size + 1 := Heap.size_push _ _
    have e2 : ((hp.push { cls := Value.type "tuple_iterator", data := Data.fields #[Value.ref D, Value.int 0 0] }).push { cls := Value.type "tuple", data := Data.seq #[Value.ref hp.objs.size] }).objs.size = hp.objs.size + 2 := by rw [Heap.size_push, e1]
    dsimp only at h ⊢
    rw [← e2, ← e1] at h
    exact h
theorem mk_map {h₀ : Heap} {L : Addr} {m : Str → Option Value} {news : List (Addr × Obj)} {D : Addr} {vs : List Value} {Q : Value → Shared → Prop} (F : Fr h₀ L s.heap m) (N : News h₀ L s.heap news) (hm : (D, tupObj vs) ∈ news)
    (h : ∀ I T it h', Fr h₀ L h' m → News h₀ L h' ((I, mapObj T) :: (T, tupObj [.ref it]) :: (it, { cls := .type "tuple_iterator", data := .fields #[.ref D, .int 0 0] }) :: news) → I ≠ it → T ≠ it → (∀ q ∈ news, q.1 ≠ it) → Q (.ref I) { s with heap := h' }) :
    wpAny (model prog w) A (call (.type "map") [.builtin "len", .ref D]) Q E s := by
  refine callType_new called_map (by decide) (typeCall_map_2 _ _) (newCall_map_2 _ _) (fun obj => args_object_init_3 obj _ _) entry_map_new (meets_map_new D vs.toArray 0 none #[]) ⟨(N _ hm).1, ?_⟩
  have F1 := F.push { cls := Value.type "tuple_iterator", data := Data.fields #[Value.ref D, Value.int 0 0] }
  have N1 := N.push F { cls := Value.type "tuple_iterator", data := Data.fields #[Value.ref D, Value.int 0 0] }
  have F2 := F1.push { cls := .type "tuple", data := .seq #[.ref s.heap.objs.size] }
  have N2 := N1.push F1 { cls := .type "tuple", data := .seq #[.ref s.heap.objs.size] }
  have e1 : (s.heap.push { cls := Value.type "tuple_iterator", data := Data.fields #[Value.ref D, Value.int 0 0] }).objs.size = s.heap.objs.size + 1 := Heap.size_push _ _
  have e2 : ((s.heap.push { cls := Value.type "tuple_iterator", data := Data.fields #[Value.ref D, Value.int 0 0] }).push { cls := Value.type "tuple", data := Data.seq #[Value.ref s.heap.objs.size] }).objs.size = s.heap.objs.size + 2 := by rw [Heap.size_push, e1]
  have F3 := F2.push (mapObj (s.heap.objs.size + 1))
  have N3 := N2.push F2 (mapObj (s.heap.objs.size + 1))
  refine ⟨⟨mapObj (s.heap.objs.size + 1), ?_, rfl⟩, ?_⟩
  · rw [← e2]; exact Heap.get?_push_size _ rfl
  · refine h (s.heap.objs.size + 2) (s.heap.objs.size + 1) s.heap.objs.size _ F3 (fun q hq => ?_) (Nat.ne_of_gt (Nat.lt_succ_of_lt (Nat.lt_succ_self _))) (Nat.ne_of_gt (Nat.lt_succ_self _)) (fun q hq => Nat.ne_of_lt (nlt (N q hq).1))
    refine N3 q ?_
    rw [e2, e1]
    exact hq
/-- max(map(len, (x, y))) -/
theorem max_map {h₀ : Heap} {L : Addr} {m : Str → Option Value} {news : List (Addr × Obj)} {I T it D : Addr} {x y : Str} {t u : Tok} {Q : Value → Shared → Prop} (hh : A.handled = none) (F : Fr h₀ L s.heap m)
    (N : News h₀ L s.heap ((I, mapObj T) :: (T, tupObj [.ref it]) :: (it, { cls := .type "tuple_iterator", data := .fields #[.ref D, .int 0 0] }) :: news)) (h1 : I ≠ it) (h2 : T ≠ it) (h3 : ∀ q ∈ news, q.1 ≠ it) (hm : (D, tupObj [.str x t, .str y u]) ∈ news) (hx : x.length ≤ 1000000) (hy : y.length ≤ 1000000)
    (h : ∀ h' tk t', Fr h₀ L h' m → News h₀ L h' news → Q (.int ((max x.length y.length : Nat) : Int) t') { s with heap := h', toks := tk }) :
    wpAny (model prog w) A (call (.builtin "max") [.ref I]) Q E s := by
  have hIs : IsMap s.heap I T it D #[.str x t, .str y u] 0 := ⟨(N _ (.head _)).1, ⟨_, (N _ (.tail _ (.head _))).1, rfl, _, rfl⟩, ⟨_, (N _ (.tail _ (.tail _ (.head _)))).1, rfl, rfl⟩, ⟨_, (N _ (.tail _ (.tail _ (.tail _ hm)))).1, rfl, _, rfl⟩⟩
  have W := walks_map (prog := prog) (w := w) (A := A.in1) hh h1 h2 (h3 _ hm) (items := #[.str x t, .str y u]) (ks := [x, y]) (.cons x t (.cons y u .nil)) (by
    intro z hz
    rcases List.mem_cons.mp hz with rfl | hz
    · exact hx
    · rw [List.mem_singleton.mp hz]; exact hy)
  refine call_max_walk (W.self 0 _ _ _ hIs ⟨I, [I, T, it, D], [it], 2, _, _, _, rfl, W, hIs, ?_, by decide, CmpOf.ints_gt (fun i => (([x, y].getD i Str.empty).length : Int)) (fun i v hv => hv), ?_⟩)
  · intro b hb
    rcases List.mem_cons.mp hb with rfl | hb
    · exact nlt (N _ (.head _)).1
    · rcases List.mem_cons.mp hb with rfl | hb
      · exact nlt (N _ (.tail _ (.head _))).1
      · rcases List.mem_cons.mp hb with rfl | hb
        · exact nlt (N _ (.tail _ (.tail _ (.head _)))).1
        · rw [List.mem_singleton.mp hb]; exact nlt (N _ (.tail _ (.tail _ (.tail _ hm)))).1
  · intro v h' tk hv hk
    obtain ⟨t', rfl⟩ := hv
    have hitb : h₀.get? it = none := (N _ (.tail _ (.tail _ (.head _)))).2.2
    have hitL : it ≠ L := (N _ (.tail _ (.tail _ (.head _)))).2.1
    have := h h' tk t' ⟨F.ns.at' fun o e => hk L o (fun q => hitL (List.mem_singleton.mp q).symm) e, fun b o e => hk b o (fun q => by rw [List.mem_singleton.mp q, hitb] at e; cases e) (F.keep b o e), F.above⟩
      (fun q hq => ⟨hk _ _ (fun p => h3 q hq (List.mem_singleton.mp p)) (N q (.tail _ (.tail _ (.tail _ hq)))).1, (N q (.tail _ (.tail _ (.tail _ hq)))).2⟩)
    have e : (([x, y].getD (argBest (fun i j => decide ((([x, y].getD i Str.empty).length : Int) > (([x, y].getD j Str.empty).length : Int))) (2 - 1)) Str.empty).length) = max x.length y.length := by
      simp [argBest]
      split <;> simp <;> omega
    rw [← e] at this
    exact this
end

/-- a def with a rest parameter, some parameters captured -/
theorem enterVC {prog : Program} {w : World} {A : Around} {s : Shared} {E : Value → Shared → Prop} {Q : Value → Shared → Prop} {name qual : Str} {params : Arguments} {body : List Stmt} {scope : Scope} {dV kV doc pm cdv ct oc : Value} {an od : Option Addr} {osl : Array (Option Value)} {f : Addr} {args : Args} {vs : List Value} {g₁ : Addr → Option (List (Str × Value))} {binds : Addr → List (Str × Value)} {n : Nat}
    (O : Ok w s.heap) (C : Calm A (n + 1))
    (ho : (hd.heap_1 w.params).lookup f = some ⟨oc, od, .func (fnOf name qual params body scope dV kV doc pm an cdv ct), osl⟩) (hcd : codeIn (hd.heap_1 w.params) cdv qual = true)
    (hp : peek1 (hd.heap_1 w.params) ⟨prog, w.params⟩ (bindArgs (fnOf name qual params body scope dV kV doc pm an cdv ct) args) = some (tupObj vs, g₁))
    (hg : ∀ D, g₁ D = some (binds D))
    (hkind : ∀ D, ((binds D).all fun y => scope.names.lookup y.1 == some .local || scope.names.lookup y.1 == some .cell) = true)
    (hnd : ((cellsFrom 0 scope.names []).map (·.1)).Nodup)
    (h : ∀ D L h₁ tk cells, Fr s.heap L h₁ (bindL (envOfC qual scope L f cdv).kindOf (binds D) fun _ => none) → News s.heap L h₁ (cells ++ [(D, tupObj vs)]) →
      CellsAre (bindC (envOfC qual scope L f cdv).kindOf (binds D) fun _ => none) (cellsFrom (L + 1) scope.names []) cells → Ok w h₁ → Calm (A.deeper (envX qual scope L f cdv (cellsFrom (L + 1) scope.names []))) n →
      wpAny (model prog w) (A.deeper (envX qual scope L f cdv (cellsFrom (L + 1) scope.names []))) (execs body (envX qual scope L f cdv (cellsFrom (L + 1) scope.names [])))
        (fun fl s' => Q (match fl with | .ret v => v | _ => .none) s') (fun _ _ => False) { s with heap := h₁, toks := tk })
    (hco : scope.isCoroutine = false) (hgen : scope.isGenerator = false) (hk : scope.kind = .function) :
    codeAny (model prog w) A (.call (.ref f) args) (fun r s' => match r with | .ok (.ret v) => Q v s' | .ok _ => False | .error e => E e s') s := by
  refine enter_raw O C ho hcd ?_ hco hgen
  refine wp_peek1 (r := binds) O.k ?_ _ g₁ hp hg
  refine env_cells (s₁ := { s with heap := s.heap.push (tupObj vs) }) (h₀ := s.heap) (pre := [(s.heap.objs.size, tupObj vs)]) (O.keeps fun b o e => Heap.get?_push_of_some _ e) C (fun b o e => Heap.get?_push_of_some _ e) (by rw [Heap.size_push]; exact Nat.le_succ _) (Pre.one rfl) (hkind _) hnd ?_ hk
  intro L h₁ tk cells F N Y _ O1 C1
  exact h s.heap.objs.size L h₁ tk cells F N Y O1 C1
/-- `self(*seqs)` of a measure -/
theorem s_star {M : Model} {A : Around} {E : Value → Shared → Prop} {s : Shared} {env : Env} {pos p : Pos} {e : Expr} {x C : Addr} {es : List DictEntry} {n : Nat} {first : List Value} {Q : Value → Shared → Prop}
    (h : wpAny M A (eval e env) (fun v s₁ => StarOf M A E v (fun vs s₂ => SelfAt s₂.heap x C es n ∧ wpAny M A (call (.ref x) (first ++ vs)) Q E s₂) s₁) E s)
    (he : starEach [.Starred e p] env = [(true, eval e env)] := by rfl) :
    wpAny M A (callWith pos (.ref x) first (backTo pos (starEach [.Starred e p] env)) []) Q E s := by
  rw [he]
  have h' := ks_lone (f := Value.ref x) (pos := pos) (Q := fun a s₁ => SelfAt s₁.heap x C es n ∧ wpAny M A (call (.ref x) (first ++ a.pos) a.kw) Q E s₁) h
  unfold callWith
  refine wpAny_bind (wpAny_holding (wpAny_mono h' (fun a s₁ h₁ => wpAny_bind (wpAny_standAt ?_)) fun _ _ y => y))
  obtain ⟨dx, I⟩ := h₁.1.inst
  have L := kco_keeper (M := M) I rfl
  refine wpAny_bind (L.here ?_)
  have tail : ∀ {t : Sem Value}, wpAny M A t Q E s₁ → wpAny M A (t >>= fun r => holding [r] point >>= fun _ => pure r) Q E s₁ :=
    fun ht => wpAny_bind (wpAny_mono ht (fun r s₂ hr => wpAny_bind (wpAny_holding (wpAny_point (wpAny_pure hr)))) fun _ _ y => y)
  exact tail (wpAny_operateT h₁.2)
def RetList (h₀ : Heap) (vs : List Value) (v : Value) (h : Heap) : Prop := ∃ a k, v = .ref a ∧ h₀.get? a = none ∧ h.get? a = some (listOf vs.toArray k)

theorem MethodCallStar_ {M : Model} {A : Around} {E : Value → Shared → Prop} {s : Shared} {env : Env} {o : Expr} {name : Str} {apos pos p : Pos} {e : Expr} {Q : Value → Shared → Prop}
    (h : wpAny M A (eval o env) (fun ov s₁ => wpAny M A (getAttr ov name true) (fun f s₂ => wpAny M A (callWith pos f [] (backTo pos (starEach [.Starred e p] env)) []) Q E s₂) E s₁) E s)
    (he : eval (.Call (.Attribute o name apos) [.Starred e p] [] pos) env = (do
      let ov ← eval o env
      standAt apos.atName
      let (f, first) ← holding [ov] (do pure (← getAttr ov name true, []))
      callWith pos f first (backTo pos (starEach [.Starred e p] env)) []) := by with_unfolding_all rfl) :
    wpAny M A (eval (.Call (.Attribute o name apos) [.Starred e p] [] pos) env) Q E s := by
  rw [he]
  exact wpAny_bind (wpAny_mono h (fun ov s₁ h₁ => wpAny_bind (wpAny_standAt (wpAny_bind (wpAny_holding (wpAny_bind (wpAny_mono h₁ (fun fx s₂ h₂ => wpAny_pure h₂) fun _ _ x => x)))))) fun _ _ x => x)
section
variable {prog : Program} {w : World} {A : Around} {E : Value → Shared → Prop} {s : Shared} {x C p L : Addr} {name : Str} {h₀ : Heap} {m : Str → Option Value} {news : List (Addr × Obj)} {es : List DictEntry} {n : Nat} {fv : Value} {rest : List Value}
/-- a static method, read off the object -/
theorem s_statA {expr : Bool} {Q : Value → Shared → Prop} (F : Fr h₀ L s.heap m) (O : Ok w h₀) (S : SelfAt h₀ x C es n) (hm : name ∈ clsNames) (hg : plainGet (hd.heap_1 w.params) C name = true) (hh : hasDictIn (hd.heap_1 w.params) C = true) (ha : findIn (hd.heap_1 w.params) (.ref C) name = some (some (.ref p))) (ht : typeIn (hd.heap_1 w.params) (.ref p) = some (.type "staticmethod"))
    (hgf : specialIn (hd.heap_1 w.params) (.ref p) "__get__" = some (some (.builtin "staticmethod.__get__"))) (hts : takesIn (hd.heap_1 w.params) (.ref p) = some false) (hc : copiedNames.contains name = false) (hp : recIn (hd.heap_1 w.params) p "staticmethod" = some (fv :: rest)) (hv : handedIn fv = true)
    (h : Q fv { s with toks := s.toks + 1 }) : wpAny (model prog w) A (getAttr (.ref x) name expr) Q E s := by
  obtain ⟨dx, I⟩ := (S.keeps F.keep).inst
  exact get_bind (O.k.keeps F.keep) I (plainGet_of hg).1 (findObj_fn hh ha hgf hts hc (by show lookIn name (dictOf es n) = _; rw [lookIn_dict, S.no name hm])) (plainGet_of hg).2
      (wpAny_call (sm_get (s := { s with toks := s.toks + 1 }) (O.k.keeps F.keep) hp (handed_on hv h)))
/-- a method bound to the object -/
theorem s_bound {f : Addr} {expr : Bool} {Q : Value → Shared → Prop} (F : Fr h₀ L s.heap m) (O : Ok w h₀) (N : News h₀ L s.heap news) (S : SelfAt h₀ x C es n) (hm : name ∈ clsNames) (hg : plainGet (hd.heap_1 w.params) C name = true) (hh : hasDictIn (hd.heap_1 w.params) C = true) (ha : findIn (hd.heap_1 w.params) (.ref C) name = some (some (.ref f))) (hf : isFn (hd.heap_1 w.params) (.ref f) = true)
    (hgf : specialIn (hd.heap_1 w.params) (.ref f) "__get__" = some (some (.builtin "function.__get__"))) (ht : takesIn (hd.heap_1 w.params) (.ref f) = some false) (hc : copiedNames.contains name = false)
    (h : ∀ q h', Fr h₀ L h' m → News h₀ L h' ((q, methodObj (.ref f) (.ref x)) :: news) → Q (.ref q) { s with heap := h', toks := s.toks + 1 }) : wpAny (model prog w) A (getAttr (.ref x) name expr) Q E s := by
  obtain ⟨dx, I⟩ := (S.keeps F.keep).inst
  exact kbm_bound F O.k N I hg hh ha hf hgf ht hc (S.no name hm) fun q h' F' N' _ => h q h' F' N'
/-- a bound method called with `*seqs` -/
theorem callWith_SM {M : Model} {s : Shared} {env : Env} {pos pp : Pos} {e : Expr} {q g : Addr} {self : Value} {Q : Value → Shared → Prop} (hf : fnIn (hd.heap_1 w.params) g = true)
    (h : wpAny M A (eval e env) (fun v s₁ => StarOf M A E v (fun vs s₂ => MethP (hd.heap_1 w.params) q g self s₂.heap ∧ wpAny M A (call (.ref q) vs) Q E s₂) s₁) E s)
    (he : starEach [.Starred e pp] env = [(true, eval e env)] := by rfl) :
    wpAny M A (callWith pos (.ref q) [] (backTo pos (starEach [.Starred e pp] env)) []) Q E s := by
  rw [he]
  exact ks_call (P := MethP (hd.heap_1 w.params) q g self) rfl (keeps_M hf) (ks_lone h)
end

section
variable {prog : Program} {w : World} {A : Around} {E : Value → Shared → Prop} {s : Shared} {h₀ : Heap} {L : Addr} {m : Str → Option Value} {news : List (Addr × Obj)}
theorem Gives.useM {f self : Value} {q : Addr} {args : List Value} {P : Value → Heap → Prop} {Q : Value → Shared → Prop} (hq : (q, methodObj f self) ∈ news) (G : Gives prog w A f (self :: args) P s) (F : Fr h₀ L s.heap m) (N : News h₀ L s.heap news)
    (h : ∀ v h' tk, P v h' → Fr h₀ L h' m → News h₀ L h' news → Q v { s with heap := h', toks := tk }) : wpAny (model prog w) A (call (.ref q) args) Q E s :=
  call_meth N hq (G.code F N h)
theorem Gives.self {x C f : Addr} {es : List DictEntry} {n : Nat} {args : List Value} {P : Value → Heap → Prop} (O : Ok w s.heap) (S : SelfAt s.heap x C es n) (G : Gives prog w A (.ref f) (.ref x :: args) P s)
    (hs : findIn (hd.heap_1 w.params) (.ref C) "__call__" = some (some (.ref f))) (hf : isFn (hd.heap_1 w.params) (.ref f) = true) (hfn : fnIn (hd.heap_1 w.params) f = true) : Gives prog w A (.ref x) args P s := by
  obtain ⟨dx, I⟩ := S.inst
  exact kco_code O.k I rfl hs hf hfn G
end

theorem all_loop_strs {prog : Program} {w : World} {A : Around} {R : Result → Shared → Prop} {I : Addr} {fp wr : List Addr} {n : Nat} {P : Nat → Value → Prop} {St : Nat → Heap → Prop} (W : Walks prog w A.in1 I fp wr n P St) (tr : Nat → Bool)
    (htr : ∀ i v, P i v → ∃ x t, v = .str x t ∧ x.length ≤ 1000000 ∧ tr i = ((x.length : Int) != 0)) : ∀ (k i : Nat) (s : Shared), n - i = k → i ≤ n → St i s.heap →
    (∀ h' tk, (∀ b o, b ∉ wr → s.heap.get? b = some o → h'.get? b = some o) → R (.ok (.ret (.bool (((List.range n).drop i).all tr)))) { s with heap := h', toks := tk }) →
    codeAny (model prog w) A (.builtin "all.loop" ⟨[.ref I], []⟩) R s := by
  intro k
  induction k with
  | zero =>
    intro i s hk hi hst hR
    have hin : i = n := by omega
    subst hin
    refine codeAny_builtin F.entry_all_loop ?_
    rw [Around.under_plainId F.plain_all_loop _]
    show wpAny _ A.in1 (pyNext (.ref I) >>= _) _ _ s
    refine wpAny_bind (W.done s _ _ hst fun h' tk hk' => ?_)
    refine wpAny_bind (wpAny_rule (wpAny_pure ?_))
    have := hR h' tk hk'
    rw [List.drop_of_length_le (by simp)] at this
    exact this
  | succ k ih =>
    intro i s hk hi hst hR
    have hlt : i < n := by omega
    have hd : (List.range n).drop i = i :: (List.range n).drop (i + 1) := by
      rw [List.drop_eq_getElem_cons (by simpa using hlt)]; simp
    refine codeAny_builtin F.entry_all_loop ?_
    rw [Around.under_plainId F.plain_all_loop _]
    show wpAny _ A.in1 (pyNext (.ref I) >>= _) _ _ s
    refine wpAny_bind (W.item i s _ _ hlt hst fun v h' tk hP hst' hk' => ?_)
    obtain ⟨x, t, rfl, hx, ht⟩ := htr i v hP
    refine wpAny_bind (wpAny_holding (PySem.P.truthy_str (by omega) ?_))
    refine wpAny_bind (wpAny_letGo ?_)
    rw [← ht]
    cases hb : tr i with
    | true =>
      simp only [if_true]
      refine wpAny_pure ⟨plainId_quiet F.plain_all_loop _, ih (i + 1) _ (by omega) hlt hst' fun h'' tk'' hk'' => ?_⟩
      have := hR h'' tk'' fun b o hbw e => hk'' b o hbw (hk' b o hbw e)
      rw [hd, List.all_cons, hb, Bool.true_and] at this
      exact this
    | false =>
      simp only [Bool.false_eq_true, if_false]
      refine wpAny_bind (wpAny_rule (wpAny_pure ?_))
      have := hR h' (tk + 1 + 1) hk'
      rw [hd, List.all_cons, hb, Bool.false_and] at this
      exact this
/-- all(t) of a tuple of texts -/
theorem all_tup {prog : Program} {w : World} {A : Around} {E : Value → Shared → Prop} {s : Shared} {h₀ : Heap} {L : Addr} {m : Str → Option Value} {news : List (Addr × Obj)} {D : Addr} {vs : List Value} {ks : List Str} {Q : Value → Shared → Prop} (hh : A.handled = none) (F : Fr h₀ L s.heap m)
    (N : News h₀ L s.heap news) {o : Obj} (hm : (D, o) ∈ news) (ho : o = tupObj vs ∨ ∃ k, o = listOf vs.toArray k) (hi : StrsAre vs ks) (hl : ∀ x ∈ ks, x.length ≤ 1000000)
    (h : ∀ h' tk, Fr h₀ L h' m → News h₀ L h' news → Q (.bool (ks.all fun x => decide (x.length ≠ 0))) { s with heap := h', toks := tk }) :
    wpAny (model prog w) A (call (.builtin "all") [.ref D]) Q E s := by
  have hlen : ks.length = vs.length := hi.len_eq.symm
  have key : ∀ (I : Addr) (ob : Obj), h₀.get? I = none → I ≠ L → (∀ q ∈ news, q.1 ≠ I) → ∀ h' : Heap, (∀ b o, b ∉ [I] → (s.heap.push ob).get? b = some o → h'.get? b = some o) → Fr h₀ L h' m ∧ News h₀ L h' news := by
    intro I ob i1 i2 i3 h' hk
    have F1 : Fr h₀ L (s.heap.push ob) m := F.push ob
    refine ⟨⟨F1.ns.at' fun o e => hk L o (fun q => i2 (List.mem_singleton.mp q).symm) e, fun b o e => hk b o (fun q => by rw [List.mem_singleton.mp q, i1] at e; cases e) (F1.keep b o e), F1.above⟩, fun q hq => ⟨hk _ _ (fun p => i3 q hq (List.mem_singleton.mp p)) (Heap.get?_push_of_some _ (N q hq).1), (N q hq).2⟩⟩
  have hI0 : h₀.get? s.heap.objs.size = none := next_is_new F
  have hIL : s.heap.objs.size ≠ L := Nat.ne_of_gt (nslt F.ns)
  have hIn : ∀ q ∈ news, q.1 ≠ s.heap.objs.size := fun q hq => Nat.ne_of_lt (nlt (N q hq).1)
  have hne : D ≠ s.heap.objs.size := hIn _ hm
  have fin : ∀ h' tk ob, (∀ b o, b ∉ [s.heap.objs.size] → (s.heap.push ob).get? b = some o → h'.get? b = some o) → Q (.bool (((List.range vs.toArray.size).drop 0).all fun i => ((ks.getD i Str.empty).length : Int) != 0)) { s with heap := h', toks := tk } := by
    intro h' tk ob hk
    obtain ⟨F', N'⟩ := key _ ob hI0 hIL hIn h' hk
    have e : ((List.range vs.toArray.size).drop 0).all (fun i => ((ks.getD i Str.empty).length : Int) != 0) = ks.all fun x => decide (x.length ≠ 0) := by
      rw [List.drop_zero, List.size_toArray, ← hlen, Bool.eq_iff_iff, List.all_eq_true, List.all_eq_true]
      constructor
      · intro hall x hx
        obtain ⟨i, hi', rfl⟩ := List.getElem_of_mem hx
        have := hall i (List.mem_range.mpr hi')
        simp [List.getD_eq_getElem?_getD, hi'] at this
        exact decide_eq_true (by omega)
      · intro hall i hi'
        have hi' := List.mem_range.mp hi'
        have := hall _ (List.getElem_mem hi')
        simp [List.getD_eq_getElem?_getD, hi']
        simpa using this
    rw [e]
    exact h h' tk F' N'
  have hv : ∀ i v, vs.toArray[i]? = some v → ∃ x t, v = .str x t ∧ x.length ≤ 1000000 ∧ (((ks.getD i Str.empty).length : Int) != 0) = ((x.length : Int) != 0) := by
    intro i v e
    obtain ⟨y, t, rfl, hy⟩ := hi.item i v (by simpa using e)
    exact ⟨y, t, rfl, hl y (List.mem_of_getElem? hy), by simp [List.getD_eq_getElem?_getD, hy]⟩
  refine call_function_tree PySem.F.kind_all PySem.F.plain_all PySem.F.entry_all (PySem.F.args_all1 _) ?_
  unfold Builtin.«all»
  refine wpAny_bind (m := oneArg "all" _) (wpAny_pure ?_)
  rcases ho with rfl | ⟨kl, rfl⟩
  · have ht : s.heap.IsTuple D vs.toArray := ⟨_, (N _ hm).1, rfl, _, rfl⟩
    refine wpAny_bind (wpAny_pyIter_tuple ht ?_)
    have W := Walks.tuple (prog := prog) (w := w) (A := A.in1) hh s.heap.objs.size D hne vs.toArray
    have ht1 : (s.heap.push { cls := .type "tuple_iterator", data := .fields #[.ref D, .int 0 0] }).IsTuple D vs.toArray := ⟨tupObj vs, Heap.get?_push_of_some _ (N _ hm).1, rfl, 0, rfl⟩
    refine wpAny_pure ⟨plainId_quiet PySem.F.plain_all_loop _, all_loop_strs W _ hv _ 0 _ rfl (Nat.zero_le _) ⟨⟨_, Heap.get?_push_size _ rfl, rfl, rfl⟩, ht1⟩ fun h' tk hk => ?_⟩
    exact fin h' tk _ hk
  · have ht : s.heap.IsList D vs.toArray := ⟨_, (N _ hm).1, rfl, _, rfl⟩
    refine wpAny_bind (wpAny_pyIter_list ht ?_)
    have W := Walks.list (prog := prog) (w := w) (A := A.in1) hh s.heap.objs.size D hne vs.toArray
    have ht1 : (s.heap.push { cls := .type "list_iterator", data := .fields #[.ref D, .int 0 0] }).IsList D vs.toArray := ⟨listOf vs.toArray kl, Heap.get?_push_of_some _ (N _ hm).1, rfl, kl, rfl⟩
    refine wpAny_pure ⟨plainId_quiet PySem.F.plain_all_loop _, all_loop_strs W _ hv _ 0 _ rfl (Nat.zero_le _) ⟨⟨_, Heap.get?_push_size _ rfl, rfl, rfl⟩, ht1⟩ fun h' tk hk => ?_⟩
    exact fin h' tk _ hk
/-- all((x, y)) of two texts -/
theorem all_two {prog : Program} {w : World} {A : Around} {E : Value → Shared → Prop} {s : Shared} {h₀ : Heap} {L : Addr} {m : Str → Option Value} {news : List (Addr × Obj)} {D : Addr} {x y : Str} {t u : Tok} {Q : Value → Shared → Prop} (hh : A.handled = none) (F : Fr h₀ L s.heap m)
    (N : News h₀ L s.heap news) (hm : (D, tupObj [.str x t, .str y u]) ∈ news) (hx : x.length ≤ 1000000) (hy : y.length ≤ 1000000)
    (h : ∀ h' tk, Fr h₀ L h' m → News h₀ L h' news → Q (.bool (decide (x.length ≠ 0) && decide (y.length ≠ 0))) { s with heap := h', toks := tk }) :
    wpAny (model prog w) A (call (.builtin "all") [.ref D]) Q E s := by
  refine all_tup hh F N hm (.inl rfl) (.cons x t (.cons y u .nil)) (by
    intro z hz
    rcases List.mem_cons.mp hz with rfl | hz
    · exact hx
    · rw [List.mem_singleton.mp hz]; exact hy) fun h' tk F' N' => ?_
  have := h h' tk F' N'
  simpa using this

theorem newsOfRet {h₀ h1 h2 : Heap} {L : Addr} {m : Str → Option Value} {vs : List Value} {v : Value} (F : Fr h₀ L h1 m) (R : RetList h1 vs v h2) : ∃ a k, v = .ref a ∧ News h₀ L h2 [(a, listOf vs.toArray k)] := by
  obtain ⟨a, k, rfl, ha0, ha⟩ := R
  refine ⟨a, k, rfl, fun q hq => ?_⟩
  rw [List.mem_singleton.mp hq]
  refine ⟨ha, fun e => ?_, ?_⟩
  · obtain ⟨o, _, _, ho, _⟩ := F.ns
    have e : a = L := e
    subst e
    rw [ha0] at ho; cases ho
  · cases q : h₀.get? a with
    | none => rfl
    | some o =>
      have := F.keep a o q
      rw [ha0] at this; cases this

/-- a captured name is stored -/
theorem stE_C {M : Model} {A : Around} {E : Value → Shared → Prop} {s : Shared} {h₀ : Heap} {L : Addr} {m : Str → Option Value} {x : Str} {v : Value} {v₀ : Option Value} {Q : Unit → Shared → Prop} {env : Env} {c : Addr} {o : Obj} {pre post : List (Addr × Obj)} (hl : env.kindOf x = some .cell) (hk : env.scope.kind = .function) (hc : env.cells.lookup x = some c)
    (F : Fr h₀ L s.heap m) (N : News h₀ L s.heap (pre ++ (c, o) :: post)) (h1 : ∀ p ∈ pre, p.1 ≠ c) (h2 : ∀ p ∈ post, p.1 ≠ c) (ho : o.data = .cell v₀)
    (h : ∀ h' o', o'.data = .cell (some v) → Fr h₀ L h' m → News h₀ L h' (pre ++ (c, o') :: post) → Q () { s with heap := h' }) : wpAny M A (storeName env x v) Q E s := by
  have hm : (c, o) ∈ pre ++ (c, o) :: post := List.mem_append_right _ (.head _)
  refine wpAny_storeName_cell hk hl hc ⟨o, N.get hm, ho⟩ fun h' hc' hs => ?_
  obtain ⟨o', ho', hd⟩ := hc'
  exact h h' o' hd (F.update N hm hs) (N.setIn h1 h2 hs ho')

/-- a loop over a text's letters, the target captured or not -/
theorem turns_str {prog : Program} {w : World} {A : Around} {E : Value → Shared → Prop} {s : Shared} {h₀ : Heap} {env : Env} {m : Str → Option Value} {news : List (Addr × Obj)} {x : Str} {px : Pos} {body : List Stmt} {y : Str} {ty : Tok} {Q : Flow → Shared → Prop} (hh : A.handled = none) (J : Nat → (Str → Option Value) → List (Addr × Obj) → Prop)
    (F : Fr h₀ env.locals s.heap m) (N : News h₀ env.locals s.heap news) (h0 : J 0 m news)
    (turn : ∀ i c u m₁ news₁ h₁ tk₁ own, y.cps[i]? = some c → J i m₁ news₁ → (∀ p ∈ news₁, p.1 ≠ s.heap.objs.size) → (∀ p ∈ own, p.1 = s.heap.objs.size) → (∃ o, (s.heap.objs.size, o) ∈ own) → Fr h₀ env.locals h₁ m₁ → News h₀ env.locals h₁ (own ++ news₁) →
      wpAny (model prog w) A (assign (.Name x px) env (.str ⟨#[c]⟩ u)) (fun _ s₂ => wpAny (model prog w) A (execs body env)
        (LoopStepV h₀ env.locals [s.heap.objs.size] own (J (i + 1)) { s with heap := h₁, toks := tk₁ } (fun v s' => Q (.ret v) s') fun s' => Q .next s') E s₂) E { s with heap := h₁, toks := tk₁ })
    (done : ∀ m₁ news₁ h tk, J y.cps.size m₁ news₁ → Fr h₀ env.locals h m₁ → News h₀ env.locals h news₁ → Q .next { s with heap := h, toks := tk }) :
    wpAny (model prog w) A (pyIter (.str y ty)) (fun it s₂ => TurnsAt prog w A h₀ env (.Name x px) body Q E it s₂) E s := by
  have key : ∀ (ob : Obj) (St : Nat → Heap → Prop), Walks prog w A s.heap.objs.size [s.heap.objs.size] [s.heap.objs.size] y.cps.size (SignAt y) St → (∀ i h, St i h → ∃ o, h.get? s.heap.objs.size = some o) → St 0 (s.heap.push ob) →
      TurnsAt prog w A h₀ env (.Name x px) body Q E (.ref s.heap.objs.size) { s with heap := s.heap.push ob } := by
    intro ob St W live st
    have hI0 : h₀.get? s.heap.objs.size = none := next_is_new F
    refine ⟨s.heap.objs.size, [s.heap.objs.size], [s.heap.objs.size], y.cps.size, _, _, St, m, news, J, rfl, KTurns.ofWalks W (fun i v s' Q' E' _ hq => wpAny_pure hq), ?_, ?_, ?_, st, F.push ob, fun q hq => ⟨Heap.get?_push_of_some _ (N q hq).1, (N q hq).2⟩, h0, ?_, ?_⟩
    · intro hm
      exact absurd (nslt F.ns) ((List.mem_singleton.mp hm) ▸ Nat.lt_irrefl _)
    · intro b hb
      rw [List.mem_singleton.mp hb]; exact hI0
    · intro p hp hm
      exact absurd (List.mem_singleton.mp hm) (Nat.ne_of_lt (nlt (N p hp).1))
    · rintro i v m₁ news₁ h₁ tk₁ own hi hP hJ hnw hfp _ hown hst F1 N1
      obtain ⟨c, u, hc, rfl⟩ := hP
      obtain ⟨o, ho⟩ := live _ _ hst
      exact turn i c u m₁ news₁ h₁ tk₁ own hc hJ (fun p hp e => hnw p hp (e ▸ .head _)) (fun p hp => List.mem_singleton.mp (hfp p hp)) ⟨o, hown _ (.head _) hI0 o ho⟩ F1 N1
    · intro h' tk m' news' F1 N1 _ hJ
      exact done m' news' h' tk hJ F1 N1
  cases ha : y.cps.all (· < 128)
  · exact wpAny_pyIter_wide ha (key _ _ (Walks.strWide hh _ y ty) (fun i h st => let ⟨o, ho, _⟩ := st; ⟨o, ho⟩) ⟨_, Heap.get?_push_size _ rfl, rfl, rfl⟩)
  · exact wpAny_pyIter_ascii ha (key _ _ (Walks.strAscii hh _ y ty) (fun i h st => let ⟨o, ho, _⟩ := st; ⟨o, ho⟩) ⟨_, Heap.get?_push_size _ rfl, rfl, rfl⟩)
end
end Mine

-- part W1b
namespace Mine
section
open PySem PySem.W PySem.Calls PyProof.Rows PySem.Spec
theorem fillme (w : World) : PySem.Challenge.rw_br0037_01 = PySem.Challenge.rw_br0037_01 ∧ hd.heap_1 w.params = hd.heap_1 w.params := by k_fill; exact ⟨rfl, rfl⟩

-- one step of a walk
local macro_rules | `(tactic| boot_fact) => `(tactic| with_reducible first
  | refine wpAny_execs_cons ?_
  | refine wpAny_execs_nil ?_
  | refine wpAny_Return_some ?_
  | refine wpAny_If ?_
  | (refine' wpAny_Assign_Name ?_ ?z1; (case z1 => with_unfolding_all rfl))
  | refine wpAny_AugAssign_Name ?_
  | refine isTrue_and_nil ?_
  | refine isTrue_and ?_
  | refine isTrue_or_nil ?_
  | refine isTrue_or ?_
  | (refine' wpAny_isTrue_Compare1 ?_ ?z1; (case z1 => with_unfolding_all rfl))
  | (refine' wpAny_Compare1 ?_ ?z1; (case z1 => with_unfolding_all rfl))
  | refine wpAny_BinOp ?_
  | refine wpAny_Constant_int ?_
  | refine Calls.Constant_str ?_
  | refine Subscript_ ?_
  | (refine' Call_ ?_ ?z1; (case z1 => with_unfolding_all rfl))
  | (refine' args_cons ?_ ?z1; (case z1 => with_unfolding_all rfl))
  | refine args_nil ?_
  | (refine' callWith_builtin1 ?_ ?z1 ?z2; (case z1 => with_unfolding_all rfl); (case z2 => with_unfolding_all rfl))
  | refine PyProof.Rows.lt_int ?_
  | refine PyProof.Rows.eq_int ?_
  | refine PyProof.Rows.iadd_int ?_
  | refine PyProof.Rows.eq_str ?_
  | (refine' PyProof.Rows.len_str (by have := sizeLine_eq; omega) ?_)
  | refine wpAny_truthy_bool ?_
  | (refine' storeX_L ?z1 ?z2 ?_ ?z3 ?z4; (case z1 => assumption); (case z2 => assumption); (case z3 => with_unfolding_all rfl); (case z4 => with_unfolding_all rfl); intro _ F N; (try dsimp only))
  | (refine' nm_old ?z1 ?z2 ?_ ?z3 ?z4; (case z1 => assumption); (case z2 => first | with_unfolding_all rfl | with_unfolding_all assumption); (case z3 => with_unfolding_all rfl); (case z4 => with_unfolding_all rfl))
  | (refine' nameX_L ?z1 ?z2 ?_ ?z3 ?z4 ?z5; (case z1 => assumption); (case z2 => first | with_unfolding_all rfl | with_unfolding_all assumption); (case z3 => with_unfolding_all rfl); (case z4 => with_unfolding_all rfl); (case z5 => decide))
  | (refine' nm_boot ?z1 ?z2 ?z3 ?z4 ?z5 ?_ ?z6 ?z7 ?z8; (case z1 => assumption); (case z2 => assumption); (case z3 => k_is); (case z4 => first | exact bt_len | exact bt_max | exact bt_min | exact bt_all | exact bt_isinstance | exact bt_int | exact bt_range | exact bt_enumerate | exact bt_list | exact bt_set | exact bt_map | exact bt_zip | exact bt_str | exact bt_tuple); (case z5 => decide); (case z6 => with_unfolding_all rfl); (case z7 => with_unfolding_all rfl); (case z8 => decide)))

def wStep (p : Str) (k : Nat) (c : Nat) : Nat := if p.cps[k]? = some c then k + 1 else k
def within (p y : Str) : Bool := y.cps.toList.foldl (wStep p) 0 == p.length

theorem within_pure {prog : Program} {w : World} {A : Around} {s : Shared} {x y : Str} {t u : Tok} (O : Ok w s.heap) (C : Calm A 1) (hx : x.length ≤ 1000) :
    Gives prog w A (.ref 287) [.str x t, .str y u] (fun v _ => v = .bool (within x y)) s := by
  refine Gives.mk ?_
  refine' enter (binds := [("row", .str x t), ("word", .str y u)]) (n := 0) O C ?ho ?hcd ?hb ?hl ?_ ?hc ?hco ?hg ?hk
  case ho => k_is
  case hcd => k_is
  case hb => exact BindsTo.of_eq rfl
  case hl => exact locs rfl
  case hc => decide
  case hco => rfl
  case hg => rfl
  case hk => rfl
  intro L h₁ tk F N O1 C1
  boot_fact
  boot_fact
  boot_fact
  boot_fact
  boot_fact
  refine' For_invV s.heap ?a ?b ?_ ?c ?d
  case a => rfl
  case b => rfl
  case c => intro _; rfl
  case d => passes_own
  boot_fact
  refine wpAny_pyIter_str fun o St W hst => ?_
  rename Fr _ _ _ _ => F
  refine loop_invN (fun i m nx => nx = [] ∧ ∃ k : Nat, ∃ t', k = (y.cps.toList.take i).foldl (wStep x) 0 ∧ k ≤ x.length ∧ m "place" = some (.int k t') ∧ m "row" = some (.str x t)) (W _ C1.hh) ?_ ?_ ?_ ?_ hst (F.push o) News.nil ?_ ?_ ?_
  · intro hm
    exact absurd F.ns.lt ((List.mem_singleton.mp hm) ▸ Nat.lt_irrefl _)
  · intro b hb
    rw [List.mem_singleton.mp hb]
    exact next_is_new F
  · exact fun _ hp => nomatch hp
  · exact fun _ hp => nomatch hp
  · exact ⟨rfl, 0, _, by simp, Nat.zero_le _, rfl, rfl⟩
  · rintro i v m₁ news₁ h tk own hi ⟨c, uc, hc, rfl⟩ _ hoff ⟨rfl, k, t', hk, hkx, hm1, hm2⟩ F N
    replace F : Fr s.heap L h _ := F
    replace N : News s.heap L h _ := N
    have hk63 : (x.length : Int) < 9223372036854775808 := by omega
    have hlen : x.length = x.cps.size := rfl
    have e1 : (y.cps.toList.take (i + 1)).foldl (wStep x) 0 = wStep x k c := by
      have hc' : y.cps.toList[i]? = some c := by simpa using hc
      rw [List.take_add_one, List.foldl_append, ← hk, hc']
      rfl
    repeat boot_fact
    refine PyProof.Rows.split_dec (fun hlt => ?_) (fun hge => ?_)
    · repeat boot_fact
      refine PyProof.Rows.item_str (fitsSsize_of (N := 9223372036854775808) (by omega) (by omega) (Int.le_refl _)) (by omega) (by omega) (fun _ => ?_)
      repeat boot_fact
      refine PyProof.Rows.split_bool (fun heq => ?_) (fun hne => ?_)
      · repeat boot_fact
        refine PyProof.Rows.split_bool (fun _ => ?_) (fun hf => ?_)
        · repeat boot_fact
          refine InvEndN.intro (by assumption) (by assumption) ⟨rfl, k + 1, _, ?_, ?_, rfl, ?_⟩ rfl (fun _ hp => nomatch hp) (fun _ hp => hp)
          · rw [e1, wStep]
            rw [item_nat (by omega), one_beq] at heq
            have : x.cps[k]? = some c := by
              have hb := (of_decide_eq_true heq).symm
              rw [Array.getD_eq_getD_getElem?] at hb
              have hs : k < x.cps.size := by omega
              rw [Array.getElem?_eq_getElem hs] at hb ⊢
              simpa using hb
            rw [if_pos this]
          · omega
          · with_unfolding_all assumption
        · cases hf
      · repeat boot_fact
        refine PyProof.Rows.split_bool (fun hf => ?_) (fun _ => ?_)
        · cases hf
        · repeat boot_fact
          refine InvEndN.intro (by assumption) (by assumption) ⟨rfl, k, _, ?_, hkx, by with_unfolding_all assumption, by with_unfolding_all assumption⟩ rfl (fun _ hp => nomatch hp) (fun _ hp => hp)
          rw [e1, wStep]
          rw [item_nat (by omega), one_beq] at hne
          have : ¬ x.cps[k]? = some c := by
            have hb := of_decide_eq_false hne
            rw [Array.getD_eq_getD_getElem?] at hb
            intro h
            rw [h] at hb
            exact hb rfl
          rw [if_neg this]
    · repeat boot_fact
      refine PyProof.Rows.split_bool (fun hf => ?_) (fun _ => ?_)
      · cases hf
      · repeat boot_fact
        refine InvEndN.intro (by assumption) (by assumption) ⟨rfl, k, _, ?_, hkx, by with_unfolding_all assumption, by with_unfolding_all assumption⟩ rfl (fun _ hp => nomatch hp) (fun _ hp => hp)
        rw [e1, wStep]
        have : ¬ x.cps[k]? = some c := by
          have hs : x.cps.size ≤ k := by omega
          rw [Array.getElem?_eq_none hs]
          intro h; cases h
        rw [if_neg this]
  · rintro m₁ news₁ h tk ⟨rfl, k, t', hk, hkx, hm1, hm2⟩ F N
    replace F : Fr s.heap L h _ := F
    replace N : News s.heap L h _ := N
    repeat boot_fact
    refine ⟨?_, _, _, rfl, F.keep⟩
    show Value.bool ((k : Int) == (x.length : Int)) = Value.bool (within x y)
    have hfull : y.cps.toList.take y.cps.size = y.cps.toList := List.take_of_length_le (by simp)
    rw [hfull] at hk
    rw [within, ← hk]
    congr 1
    rw [Bool.eq_iff_iff]
    simp only [beq_iff_eq]
    omega
end
end Mine

-- the step, for all the parts that follow
namespace Mine
section
open PySem PySem.W PySem.Calls PyProof.Rows PySem.Spec
-- one step of a walk
local macro_rules | `(tactic| boot_fact) => `(tactic| with_reducible first
  | refine wpAny_execs_cons ?_
  | refine Mine.if_T ?_
  | refine Mine.if_F ?_
  | refine wpAny_execs_nil ?_
  | refine wpAny_Return_some ?_
  | refine wpAny_If ?_
  | (refine' wpAny_Assign_Name ?_ ?z1; (case z1 => with_unfolding_all rfl))
  | (refine' plainObj_wpAny_Assign_Attribute ?_ ?z1; (case z1 => with_unfolding_all rfl))
  | refine PyProof.Rows.truthy_none ?_
  | (refine' wpAny_Assign_Subscript ?_ ?z1; (case z1 => with_unfolding_all rfl))
  | refine wpAny_AugAssign_Name ?_
  | refine isTrue_and_nil ?_
  | refine isTrue_and ?_
  | refine isTrue_or_nil ?_
  | refine isTrue_or ?_
  | refine isTrue_not ?_
  | (refine' wpAny_isTrue_Compare1 ?_ ?z1; (case z1 => with_unfolding_all rfl))
  | (refine' isTrue_plain ?_ ?z1; (case z1 => with_unfolding_all rfl))
  | (refine' PyProof.Rows.Attribute_Name_ ?_ ?z1; (case z1 => with_unfolding_all rfl))
  | refine PyProof.Rows.truthy_int ?_
  | refine PyProof.Rows.isnot_int_none ?_
  | refine isnot_none_none ?_
  | (refine' PyProof.Rows.truthy_tuple ?z1 ?z2 ?_; (case z1 => exact (News.isTup (by assumption) (by first | exact List.mem_cons_self | exact List.mem_cons_of_mem _ List.mem_cons_self | exact List.mem_cons_of_mem _ (List.mem_cons_of_mem _ List.mem_cons_self) | assumption))); (case z2 => simp))
  | (refine' PyProof.Rows.len_tuple ?z1 ?z2 ?_; (case z1 => exact (News.isTup (by assumption) (by first | exact List.mem_cons_self | exact List.mem_cons_of_mem _ List.mem_cons_self | exact List.mem_cons_of_mem _ (List.mem_cons_of_mem _ List.mem_cons_self) | assumption))); (case z2 => simp))
  | (refine' s_get ?z1 ?z2 ?z3 ?z4 ?z5 ?z6 ?z7 ?z8 ?z9 ?_; (case z1 => assumption); (case z2 => assumption); (case z3 => assumption); (case z4 => first | with_unfolding_all assumption | with_unfolding_all exact SelfAt.f (by assumption)); (case z5 => k_is); (case z6 => k_is); (case z7 => k_is); (case z8 => k_is); (case z9 => k_handed))
  | (refine' wpAny_Compare1 ?_ ?z1; (case z1 => with_unfolding_all rfl))
  | refine wpAny_BinOp ?_
  | refine wpAny_Constant_int ?_
  | refine Calls.Constant_str ?_
  | refine wpAny_Constant_none ?_
  | refine wpAny_Constant_bool ?_
  | refine call_int_int ?_
  | refine Subscript_ ?_
  | (refine' MethodCallStar_ ?_ ?z1; (case z1 => with_unfolding_all rfl))
  | (refine' s_statA ?z1 ?z2 ?z3 ?z4 ?z5 ?z6 ?z7 ?z8 ?z9 ?z10 ?z11 ?z12 ?z13 ?_; (case z1 => assumption); (case z2 => assumption); (case z3 => assumption); (case z4 => simp [clsNames]); (case z5 => k_is); (case z6 => k_is); (case z7 => k_is); (case z8 => k_is); (case z9 => k_is); (case z10 => k_is); (case z11 => decide +kernel); (case z12 => k_is); (case z13 => k_handed))
  | (refine' s_bound ?z1 ?z2 ?z3 ?z4 ?z5 ?z6 ?z7 ?z8 ?z9 ?z10 ?z11 ?z12 ?_; (case z1 => assumption); (case z2 => assumption); (case z3 => assumption); (case z4 => assumption); (case z5 => simp [clsNames]); (case z6 => k_is); (case z7 => k_is); (case z8 => k_is); (case z9 => k_is); (case z10 => k_is); (case z11 => k_is); (case z12 => decide +kernel); intro _ _ F N; (try dsimp only))
  | (refine' PyProof.Rows.MethodCall_ ?_ ?z1; (case z1 => with_unfolding_all rfl))
  | (refine' Call_ ?_ ?z1; (case z1 => with_unfolding_all rfl))
  | (refine' s_own ?z1 ?z2 ?z3 ?z4 ?z5 ?z6 ?z7 ?z8 ?z9 ?_; (case z1 => assumption); (case z2 => assumption); (case z3 => assumption); (case z4 => first | with_unfolding_all assumption | with_unfolding_all exact SelfAt.f (by assumption)); (case z5 => k_is); (case z6 => k_is); (case z7 => k_is); (case z8 => k_is); (case z9 => k_handed))
  | (refine' s_meth ?z1 ?z2 ?z3 ?z4 ?z5 ?z6 ?z7 ?_; (case z1 => assumption); (case z2 => assumption); (case z3 => assumption); (case z4 => simp [clsNames]); (case z5 => k_is); (case z6 => k_is); (case z7 => k_is))
  | (refine' s_stat ?z1 ?z2 ?z3 ?z4 ?z5 ?z6 ?z7 ?z8 ?z9 ?z10 ?z11 ?z12 ?z13 ?_; (case z1 => assumption); (case z2 => assumption); (case z3 => assumption); (case z4 => simp [clsNames]); (case z5 => k_is); (case z6 => k_is); (case z7 => k_is); (case z8 => k_is); (case z9 => k_is); (case z10 => k_is); (case z11 => decide +kernel); (case z12 => k_is); (case z13 => k_handed))
  | (refine' callWith_S ?z1 ?z2 ?_ ?z3; (case z1 => exact (Ok.k (by assumption))); (case z2 => k_is); (case z3 => with_unfolding_all rfl))
  | (refine' star_seq (T := "tuple") ?z1 ?z2 ?z3 ?z4 ?z5 (Or.inr rfl) ?z6 ?z7 ?_; (case z1 => assumption); (case z2 => assumption); (case z3 => first | exact List.mem_cons_self | exact List.mem_cons_of_mem _ List.mem_cons_self | exact List.mem_cons_of_mem _ (List.mem_cons_of_mem _ List.mem_cons_self) | assumption); (case z4 => with_unfolding_all rfl); (case z5 => with_unfolding_all rfl); (case z6 => with_unfolding_all rfl); (case z7 => rw [sizeLine_eq]; simp); intro _ F N; (try dsimp only))
  | (refine' star_seq (T := "list") ?z1 ?z2 ?z3 ?z4 ?z5 (Or.inl rfl) ?z6 ?z7 ?_; (case z1 => assumption); (case z2 => assumption); (case z3 => first | exact List.mem_cons_self | exact List.mem_cons_of_mem _ List.mem_cons_self | exact List.mem_cons_of_mem _ (List.mem_cons_of_mem _ List.mem_cons_self) | assumption); (case z4 => with_unfolding_all rfl); (case z5 => with_unfolding_all rfl); (case z6 => with_unfolding_all rfl); (case z7 => rw [sizeLine_eq]; simp); intro _ F N; (try dsimp only))
  | (refine' callWith_K ?z1 ?z2 ?_ ?z3 ?z4; (case z1 => exact (Ok.k (by assumption))); (case z2 => k_is); (case z3 => with_unfolding_all rfl); (case z4 => with_unfolding_all rfl))
  | (refine ⟨inOf (by assumption) (by assumption), ?_⟩; dsimp only [List.nil_append, List.cons_append])
  | (refine' args_cons ?_ ?z1; (case z1 => with_unfolding_all rfl))
  | refine args_nil ?_
  | refine List_ ?_
  | refine Tuple_ ?_
  | (refine' PyProof.Rows.callWith_builtin1 ?_ ?z1 ?z2; (case z1 => with_unfolding_all rfl); (case z2 => with_unfolding_all rfl))
  | (refine' PyProof.Rows.callWith_type1 ?_ ?z1 ?z2; (case z1 => with_unfolding_all rfl); (case z2 => with_unfolding_all rfl))
  | (refine' newList_N ?z1 ?z2 ?_ (Nat.le_of_ble_eq_true rfl); (case z1 => assumption); (case z2 => assumption); intro _ F N; (try dsimp only))
  | (refine' newTuple_N ?z1 ?z2 ?_ (Nat.le_of_ble_eq_true rfl); (case z1 => assumption); (case z2 => assumption); intro _ F N; (try dsimp only))
  | refine assignInOrder_cons ?_
  | refine wpAny_assign_Name ?_
  | refine assignInOrder_nil ?_
  | refine bindName_ ?_
  | (refine' unpackItemsN_ ?z1 ?z2 ?z3 ?z4 ?z5 ?_; (case z1 => assumption); (case z2 => assumption); (case z3 => exact (News.isTup (by assumption) List.mem_cons_self)); (case z4 => with_unfolding_all assumption); (case z5 => with_unfolding_all rfl); intro _ F N; dsimp only [List.reverse, List.reverseAux, List.map])
  | refine PyProof.Rows.lt_int ?_
  | refine PyProof.Rows.eq_int ?_
  | refine PyProof.Rows.ne_int ?_
  | refine PyProof.Rows.add_int ?_
  | refine PyProof.Rows.sub_int ?_
  | refine PyProof.Rows.iadd_int ?_
  | refine PyProof.Rows.isub_int ?_
  | refine PyProof.Rows.eq_str ?_
  | refine PyProof.Rows.ne_str ?_
  | (refine' PyProof.Rows.len_str ?z1 ?_; (case z1 => omega))
  | refine wpAny_truthy_bool ?_
  | refine PyProof.Rows.UnaryOp_ ?_
  | (refine' PyProof.Rows.mod_int ?z1 ?_; (case z1 => decide))
  | (refine' PyProof.Rows.floordiv_int ?z1 ?_ ?z2; (case z1 => decide); (case z2 => exact (Or.inl (PyProof.noPylong_small (by decide)))))
  | refine BoolOp_or ?_
  | refine wpAny_Slice ?_
  | refine evalPart_N ?_
  | refine evalPart_S ?_
  | refine BoolOp_one ?_
  | refine IfExp_ ?_
  | refine PyProof.Rows.neg_int ?_
  | refine PyProof.Rows.not_of ?_
  | refine add_int_bool ?_
  | (refine' stE_L ?z1 ?z2 ?z3 ?z4 ?z5 ?_; (case z1 => with_unfolding_all rfl); (case z2 => with_unfolding_all rfl); (case z3 => assumption); (case z4 => assumption); (case z5 => with_unfolding_all rfl); intro _ _ F N; (try dsimp only))
  | (refine' ldE_L ?z1 ?z2 ?z3 ?z4 ?z5 ?_; (case z1 => with_unfolding_all rfl); (case z2 => with_unfolding_all rfl); (case z3 => assumption); (case z4 => with_unfolding_all rfl); (case z5 => first | with_unfolding_all rfl | with_unfolding_all assumption))
  | (refine' nmE_L ?z1 ?z2 ?z3 ?z4 ?z5 ?z6 ?_; (case z1 => with_unfolding_all rfl); (case z2 => with_unfolding_all rfl); (case z3 => decide); (case z4 => assumption); (case z5 => with_unfolding_all rfl); (case z6 => first | with_unfolding_all rfl | with_unfolding_all assumption))
  | (refine' nmE_C ?z1 ?z2 ?z3 ?z4 ?z5 ?z6 ?z7 ?_; (case z1 => with_unfolding_all rfl); (case z2 => with_unfolding_all rfl); (case z3 => with_unfolding_all rfl); (case z4 => decide); (case z5 => assumption); (case z6 => first | exact List.mem_cons_self | exact List.mem_cons_of_mem _ List.mem_cons_self | exact List.mem_cons_of_mem _ (List.mem_cons_of_mem _ List.mem_cons_self) | exact List.mem_cons_of_mem _ (List.mem_cons_of_mem _ (List.mem_cons_of_mem _ List.mem_cons_self)) | assumption); (case z7 => assumption))
  | (refine' nmE_boot ?z1 ?z2 ?z3 ?z4 ?z5 ?z6 ?z7 ?z8 ?z9 ?z10 ?_; (case z1 => with_unfolding_all rfl); (case z2 => with_unfolding_all rfl); (case z3 => with_unfolding_all rfl); (case z4 => with_unfolding_all rfl); (case z5 => decide); (case z6 => k_is); (case z7 => first | exact bt_len | exact bt_max | exact bt_min | exact bt_all | exact bt_isinstance | exact bt_int | exact bt_range | exact bt_enumerate | exact bt_list | exact bt_set | exact bt_map | exact bt_zip | exact bt_str | exact bt_tuple); (case z8 => decide); (case z9 => assumption); (case z10 => assumption))
  | (refine' if_is_T ?z1 ?_; (case z1 => with_unfolding_all rfl))
  | (refine' if_is_F ?z1 ?_; (case z1 => with_unfolding_all rfl))
  | (refine' nmE_glob ?z1 ?z2 ?z3 ?z4 ?z5 ?z6 ?z7 ?_; (case z1 => with_unfolding_all rfl); (case z2 => with_unfolding_all rfl); (case z3 => with_unfolding_all rfl); (case z4 => decide); (case z5 => k_is); (case z6 => assumption); (case z7 => assumption)))

-- part Dyn
section
open PySem PySem.W PySem.Calls PyProof.Rows PySem.Spec
theorem dyn_pure {prog : Program} {w : World} {A : Around} {s : Shared} {x y : Str} {t u : Tok} {self : Value} (O : Ok w s.heap) (C : Calm A 1) (hx : x.length ≤ 1000) (hy : y.length ≤ 1000) :
    Gives prog w A (.ref 203) [self, .str x t, .str y u] (fun v _ => ∃ t', v = .str ⟨(tr x.cps.toList y.cps.toList x.length y.length []).toArray⟩ t') s := by
  refine Gives.mk ?_
  refine' enterC (binds := [("self", self), ("seq1", .str x t), ("seq2", .str y u)]) (n := 0) O C ?ho ?hcd ?hb ?hl ?hc ?_ ?hco ?hg ?hk
  case ho => k_is
  case hcd => k_is
  case hb => exact BindsTo.of_eq rfl
  case hl => exact rfl
  case hc => decide +kernel
  case hco => rfl
  case hg => rfl
  case hk => rfl
  intro L h₁ tk cells F N Y O1 C1
  obtain ⟨oc, rfl, hoc⟩ := CellsAre.one Y
  replace hoc : oc.data = .cell (some (.str y u)) := hoc
  replace F : Fr s.heap L h₁ (fun z => if z = "seq1" then some (.str x t) else if z = "self" then some self else none) := F
  boot_fact
  refine' listcomp_store (h₀ := s.heap) (x.length + 1) (fun _ => true) (fun lim _ y' h => RowAt lim (List.replicate (y.length + 1) 0) y' h) ?a1 ?a2 ?a3 ?a4 ?a5 ?a6 ?a7 ?a8 ?a9 ?a10 ?_ ?a11
  case a1 => rfl
  case a2 => rfl
  case a3 => decide
  case a4 => rfl
  case a5 => decide
  case a6 => rfl
  case a7 => rfl
  case a8 => rfl
  case a9 => exact fun lim i y' h h' g k => g.above k
  case a10 => exact fun lim i y' h g => g.live
  case a11 => intro _; rfl
  repeat boot_fact
  refine range_it (n := x.length + 1) C1.hh F N (by omega) (by omega) ?_
  intro I St h2 tk2 F2 N2 S2
  have hLs : L < h2.objs.size := nslt F2.ns
  refine ⟨_, _, F2, N2, S2.newL, ⟨⟨I, [I], _, St, rfl, S2.walks, S2.low, by rw [sizeLine_eq]; omega, S2.st, ?_, ?_⟩⟩, ?_⟩
  · intro i v s₃ m₃ hi hv hn hm hk
    exact wpAny_pure ⟨rfl, (Kept.rfl' _).toC hn⟩
  · intro i v s₃ m₃ hi hv _ hn hm hk
    have hk0 : ∀ b o, s.heap.get? b = some o → s₃.heap.get? b = some o := fun b o e => hk b o (fun q => by rw [q, S2.base] at e; cases e) (F2.keep b o e)
    have F3 : Fr s.heap (h2.objs.size + 1) s₃.heap m₃ := ⟨hn, hk0, Nat.le_trans F2.above (Nat.le_succ_of_le (Nat.le_of_lt hLs))⟩
    obtain ⟨all, NA, hall⟩ := allNews s.heap (h2.objs.size + 1) s₃.heap
    have N3 : News s.heap (h2.objs.size + 1) s₃.heap ((L + 1, oc) :: all) := fun q hq => by
      rcases List.mem_cons.mp hq with rfl | hq
      · have hq : (L + 1, oc) ∈ [(L + 1, oc)] := .head _
        exact ⟨hk _ _ (S2.apart _ hq) (N2 _ hq).1, Nat.ne_of_lt (Nat.lt_succ_of_lt (nlt (N2 _ hq).1)), (N2 _ hq).2.2⟩
      · exact NA q hq
    have hall' : ∀ b o, b ≠ h2.objs.size + 1 → s.heap.get? b = none → s₃.heap.get? b = some o → (b, o) ∈ (L + 1, oc) :: all := fun b o x y z => .tail _ (hall b o x y z)
    clear hall NA
    clear F F2 N N2
    repeat boot_fact
    rename Fr _ _ _ _ => F4
    rename News _ _ _ _ => N4
    refine' mul_list ?f ?n ?e0 ?e1 ?e2 ?e3 ?_
    case f => exact F4
    case n => exact N4
    case e0 => exact N4.get (.head _)
    case e1 => omega
    case e2 => omega
    case e3 => simp; omega
    intro h5 F5 N5
    refine ⟨⟨_, _, _, rfl, Nat.succ_le_of_lt (nslt F4.ns), N5.get (.head _), ?_⟩, ⟨_, _, rfl, keptOf F5 N5 hk0 fun b o x y z => .tail _ (.tail _ (hall' b o x y z)), F5.ns⟩, ?_⟩
    · rw [listMul_foldl_if]
      have : ((y.length : Int) + 1).toNat = y.length + 1 := by omega
      rw [this]
      simpa using ints_zeros (y.length + 1) _
    · exact newValOf (keptOf F4 N4 hk0 fun b o x y z => .tail _ (hall' b o x y z)) F4.ns
  · intro h' tk ys k F3 N3 hap hP
    replace F3 : Fr s.heap L h' _ := F3
    replace N3 : News s.heap L h' _ := N3
    dsimp only at F3 N3 hP ⊢
    have hys : (List.range (x.length + 1)).filter (fun _ => true) = List.range (x.length + 1) := by simp
    rw [hys] at hP
    have hL1 : @LT.lt Nat instLTNat (L + 1) h2.objs.size := nlt (N2 (L + 1, oc) (.head _)).1
    obtain ⟨r, vs, kk, eys, inj, hrow, hlim, NR⟩ := rows_of (h₀ := s.heap) (L := L) (Nat.lt_of_lt_of_le hLs (Nat.le_add_right _ 2)) (Nat.le_trans F2.above (Nat.le_trans (Nat.le_of_lt hLs) (Nat.le_add_right _ 2))) hP hap
    obtain ⟨T, hT⟩ : ∃ T, T = h2.objs.size := ⟨_, rfl⟩
    have hTr : ∀ p, p < x.length + 1 → ∀ q ∈ [(T, listOf ys k), (L + 1, oc)], q.1 ≠ r p := by
      intro p hp q hq e
      have h1 := hlim p hp
      rcases List.mem_cons.mp hq with rfl | hq
      · subst hT
        dsimp only at e
        have : @Eq Nat _ _ := e
        omega
      · rw [List.mem_singleton.mp hq] at e
        dsimp only at e
        have : @Eq Nat _ _ := e
        omega
    rw [← hT] at F3 N3
    have NT : News s.heap L h' ([(T, listOf ys k), (L + 1, oc)] ++ rowsLed (x.length + 1) r fun p => listOf (vs p) (kk p)) := fun q hq => by
      rcases List.mem_append.mp hq with hq | hq
      · exact N3 q hq
      · exact NR q hq
    have hyr : ∀ p, p < x.length + 1 → ys.toList[p]? = some (.ref (r p)) := fun p hp => by rw [eys]; simp [hp]
    have hrow : ∀ p, p < x.length + 1 → IntsAre (vs p).toList ((List.range (y.length + 1)).map fun q => (cell x.cps.toList y.cps.toList 0 0 p q : Int)) := by
      intro p hp
      have h1 := hrow p hp
      have : ((List.range (y.length + 1)).map fun q => (cell x.cps.toList y.cps.toList 0 0 p q : Int)) = List.replicate (y.length + 1) 0 := by
        apply List.ext_getElem?
        intro q
        by_cases hq : q < y.length + 1
        · simp [hq, cell_zero]
        · rw [List.getElem?_eq_none (by simp; omega), List.getElem?_eq_none (by simp; omega)]
      rw [this]
      exact h1
    clear hP NR N3 N N2 F F2 hap S2
    have hls_signs : ∀ x : Str, (signs x).length = x.length := fun x => by rw [signs_length]
    boot_fact
    have hh := C1.hh
    refine' For_pair3F F3 hh ?b1 ?b2 ?b3 ?_ ?b5 ?b6
    case b1 => rfl
    case b2 => rfl
    case b3 => rfl
    case b5 => intro _; rfl
    case b6 => passes_own
    repeat boot_fact
    refine call_enum_str hh F3 NT fun h3 e3 F5 N5 S5 => ?_
    refine' S5 _ rfl _ _ _ _ (fun i m news => ∃ vs : Nat → Array Value, news = [(T, listOf ys k), (L + 1, oc)] ++ rowsLed (x.length + 1) r (fun p => listOf (vs p) (kk p)) ∧
      (∀ p, p < x.length + 1 → IntsAre (vs p).toList ((List.range (y.length + 1)).map fun q => (cell x.cps.toList y.cps.toList i 0 p q : Int))) ∧ m "lengths" = some (.ref T) ∧ m "seq1" = some (.str x t)) ⟨vs, rfl, hrow, rfl, rfl⟩ ?step ?done
    case step =>
      clear hrow N5 F5 S5 F3 NT
      rintro i a t1 v1 m₁ news₁ s₁ own ⟨h, tk₁, rfl⟩ ha hKa ⟨vs₁, rfl, hrow₁, hm1, hm2⟩ hadr hown F N
      obtain ⟨u1, rfl⟩ := hKa
      have hmc : (L + 1, oc) ∈ own ++ ([(T, listOf ys k), (L + 1, oc)] ++ rowsLed (x.length + 1) r fun p => listOf (vs₁ p) (kk p)) := List.mem_append_right _ (List.mem_append_left _ (.tail _ (.head _)))
      replace F : Fr s.heap L h _ := F
      replace N : News s.heap L h _ := N
      dsimp only
      boot_fact
      refine' For_pair3F F hh ?b1 ?b2 ?b3 ?_ ?b5 ?b6
      case b1 => rfl
      case b2 => rfl
      case b3 => rfl
      case b5 => intro _; rfl
      case b6 => passes_own
      repeat boot_fact
      refine call_enum_str hh F N fun h3 e3 F5 N5 S5 => ?_
      have hadr1 : ∀ p, p < x.length + 1 → ∀ q ∈ own, q.1 ≠ r p := fun p hp q hq e => hown q hq (r p, _) (List.mem_append_right _ (rowsLed_mem hp)) e
      refine' S5 _ rfl _ _ _ _ (fun j m news => ∃ vs : Nat → Array Value, news = own ++ ([(T, listOf ys k), (L + 1, oc)] ++ rowsLed (x.length + 1) r (fun p => listOf (vs p) (kk p))) ∧
        (∀ p, p < x.length + 1 → IntsAre (vs p).toList ((List.range (y.length + 1)).map fun q => (cell x.cps.toList y.cps.toList i j p q : Int))) ∧ m "lengths" = some (.ref T) ∧ m "seq1" = some (.str x t) ∧ m "i" = some (.int i t1) ∧ m "char1" = some (.str a u1)) ⟨vs₁, rfl, hrow₁, hm1, hm2, rfl, rfl⟩ ?step2 ?done2
      case step2 =>
        clear hrow₁ N5 F5 S5 F N hm1 hm2 hmc
        rintro j b t2 v m₁ news₁ s₁ own2 ⟨h, tk₁, rfl⟩ hb hKb ⟨vs₁, rfl, hrow₁, hm1, hm2, hm3, hm4⟩ _ hown2 F N
        obtain ⟨u2, rfl⟩ := hKb
        replace F : Fr s.heap L h _ := F
        replace N : News s.heap L h _ := N
        dsimp only
        have hij := sign_lt ha
        have hjj := sign_lt hb
        have h1 : ∀ p, p < x.length + 1 → ∀ q ∈ own2 ++ own, q.1 ≠ r p := fun p hp q hq => by
          rcases List.mem_append.mp hq with hq | hq
          · exact fun e => hown2 q hq (r p, _) (List.mem_append_right _ (List.mem_append_right _ (rowsLed_mem hp))) e
          · exact hadr1 p hp q hq
        rw [← List.append_assoc] at N
        have hmT : (T, listOf ys k) ∈ (own2 ++ own) ++ ([(T, listOf ys k), (L + 1, oc)] ++ rowsLed (x.length + 1) r fun p => listOf (vs₁ p) (kk p)) := List.mem_append_right _ (List.mem_append_left _ (.head _))
        have hmR : ∀ p, p < x.length + 1 → (r p, listOf (vs₁ p) (kk p)) ∈ (own2 ++ own) ++ ([(T, listOf ys k), (L + 1, oc)] ++ rowsLed (x.length + 1) r fun p => listOf (vs₁ p) (kk p)) := fun p hp => List.mem_append_right _ (List.mem_append_right _ (rowsLed_mem hp))
        repeat boot_fact
        refine PyProof.Rows.split_bool (fun heq => ?_) (fun hne => ?_)
        · repeat boot_fact
          refine read_ref N hmT (k := i) rfl (by omega) (hyr i (by omega)) ?_
          repeat boot_fact
          refine read_int N (hmR i (by omega)) (hrow₁ i (by omega)) (k := j) rfl (by omega) (by omega) (fun t3 => ?_)
          repeat boot_fact
          refine read_ref N hmT (k := i + 1) (by omega) (by omega) (hyr (i + 1) (by omega)) ?_
          repeat boot_fact
          refine set_rows (q := j + 1) F N hrow₁ (p := i + 1) (by omega) inj (h1 (i + 1) (by omega)) (hTr (i + 1) (by omega)) (by omega) (by omega) (by omega) (fun h4 F4 N4 => ?_)
          repeat boot_fact
          refine LoopStep3.of2 (LoopStep2.intro F4 (by rw [List.append_assoc] at N4; exact N4) ?_ ⟨_, rfl, ?_, hm1, hm2, hm3, hm4⟩)
          · simp [rowsLed_fst]
          · intro p hp
            rw [cell_map (z := (cell x.cps.toList y.cps.toList i j i j : Int) + 1)]
            · exact rows_set hrow₁ (by omega) p hp
            · rw [signs_beq ha hb] at heq
              rw [cell_old, lc_succ, if_pos (of_decide_eq_true heq)]; rfl
        · repeat boot_fact
          refine read_ref N hmT (k := i + 1) (by omega) (by omega) (hyr (i + 1) (by omega)) ?_
          repeat boot_fact
          refine read_int N (hmR (i + 1) (by omega)) (hrow₁ (i + 1) (by omega)) (k := j) rfl (by omega) (by omega) (fun t3 => ?_)
          repeat boot_fact
          refine read_ref N hmT (k := i) rfl (by omega) (hyr i (by omega)) ?_
          repeat boot_fact
          refine read_int N (hmR i (by omega)) (hrow₁ i (by omega)) (k := j + 1) (by omega) (by omega) (by omega) (fun t4 => ?_)
          repeat boot_fact
          refine max_two_N hh F N fun h4 tk4 F4 N4 => ?_
          repeat boot_fact
          refine read_ref N4 hmT (k := i + 1) (by omega) (by omega) (hyr (i + 1) (by omega)) ?_
          repeat boot_fact
          refine set_rows (q := j + 1) F4 N4 hrow₁ (p := i + 1) (by omega) inj (h1 (i + 1) (by omega)) (hTr (i + 1) (by omega)) (by omega) (by omega) (by omega) (fun h4 F4 N4 => ?_)
          repeat boot_fact
          refine LoopStep3.of2 (LoopStep2.intro F4 (by rw [List.append_assoc] at N4; exact N4) ?_ ⟨_, rfl, ?_, hm1, hm2, hm3, hm4⟩)
          · simp [rowsLed_fst]
          · intro p hp
            rw [cell_map (z := if (cell x.cps.toList y.cps.toList i j i (j + 1) : Int) > (cell x.cps.toList y.cps.toList i j (i + 1) j : Int) then (cell x.cps.toList y.cps.toList i j i (j + 1) : Int) else (cell x.cps.toList y.cps.toList i j (i + 1) j : Int))]
            · exact rows_set hrow₁ (by omega) p hp
            · rw [signs_beq ha hb] at hne
              rw [cell_old, cell_left, lc_succ, if_neg (of_decide_eq_false hne)]
              split <;> omega
      case done2 =>
        rintro h4 tk4 m4 news4 F4 N4 hadr4 ⟨vs4, rfl, hrow4, e1, e2, e3, e4⟩
        replace F4 : Fr s.heap L h4 _ := F4
        replace N4 : News s.heap L h4 _ := N4
        dsimp only
        repeat boot_fact
        refine LoopStep3.of2 (LoopStep2.intro F4 N4 ?_ ⟨_, rfl, ?_, e1, e2⟩)
        · simp [rowsLed_fst]
        · intro p hp
          rw [cell_map_turn]
          have := hrow4 p hp
          rw [hls_signs y] at this
          exact this
    case done =>
      rintro h4 tk4 m4 news4 F4 N4 hadr4 ⟨vs4, rfl, hrow4, e1, e2⟩
      replace F4 : Fr s.heap L h4 _ := F4
      replace N4 : News s.heap L h4 _ := N4
      dsimp only
      have hmc : (L + 1, oc) ∈ [(T, listOf ys k), (L + 1, oc)] ++ rowsLed (x.length + 1) r fun p => listOf (vs4 p) (kk p) := List.mem_append_left _ (.tail _ (.head _))
      repeat boot_fact
      refine Assign_Tuple_swapped (names := ["i", "j"]) ?_ (by rfl) (by rfl)
      repeat boot_fact
      rename Fr _ _ _ _ => F6
      rename News _ _ _ _ => N6
      replace F6 : Fr s.heap L _ _ := F6
      replace N6 : News s.heap L _ _ := N6
      replace N6 := PyProof.Rows.News.tail' N6
      refine wpAny_While ?_
      refine codeAny_whileLoop (fun n s' => ∃ i j acc h' tk m ti tj t' zi zj zr, s' = { s with heap := h', toks := tk } ∧ n = i + j ∧ i ≤ x.length ∧ j ≤ y.length ∧ tr x.cps.toList y.cps.toList i j acc = tr x.cps.toList y.cps.toList x.length y.length [] ∧ acc.length + i ≤ x.length ∧ Fr s.heap L h' m ∧
        News s.heap L h' ([(T, listOf ys k), (L + 1, oc)] ++ rowsLed (x.length + 1) r (fun p => listOf (vs4 p) (kk p))) ∧ m "lengths" = some (.ref T) ∧ m "seq1" = some (.str x t) ∧ m "i" = some (.int zi ti) ∧ m "j" = some (.int zj tj) ∧ m "result" = some (.str zr t') ∧ zi = (i : Int) ∧ zj = (j : Int) ∧ zr = ⟨acc.toArray⟩) ?_ (x.length + y.length) ⟨x.length, y.length, [], _, _, _, _, _, _, _, _, _, rfl, rfl, Nat.le_refl _, Nat.le_refl _, rfl, by simp, F6, N6, e1, e2, rfl, rfl, rfl, rfl, rfl, rfl⟩
      have hrow5 : ∀ p, p < x.length + 1 → IntsAre (vs4 p).toList ((List.range (y.length + 1)).map fun q => (lc x.cps.toList y.cps.toList p q : Int)) := by
        intro p hp
        have h1 := hrow4 p hp
        rw [hls_signs x] at h1
        have h2 : ((List.range (y.length + 1)).map fun q => (cell x.cps.toList y.cps.toList x.length 0 p q : Int)) = (List.range (y.length + 1)).map fun q => (lc x.cps.toList y.cps.toList p q : Int) := List.map_congr_left fun q _ => by rw [cell_full _ _ _ _ _ (by omega)]
        rw [h2] at h1
        exact h1
      clear hrow4 F4 N4 F6 N6 e1 e2 hmc F5 N5 S5 F3 NT hrow hadr4
      rintro n _ ⟨i, j, acc, h6, tk6, m6, ti, tj, t', zi, zj, zr, rfl, rfl, hi, hj, htr, hacc, F, N, e1, e2, e3, e4, e5, rfl, rfl, rfl⟩
      have hmc : (L + 1, oc) ∈ [(T, listOf ys k), (L + 1, oc)] ++ rowsLed (x.length + 1) r fun p => listOf (vs4 p) (kk p) := List.mem_append_left _ (.tail _ (.head _))
      repeat boot_fact
      refine PyProof.Rows.split_bool (fun c1 => ?_) (fun c1 => ?_)
      · repeat boot_fact
        refine PyProof.Rows.split_bool (fun c2 => ?_) (fun c2 => ?_)
        · obtain ⟨i, rfl⟩ : ∃ i', i = i' + 1 := ⟨i - 1, by have : ¬ i = 0 := (fun h => by subst h; exact absurd c1 (by decide)); omega⟩
          obtain ⟨j, rfl⟩ : ∃ j', j = j' + 1 := ⟨j - 1, by have : ¬ j = 0 := (fun h => by subst h; exact absurd c2 (by decide)); omega⟩
          have hmT : (T, listOf ys k) ∈ [(T, listOf ys k), (L + 1, oc)] ++ rowsLed (x.length + 1) r fun p => listOf (vs4 p) (kk p) := List.mem_append_left _ (.head _)
          have hmR : ∀ p, p < x.length + 1 → (r p, listOf (vs4 p) (kk p)) ∈ [(T, listOf ys k), (L + 1, oc)] ++ rowsLed (x.length + 1) r fun p => listOf (vs4 p) (kk p) := fun p hp => List.mem_append_right _ (rowsLed_mem hp)
          repeat boot_fact
          refine read_ref N hmT (k := i + 1) rfl (by omega) (hyr (i + 1) (by omega)) ?_
          repeat boot_fact
          refine read_int N (hmR (i + 1) (by omega)) (hrow5 (i + 1) (by omega)) (k := j + 1) rfl (by omega) (by omega) (fun t3 => ?_)
          repeat boot_fact
          refine read_ref N hmT (k := i) (by omega) (by omega) (hyr i (by omega)) ?_
          repeat boot_fact
          refine read_int N (hmR i (by omega)) (hrow5 i (by omega)) (k := j + 1) rfl (by omega) (by omega) (fun t4 => ?_)
          repeat boot_fact
          refine PyProof.Rows.split_bool (fun d1 => ?_) (fun d1 => ?_)
          · repeat boot_fact
            rename Fr _ _ _ _ => F6
            rename News _ _ _ _ => N6
            replace d1 : (lc x.cps.toList y.cps.toList (i + 1) (j + 1) : Int) = (lc x.cps.toList y.cps.toList i (j + 1) : Int) := by simpa using d1
            refine ⟨i + (j + 1), by omega, i, j + 1, acc, _, _, _, _, _, _, _, _, _, rfl, rfl, by omega, hj, ?_, by omega, F6, N6, e1, e2, rfl, e4, e5, by omega, by omega, rfl⟩
            rw [← htr, tr_succ, if_pos (by omega)]
          · repeat boot_fact
            refine read_ref N hmT (k := i + 1) rfl (by omega) (hyr (i + 1) (by omega)) ?_
            repeat boot_fact
            refine read_int N (hmR (i + 1) (by omega)) (hrow5 (i + 1) (by omega)) (k := j + 1) rfl (by omega) (by omega) (fun t3 => ?_)
            repeat boot_fact
            refine read_ref N hmT (k := i + 1) rfl (by omega) (hyr (i + 1) (by omega)) ?_
            repeat boot_fact
            refine read_int N (hmR (i + 1) (by omega)) (hrow5 (i + 1) (by omega)) (k := j) (by omega) (by omega) (by omega) (fun t4 => ?_)
            repeat boot_fact
            have d1' : ¬ lc x.cps.toList y.cps.toList (i + 1) (j + 1) = lc x.cps.toList y.cps.toList i (j + 1) := by
              have : ¬ (lc x.cps.toList y.cps.toList (i + 1) (j + 1) : Int) = (lc x.cps.toList y.cps.toList i (j + 1) : Int) := by simpa using d1
              omega
            refine PyProof.Rows.split_bool (fun d2 => ?_) (fun d2 => ?_)
            · repeat boot_fact
              rename Fr _ _ _ _ => F6
              rename News _ _ _ _ => N6
              have d2' : lc x.cps.toList y.cps.toList (i + 1) (j + 1) = lc x.cps.toList y.cps.toList (i + 1) j := by
                have : (lc x.cps.toList y.cps.toList (i + 1) (j + 1) : Int) = (lc x.cps.toList y.cps.toList (i + 1) j : Int) := by simpa using d2
                omega
              refine ⟨(i + 1) + j, by omega, i + 1, j, acc, _, _, _, _, _, _, _, _, _, rfl, rfl, hi, by omega, ?_, by omega, F6, N6, e1, e2, e3, rfl, e5, by omega, by omega, rfl⟩
              rw [← htr, tr_succ, if_neg d1', if_pos d2']
            · have d2' : ¬ lc x.cps.toList y.cps.toList (i + 1) (j + 1) = lc x.cps.toList y.cps.toList (i + 1) j := by
                have : ¬ (lc x.cps.toList y.cps.toList (i + 1) (j + 1) : Int) = (lc x.cps.toList y.cps.toList (i + 1) j : Int) := by simpa using d2
                omega
              have hsame := tr_same _ _ _ _ d1' d2'
              have hxi : i < x.cps.size := hi
              have hyj : j < y.cps.size := hj
              have hsame' : x.cps.getD i 0 = y.cps.getD j 0 := by
                rw [Array.getElem?_toList, Array.getElem?_toList] at hsame
                simp [Array.getD_eq_getD_getElem?, hsame]
              repeat boot_fact
              refine wpAny_Assert_holds ?_
              repeat boot_fact
              refine read_str (k := i) (by omega) (by omega) (by omega) ?_
              repeat boot_fact
              refine read_str (k := j) (by omega) (by omega) (by omega) ?_
              repeat boot_fact
              refine ⟨by rw [one_beq, decide_eq_true hsame'], ?_⟩
              repeat boot_fact
              refine read_str (k := i) (by omega) (by omega) (by omega) ?_
              repeat boot_fact
              refine PyProof.Rows.add_str (fun t7 tk7 => ?_) (by rw [sizeLine_eq]; show 1 + acc.toArray.size ≤ _; simp; omega)
              repeat boot_fact
              rename Fr _ _ _ _ => F6
              rename News _ _ _ _ => N6
              refine ⟨i + j, by omega, i, j, x.cps.toList.getD i 0 :: acc, _, _, _, _, _, _, _, _, _, rfl, rfl, by omega, by omega, ?_, by simp; omega, F6, N6, e1, e2, rfl, rfl, rfl, by omega, by omega, ?_⟩
              · rw [← htr, tr_succ, if_neg d1', if_neg d2']
              · show (⟨#[x.cps.getD i 0] ++ acc.toArray⟩ : Str) = _
                simp [Array.getD_eq_getD_getElem?]
        · repeat boot_fact
          have : j = 0 := by have := c2; simp at this; omega
          subst this
          rw [tr_zero_right] at htr
          exact ⟨⟨t', by rw [← htr]⟩, _, _, rfl, F.keep⟩
      · repeat boot_fact
        have : i = 0 := by have := c1; simp at this; omega
        subst this
        rw [tr_zero_left] at htr
        exact ⟨⟨t', by rw [← htr]⟩, _, _, rfl, F.keep⟩
end

-- part Ident
section
open PySem PySem.W PySem.Calls PyProof.Rows PySem.Spec
theorem ident2 {prog : Program} {w : World} {A : Around} {s : Shared} {x y : Str} {t u : Tok} (O : Ok w s.heap) (C : Calm A 1) :
    Gives prog w A (.ref 100) [.str x t, .str y u] (fun v _ => v = .bool (decide (x = y))) s := by
  refine Gives.mk ?_
  refine' enterV (n := 0) (vs := [.str x t, .str y u]) (binds := fun D => [("elements", .ref D)]) O C ?ho ?hcd ?hp ?hg ?hl ?_ ?hc ?hco ?hgen ?hk
  case ho => k_is
  case hcd => k_is
  case hp => exact rfl
  case hg => intro D; exact rfl
  case hl => intro D; exact locs rfl
  case hc => decide
  case hco => rfl
  case hgen => rfl
  case hk => rfl
  intro D L h₁ tk hDL F N O1 C1
  have hh := C1.hh
  boot_fact
  refine wpAny_Try_except ?_
  repeat boot_fact
  refine set_tuple_N hh F N (.head _) (.cons x t (.cons y u .nil)) (by simp) fun h2 tk2 o F2 N2 S2 => ?_
  repeat boot_fact
  refine len_sl1 (own := []) N2 S2 (by have := met_len [x, y] 2; simp; omega) ?_
  repeat boot_fact
  refine ⟨?_, _, _, rfl, F2.keep⟩
  show Value.bool (((met [x, y] 2).length : Int) == 1) = _
  rw [met_two]
  by_cases e : x = y <;> simp [e]
end

-- part Cyc
section
open PySem PySem.W PySem.Calls PyProof.Rows PySem.Spec
theorem cyc_pure {prog : Program} {w : World} {A : Around} {s : Shared} {x y : Str} {t u : Tok} {me : Addr} {es : List DictEntry} {n : Nat} (O : Ok w s.heap) (C : Calm A 2) (hx : x.length ≤ 1000) (hy : y.length ≤ 1000) (S : SelfAt s.heap me 266 es n) :
    Gives prog w A (.ref 256) [.ref me, .str x t, .str y u] (fun v _ => ∃ t', v = .int (lev x.cps.toList y.cps.toList x.length y.length : Nat) t') s := by
  refine Gives.mk ?_
  refine' enter (binds := [("self", .ref me), ("s1", .str x t), ("s2", .str y u)]) (n := 1) O C ?ho ?hcd ?hb ?hl ?_ ?hc ?hco ?hg ?hk
  case ho => k_is
  case hcd => k_is
  case hb => exact BindsTo.of_eq rfl
  case hl => exact locs rfl
  case hc => decide +kernel
  case hco => rfl
  case hg => rfl
  case hk => rfl
  intro L h₁ tk F N O1 C1
  have hh := C1.hh
  repeat boot_fact
  rename Fr _ _ _ _ => F1
  rename News _ _ _ _ => N1
  refine mk_range F1 N1 fun h2 F2 N2 => ?_
  repeat boot_fact
  refine' list_range_ints (n := y.length + 1) hh F2 N2 (.head _) ?e1 (by omega) ?_
  case e1 => omega
  intro h2 tk2 vs c F2 N2 hv
  repeat boot_fact
  rename Fr _ _ _ _ => F3
  rename News _ _ _ _ => N3
  dsimp only at F3 N3
  refine' For_invV s.heap ?a ?b ?_ ?c ?d
  case a => rfl
  case b => rfl
  case c => intro _; rfl
  case d => passes_own
  repeat boot_fact
  refine' range1_it (n := x.length) hh F3 N3 ?e1 (by omega) ?_
  case e1 => omega
  intro I St h4 tk4 F4 N4 S4 hI
  refine loop_src (fun i m news => ∃ (a : Addr) (vs : Array Value) (c : Nat), (a, listOf vs c) ∈ news ∧ IntsAre vs.toList ((List.range (y.length + 1)).map fun q => (lev x.cps.toList y.cps.toList i q : Int)) ∧ m "cur" = some (.ref a) ∧ m "s1" = some (.str x t) ∧ m "s2" = some (.str y u) ∧ m "self" = some (.ref me) ∧ ∃ tc, m "cols" = some (.int ((y.length : Int) + 1) tc)) F4 N4 S4 hI ⟨_, vs, c, .head _, ?_, rfl, rfl, rfl, rfl, ?_⟩ ?turn ?done
  · simpa only [lev_zero_left] using hv
  · exact ⟨_, rfl⟩
  case turn =>
    clear F4 N4 S4 F3 N3 F2 N2 F1 N1
    rintro i v m₁ news₁ h5 tk5 own hi ⟨tv, rfl⟩ ⟨a, vs, c, hmem, hv, e1, e2, e3, e4, tc, e5⟩ hoff ⟨oI, hoI⟩ hfp F N
    replace F : Fr s.heap L h5 _ := F
    replace N : News s.heap L h5 _ := N
    dsimp only
    boot_fact
    refine Assign_Tuple_swapped (names := ["prev", "cur"]) ?_ (by rfl) (by rfl)
    repeat boot_fact
    rename Fr _ _ _ _ => F1
    rename News _ _ _ _ => N1
    refine' mul_zero (n := y.length) F1 N1 (.head _) ?e1 (by omega) ?_
    case e1 => omega
    intro h6 zs F2 N2 hzs
    refine add_lists F2 N2 (N2.isList (.tail _ (.tail _ (.head _)))) (N2.isList (.head _)) (fun h7 F7 N7 => ?_) ?e2
    case e2 => have := hzs.length; simp at this; rw [sizeLine_eq]; simp; omega
    dsimp only at N2 F2 F7 N7 ⊢
    have hcI := fresh_ne N2 (Nat.le_refl _)
    obtain ⟨cA, hcA⟩ : ∃ cA : Addr, cA = h6.objs.size := ⟨_, rfl⟩
    rw [← hcA] at hcI N7 ⊢
    replace N7 : News s.heap L h7 ((cA, listOf (.int (1 + (i : Int)) tv :: zs.toList).toArray 0) :: (a, listOf vs c) :: own) := fun q hq => by
      rcases List.mem_cons.mp hq with rfl | hq
      · exact N7 _ (.head _)
      · rcases List.mem_cons.mp hq with rfl | hq
        · exact N7 _ (.tail _ (.tail _ (.tail _ (.tail _ (List.mem_append_right _ hmem)))))
        · exact N7 _ (.tail _ (.tail _ (.tail _ (.tail _ (List.mem_append_left _ hq)))))
    have haI : ∀ q ∈ (a, listOf vs c) :: own, q.1 ≠ cA := fun q hq => by
      rcases List.mem_cons.mp hq with rfl | hq
      · exact hcI _ (.tail _ (.tail _ (.tail _ (List.mem_append_right _ hmem))))
      · exact hcI _ (.tail _ (.tail _ (.tail _ (List.mem_append_left _ hq))))
    have hrow : IntsAre (.int (1 + (i : Int)) tv :: zs.toList) ((List.range (y.length + 1)).map fun q => if q ≤ 0 then (lev x.cps.toList y.cps.toList (i + 1) q : Int) else 0) := by
      rw [List.range_succ_eq_map, List.map_cons, List.map_map]
      have e : ((if (0 : Nat) ≤ 0 then (lev x.cps.toList y.cps.toList (i + 1) 0 : Int) else 0)) = 1 + (i : Int) := by rw [if_pos (Nat.le_refl _), lev_zero_right]; omega
      rw [e]
      refine .cons _ tv ?_
      have e2 : (List.range y.length).map ((fun (q : Nat) => if q ≤ 0 then (lev x.cps.toList y.cps.toList (i + 1) q : Int) else 0) ∘ Nat.succ) = List.replicate y.length 0 := by
        apply List.ext_getElem?
        intro q
        by_cases hq : q < y.length
        · simp [hq]
        · rw [List.getElem?_eq_none (by simp; omega), List.getElem?_eq_none (by simp; omega)]
      rw [e2]
      exact hzs
    clear N2 F2 N1 F1 N F hcA
    repeat boot_fact
    rename Fr _ _ _ _ => F8
    rename News _ _ _ _ => N8
    replace N8 := PyProof.Rows.News.tail' N8
    refine' For_invV s.heap ?a2 ?b2 ?_ ?c2 ?d2
    case a2 => rfl
    case b2 => rfl
    case c2 => intro _; rfl
    case d2 => passes_own
    repeat boot_fact
    refine' range1_it (n := y.length) hh F8 N8 ?e3 (by omega) ?_
    case e3 => omega
    intro I2 St2 h9 tk9 F9 N9 S9 hI9
    refine loop_src (fun j m news => ∃ vs2 : Array Value, news = (cA, listOf vs2 0) :: (a, listOf vs c) :: own ∧ IntsAre vs2.toList ((List.range (y.length + 1)).map fun q => if q ≤ j then (lev x.cps.toList y.cps.toList (i + 1) q : Int) else 0) ∧ m "cur" = some (.ref cA) ∧ m "prev" = some (.ref a) ∧ m "s1" = some (.str x t) ∧ m "s2" = some (.str y u) ∧ m "self" = some (.ref me) ∧ m "r" = some (.int (1 + (i : Int)) tv) ∧ m "cols" = some (.int ((y.length : Int) + 1) tc)) F9 N9 S9 hI9 ⟨_, rfl, hrow, rfl, rfl, e2, e3, e4, rfl, e5⟩ ?turn2 ?done2
    case turn2 =>
      clear F9 N9 S9 F8 N8 F7 N7 e1 e2 e3 e4 e5 hrow
      rintro j v m₂ news₂ h6 tk6 own2 hj ⟨tw, rfl⟩ ⟨vs2, rfl, hrow, e1, e2, e3, e4, e5, e6, e7⟩ hoff2 ⟨oI2, hoI2⟩ hfp2 F N
      replace F : Fr s.heap L h6 _ := F
      replace N : News s.heap L h6 _ := N
      dsimp only
      have hma : (a, listOf vs c) ∈ own2 ++ (cA, listOf vs2 0) :: (a, listOf vs c) :: own := List.mem_append_right _ (.tail _ (.head _))
      have hmc : (cA, listOf vs2 0) ∈ own2 ++ (cA, listOf vs2 0) :: (a, listOf vs c) :: own := List.mem_append_right _ (.head _)
      repeat boot_fact
      refine' read_int N hma hv (k := j + 1) ?r1 (by omega) (by omega) ?_
      case r1 => omega
      intro t3
      repeat boot_fact
      rename Fr _ _ _ _ => F1
      rename News _ _ _ _ => N1
      refine' read_int N1 hmc hrow (k := j) ?r2 (by omega) (by omega) ?_
      case r2 => omega
      intro t4
      rw [if_pos (Nat.le_refl j)]
      repeat boot_fact
      refine' read_str (k := i) ?r3 (by omega) (by omega) ?_
      case r3 => omega
      repeat boot_fact
      refine' read_str (k := j) ?r4 (by omega) (by omega) ?_
      case r4 => omega
      repeat boot_fact
      rename Fr _ _ _ _ => F2
      rename News _ _ _ _ => N2
      refine' Gives.use ?g ?gF ?gN ?_
      case gF => exact F2
      case gN => exact N2
      case g => exact ident2 (O.keeps F2.keep) (C1.le (by omega))
      intro v h7 tk7 hv7 F7 N7
      subst hv7
      clear F2 N2 F1 N1 F N
      have hma : (a, listOf vs c) ∈ own2 ++ (cA, listOf vs2 0) :: (a, listOf vs c) :: own := List.mem_append_right _ (.tail _ (.head _))
      have hmc : (cA, listOf vs2 0) ∈ own2 ++ (cA, listOf vs2 0) :: (a, listOf vs c) :: own := List.mem_append_right _ (.head _)
      repeat boot_fact
      rename Fr _ _ _ _ => F2
      rename News _ _ _ _ => N2
      refine' read_int N2 hma hv (k := j) ?r5 (by omega) (by omega) ?_
      case r5 => omega
      intro t6
      repeat boot_fact
      rename Fr _ _ _ _ => F2
      rename News _ _ _ _ => N2
      refine' min3_N hh ?g2 ?g3 ?_
      case g2 => exact F2
      case g3 => exact N2
      intro h8 tk8 t8 F8 N8
      repeat boot_fact
      rename Fr _ _ _ _ => F2
      rename News _ _ _ _ => N2
      have hlen2 := hrow.length
      rw [List.length_map, List.length_range] at hlen2
      refine' set_cell1 (pre := own2) (post := (a, listOf vs c) :: own) (q := j + 1) ?s1 ?s2 ?s3 haI ?s4 ?s5 (by omega) ?_
      case s1 => exact F2
      case s2 => exact N2
      case s3 => exact fun p hp e => hoff2 (cA, listOf vs2 0) (.head _) (by have := List.mem_singleton.mp (hfp2 p hp); rw [← this, ← e])
      case s4 => omega
      case s5 => omega
      intro h10 F10 N10
      repeat boot_fact
      refine LoopStepU.intro F10 N10 ?_ ⟨_, rfl, ?_, e1, e2, e3, e4, e5, e6, e7⟩
      · intro p hp hm
        rcases List.mem_cons.mp hp with rfl | hp
        · exact hoff2 (cA, listOf vs2 0) (.head _) (List.mem_singleton.mp hm)
        · exact hoff2 p (.tail _ hp) (List.mem_singleton.mp hm)
      · have h := ints_set (q := j + 1) (z := (lev x.cps.toList y.cps.toList (i + 1) (j + 1) : Int)) (t := t8) hrow
        rw [range_map_set, row_step (f := fun q => (lev x.cps.toList y.cps.toList (i + 1) q : Int)) rfl] at h
        rw [lev_cell (by omega) (by omega)]
        exact h
    case done2 =>
      rintro m₂ news₂ h6 tk6 ⟨vs2, rfl, hrow, e1, e2, e3, e4, e5, e6, e7⟩ F N
      replace F : Fr s.heap L h6 _ := F
      replace N : News s.heap L h6 _ := N
      dsimp only
      repeat boot_fact
      refine LoopStepU.intro (news₂ := [(cA, listOf vs2 0)]) F (fun q hq => ?_) ?_ ⟨cA, vs2, 0, .head _, ?_, e1, e3, e4, e5, tc, e7⟩
      · rcases List.mem_append.mp hq with hq | hq
        · exact N q (.tail _ (.tail _ hq))
        · rw [List.mem_singleton.mp hq]; exact N _ (.head _)
      · intro p hp hm
        rw [List.mem_singleton.mp hp] at hm
        exact haI (I, oI) (.tail _ hoI) (List.mem_singleton.mp hm).symm
      · rw [row_full (f := fun q => (lev x.cps.toList y.cps.toList (i + 1) q : Int))] at hrow
        exact hrow
  case done =>
    rintro m₂ news₂ h6 tk6 ⟨a, vs, c, hmem, hv, e1, e2, e3, e4, tc, e5⟩ F N
    replace F : Fr s.heap L h6 _ := F
    replace N : News s.heap L h6 _ := N
    dsimp only
    repeat boot_fact
    refine' item_list_ints_negR ?i1 hv (by omega) ?i2 (by omega) ?_
    case i1 => exact News.isList N hmem
    case i2 => simp; omega
    intro t9
    repeat boot_fact
    refine ⟨⟨t9, ?_⟩, _, _, rfl, F.keep⟩
    dsimp only
    congr 1
    simp only [List.length_map, List.length_range]
    have e : (-1 + ((y.length + 1 : Nat) : Int)).toNat = y.length := by omega
    rw [e]
    simp
end

-- part Quick
section
open PySem PySem.W PySem.Calls PyProof.Rows PySem.Spec
theorem maximum2 {prog : Program} {w : World} {A : Around} {s : Shared} {x y : Str} {t u : Tok} (O : Ok w s.heap) (C : Calm A 1) (hx : x.length ≤ 1000) (hy : y.length ≤ 1000) :
    Gives prog w A (.ref 55) [.str x t, .str y u] (fun v _ => ∃ t', v = .int ((max x.length y.length : Nat) : Int) t') s := by
  refine Gives.mk ?_
  refine' enterV (n := 0) (vs := [.str x t, .str y u]) (binds := fun D => [("sequences", .ref D)]) O C ?ho ?hcd ?hp ?hg ?hl ?_ ?hc ?hco ?hgen ?hk
  case ho => k_is
  case hcd => k_is
  case hp => exact rfl
  case hg => intro D; exact rfl
  case hl => intro D; exact locs rfl
  case hc => decide
  case hco => rfl
  case hgen => rfl
  case hk => rfl
  intro D L h₁ tk hDL F N O1 C1
  have hh := C1.hh
  repeat boot_fact
  refine mk_map F N (.head _) fun I T it h2 F2 N2 i1 i2 i3 => ?_
  repeat boot_fact
  refine max_map hh F2 N2 i1 i2 i3 (.head _) (by omega) (by omega) fun h3 tk3 t3 F3 N3 => ?_
  repeat boot_fact
  exact ⟨⟨t3, rfl⟩, _, _, rfl, F3.keep⟩
theorem getseq2 {prog : Program} {w : World} {A : Around} {s : Shared} {x y : Str} {t u : Tok} {me C₀ : Addr} {es : List DictEntry} {n : Nat} (O : Ok w s.heap) (C : Calm A 1) (S : SelfAt s.heap me C₀ es n) (hC : C₀ = 225 ∨ C₀ = 266) :
    Gives prog w A (.ref 108) [.ref me, .str x t, .str y u] (RetList s.heap [.str x t, .str y u]) s := by
  refine Gives.mk ?_
  refine' enterVC (n := 0) (vs := [.str x t, .str y u]) (binds := fun D => [("self", .ref me), ("sequences", .ref D)]) O C ?ho ?hcd ?hp ?hg ?hl ?hnd ?_ ?hco ?hgen ?hk
  case ho => k_is
  case hcd => k_is
  case hp => exact rfl
  case hg => intro D; exact rfl
  case hl => intro D; exact rfl
  case hnd => decide +kernel
  case hco => rfl
  case hgen => rfl
  case hk => rfl
  intro D L h₁ tk cells F N Y O1 C1
  have hh := C1.hh
  obtain ⟨oc, rfl, hoc⟩ := CellsAre.one Y
  replace hoc : oc.data = .cell (some (.ref me)) := hoc
  replace F : Fr s.heap L h₁ _ := F
  dsimp only [List.cons_append, List.nil_append] at N
  obtain ⟨tq, hq⟩ := S.q
  rcases hC with rfl | rfl
  all_goals
    repeat boot_fact
    refine call_list_seq D (.inr rfl) (N _ (.tail _ (.head _))).1 rfl rfl (fun h' c' hk hg => ?_) (by rw [sizeLine_eq]; simp)
    repeat boot_fact
    exact ⟨⟨_, c', rfl, Heap.get?_none_of_le (Nat.le_trans F.above (Nat.le_of_lt (nslt F.ns))), hg⟩, _, _, rfl, fun b o e => hk b o (F.keep b o e)⟩
theorem quick2 {prog : Program} {w : World} {A : Around} {s : Shared} {x y : Str} {t u : Tok} {me : Addr} {es : List DictEntry} {n : Nat} (O : Ok w s.heap) (C : Calm A 2) (S : SelfAt s.heap me 266 es n) (hx : x.length ≤ 1000) (hy : y.length ≤ 1000) :
    Gives prog w A (.ref 93) [.ref me, .str x t, .str y u] (fun v _ => if x = y then ∃ t', v = .int 0 t' else if x.length = 0 ∨ y.length = 0 then ∃ t', v = .int ((max x.length y.length : Nat) : Int) t' else v = .none) s := by
  refine Gives.mk ?_
  refine' enterV (n := 1) (vs := [.str x t, .str y u]) (binds := fun D => [("self", .ref me), ("sequences", .ref D)]) O C ?ho ?hcd ?hp ?hg ?hl ?_ ?hc ?hco ?hgen ?hk
  case ho => k_is
  case hcd => k_is
  case hp => exact rfl
  case hg => intro D; exact rfl
  case hl => intro D; exact locs rfl
  case hc => decide
  case hco => rfl
  case hgen => rfl
  case hk => rfl
  intro D L h₁ tk hDL F N O1 C1
  have hh := C1.hh
  repeat boot_fact
  rename Fr _ _ _ _ => F2
  rename News _ _ _ _ => N2
  refine' Gives.use ?g ?gF ?gN ?_
  case gF => exact F2
  case gN => exact N2
  case g => exact ident2 (O.keeps F2.keep) (C1.le (by omega))
  intro v h3 tk3 hv F3 N3
  subst hv
  try dsimp only at F3 N3
  clear F2 N2
  repeat boot_fact
  refine PyProof.Rows.split_bool (fun c1 => ?_) (fun c1 => ?_)
  · have c1 := of_decide_eq_true c1
    repeat boot_fact
    dsimp only
    rw [if_pos c1]
    exact ⟨⟨_, rfl⟩, _, _, rfl, F3.keep⟩
  · have c1 := of_decide_eq_false c1
    repeat boot_fact
    refine all_two hh F3 N3 (.head _) (by omega) (by omega) fun h4 tk4 F4 N4 => ?_
    repeat boot_fact
    refine PyProof.Rows.split_bool (fun c2 => ?_) (fun c2 => ?_)
    · have c2 : x.length = 0 ∨ y.length = 0 := by
        simp at c2
        omega
      repeat boot_fact
      rename Fr _ _ _ _ => F5
      rename News _ _ _ _ => N5
      refine' Gives.use ?g2 ?gF2 ?gN2 ?_
      case gF2 => exact F5
      case gN2 => exact N5
      case g2 => exact maximum2 (O.keeps F5.keep) (C1.le (by omega)) hx hy
      intro v h6 tk6 hv F6 N6
      repeat boot_fact
      dsimp only
      rw [if_neg c1, if_pos c2]
      exact ⟨hv, _, _, rfl, F6.keep⟩
    · have c2 : ¬ (x.length = 0 ∨ y.length = 0) := by
        simp at c2
        omega
      repeat boot_fact
      dsimp only
      rw [if_neg c1, if_neg c2]
      exact ⟨rfl, _, _, rfl, F4.keep⟩
end

-- part Levc
section
open PySem PySem.W PySem.Calls PyProof.Rows PySem.Spec
def LevD (x y : Str) (d : Nat) : Prop := if x = y then d = 0 else if x.length = 0 ∨ y.length = 0 then d = max x.length y.length else d = lev x.cps.toList y.cps.toList x.length y.length
theorem lev_call {prog : Program} {w : World} {A : Around} {s : Shared} {x y : Str} {t u : Tok} {me : Addr} {es : List DictEntry} {n : Nat} (O : Ok w s.heap) (C : Calm A 4) (hx : x.length ≤ 1000) (hy : y.length ≤ 1000) (S : SelfAt s.heap me 266 es n) :
    Gives prog w A (.ref 263) [.ref me, .str x t, .str y u] (fun v _ => ∃ (d : Nat) (t' : Tok), v = .int (d : Int) t' ∧ LevD x y d) s := by
  refine Gives.mk ?_
  refine' enter (binds := [("self", .ref me), ("s1", .str x t), ("s2", .str y u)]) (n := 3) O C ?ho ?hcd ?hb ?hl ?_ ?hc ?hco ?hg ?hk
  case ho => k_is
  case hcd => k_is
  case hb => exact BindsTo.of_eq rfl
  case hl => exact locs rfl
  case hc => decide +kernel
  case hco => rfl
  case hg => rfl
  case hk => rfl
  intro L h₁ tk F N O1 C1
  have hh := C1.hh
  boot_fact
  refine Assign_Tuple ?_ (by rfl) (by rfl)
  repeat boot_fact
  refine' Gives.use ?g ?gF ?gN ?_
  case gF => exact F
  case gN => exact N
  case g => exact getseq2 (O.keeps F.keep) (C1.le (by omega)) (S.keeps F.keep) (.inr rfl)
  intro v h2 tk2 hR F2 N2
  obtain ⟨a, k, rfl, N3⟩ := newsOfRet F hR
  refine' kun_list ?u1 ?u2 ?u3 hh ?u4 ?u5 ?_
  case u1 => exact F2
  case u2 => exact N3
  case u3 => exact N3.isList (.head _)
  case u4 => rfl
  case u5 => rfl
  intro h3 F3 N3
  dsimp only [assignEach, List.map]
  repeat boot_fact
  rename Fr _ _ _ _ => F4
  rename News _ _ _ _ => N4
  refine' Gives.use ?g2 ?gF2 ?gN2 ?_
  case gF2 => exact F4
  case gN2 => exact N4
  case g2 => exact quick2 (O.keeps F4.keep) (C1.le (by omega)) (S.keeps F4.keep) hx hy
  intro v h5 tk5 hv F5 N5
  clear F4 N4 F3 N3 F2 N2
  have key : (v = .none ∧ ¬ x = y ∧ ¬ (x.length = 0 ∨ y.length = 0)) ∨ ∃ (d : Nat) (t' : Tok), v = .int (d : Int) t' ∧ LevD x y d := by
    by_cases c1 : x = y
    · rw [if_pos c1] at hv
      obtain ⟨t', rfl⟩ := hv
      exact .inr ⟨0, t', rfl, by unfold LevD; rw [if_pos c1]⟩
    · rw [if_neg c1] at hv
      by_cases c2 : x.length = 0 ∨ y.length = 0
      · rw [if_pos c2] at hv
        obtain ⟨t', rfl⟩ := hv
        exact .inr ⟨_, t', rfl, by unfold LevD; rw [if_neg c1, if_pos c2]⟩
      · rw [if_neg c2] at hv
        exact .inl ⟨hv, c1, c2⟩
  clear hv
  rcases key with ⟨rfl, c1, c2⟩ | ⟨d, t', rfl, hd⟩
  · repeat boot_fact
    rename Fr _ _ _ _ => F6
    rename News _ _ _ _ => N6
    refine' Gives.use ?g3 ?gF3 ?gN3 ?_
    case gF3 => exact F6
    case gN3 => exact N6
    case g3 => exact cyc_pure (O.keeps F6.keep) (C1.le (by omega)) hx hy (S.keeps F6.keep)
    intro v h7 tk7 hv F7 N7
    repeat boot_fact
    obtain ⟨t', rfl⟩ := hv
    exact ⟨⟨_, t', rfl, by unfold LevD; rw [if_neg c1, if_neg c2]⟩, _, _, rfl, F7.keep⟩
  · repeat boot_fact
    rename Fr _ _ _ _ => F6
    refine wpAny_Assert_holds ?_
    repeat boot_fact
    refine PySem.IsiPair.int_int ?_
    repeat boot_fact
    refine ⟨rfl, ?_⟩
    repeat boot_fact
    exact ⟨⟨d, t', rfl, hd⟩, _, _, rfl, F6.keep⟩
theorem lev_dist {prog : Program} {w : World} {A : Around} {s : Shared} {x y : Str} {t u : Tok} {me : Addr} {es : List DictEntry} {n : Nat} (O : Ok w s.heap) (C : Calm A 5) (hx : x.length ≤ 1000) (hy : y.length ≤ 1000) (S : SelfAt s.heap me 266 es n) :
    Gives prog w A (.ref 65) [.ref me, .str x t, .str y u] (fun v _ => ∃ (d : Nat) (t' : Tok), v = .int (d : Int) t' ∧ LevD x y d) s := by
  refine Gives.mk ?_
  refine' enterV (n := 4) (vs := [.str x t, .str y u]) (binds := fun D => [("self", .ref me), ("sequences", .ref D)]) O C ?ho ?hcd ?hp ?hg ?hl ?_ ?hc ?hco ?hgen ?hk
  case ho => k_is
  case hcd => k_is
  case hp => exact rfl
  case hg => intro D; exact rfl
  case hl => intro D; exact locs rfl
  case hc => decide
  case hco => rfl
  case hgen => rfl
  case hk => rfl
  intro D L h₁ tk hDL F N O1 C1
  have hh := C1.hh
  repeat boot_fact
  refine s_star (x := me) (C := 266) (es := es) (n := n) ?_ (by with_unfolding_all rfl)
  repeat boot_fact
  rename Fr _ _ _ _ => F2
  rename News _ _ _ _ => N2
  refine ⟨S.keeps F2.keep, ?_⟩
  dsimp only [List.nil_append]
  refine' Gives.use ?g ?gF ?gN ?_
  case gF => exact F2
  case gN => exact N2
  case g => exact Gives.self (O.keeps F2.keep) (S.keeps F2.keep) (lev_call (O.keeps F2.keep) (C1.le (by omega)) hx hy (S.keeps F2.keep)) (by k_is) (by k_is) (by k_is)
  intro v h3 tk3 hv F3 N3
  repeat boot_fact
  exact ⟨hv, _, _, rfl, F3.keep⟩
end

-- part Lcsc
section
open PySem PySem.W PySem.Calls PyProof.Rows PySem.Spec
/-- the longest common row of letters that the code tells -/
def told (x y : Str) : Str := ⟨(tr x.cps.toList y.cps.toList x.length y.length []).toArray⟩
theorem lcs_call {prog : Program} {w : World} {A : Around} {s : Shared} {x y : Str} {t u : Tok} {me : Addr} {es : List DictEntry} {n : Nat} (O : Ok w s.heap) (C : Calm A 3) (hx : x.length ≤ 1000) (hy : y.length ≤ 1000) (S : SelfAt s.heap me 225 es n) :
    Gives prog w A (.ref 215) [.ref me, .str x t, .str y u] (fun v _ => ∃ t', v = .str (told x y) t') s := by
  refine Gives.mk ?_
  refine' enterV (n := 2) (vs := [.str x t, .str y u]) (binds := fun D => [("self", .ref me), ("sequences", .ref D)]) O C ?ho ?hcd ?hp ?hg ?hl ?_ ?hc ?hco ?hgen ?hk
  case ho => k_is
  case hcd => k_is
  case hp => exact rfl
  case hg => intro D; exact rfl
  case hl => intro D; exact locs rfl
  case hc => decide
  case hco => rfl
  case hgen => rfl
  case hk => rfl
  intro D L h₁ tk hDL F N O1 C1
  have hh := C1.hh
  repeat boot_fact
  refine callWith_SM (w := w) (g := 108) (self := .ref me) (by k_is) ?_ (by with_unfolding_all rfl)
  repeat boot_fact
  rename Fr _ _ _ _ => F2
  rename News _ _ _ _ => N2
  refine ⟨⟨(N2 _ (.head _)).1, (O.keeps F2.keep).k⟩, ?_⟩
  refine' Gives.useM ?gq ?g ?gF ?gN ?_
  case gF => exact F2
  case gN => exact N2
  case gq => exact .head _
  case g => exact getseq2 (O.keeps F2.keep) (C1.le (by omega)) (S.keeps F2.keep) (.inl rfl)
  intro v h3 tk3 hR F3 N3
  obtain ⟨a, k, rfl, N4⟩ := newsOfRet F2 hR
  clear N3 N2
  repeat boot_fact
  rename Fr _ _ _ _ => F5
  rename News _ _ _ _ => N5
  refine PyProof.Rows.len_list (N5.isList (.head _)) (by simp) ?_
  clear F2
  repeat boot_fact
  refine callWith_SM (w := w) (g := 203) (self := .ref me) (by k_is) ?_ (by with_unfolding_all rfl)
  repeat boot_fact
  rename Fr _ _ _ _ => F2
  rename News _ _ _ _ => N2
  refine ⟨⟨(N2 _ (.head _)).1, (O.keeps F2.keep).k⟩, ?_⟩
  refine' Gives.useM ?gq3 ?g3 ?gF3 ?gN3 ?_
  case gF3 => exact F2
  case gN3 => exact N2
  case gq3 => exact .head _
  case g3 => exact dyn_pure (O.keeps F2.keep) (C1.le (by omega)) hx hy
  intro v h6 tk6 hv F6 N6
  repeat boot_fact
  exact ⟨hv, _, _, rfl, F6.keep⟩
theorem lcs_sim {prog : Program} {w : World} {A : Around} {s : Shared} {x y : Str} {t u : Tok} {me : Addr} {es : List DictEntry} {n : Nat} (O : Ok w s.heap) (C : Calm A 4) (hx : x.length ≤ 1000) (hy : y.length ≤ 1000) (S : SelfAt s.heap me 225 es n) (ht : (told x y).length ≤ 1000) :
    Gives prog w A (.ref 222) [.ref me, .str x t, .str y u] (fun v _ => ∃ t', v = .int ((told x y).length : Int) t') s := by
  refine Gives.mk ?_
  refine' enterV (n := 3) (vs := [.str x t, .str y u]) (binds := fun D => [("self", .ref me), ("sequences", .ref D)]) O C ?ho ?hcd ?hp ?hg ?hl ?_ ?hc ?hco ?hgen ?hk
  case ho => k_is
  case hcd => k_is
  case hp => exact rfl
  case hg => intro D; exact rfl
  case hl => intro D; exact locs rfl
  case hc => decide
  case hco => rfl
  case hgen => rfl
  case hk => rfl
  intro D L h₁ tk hDL F N O1 C1
  have hh := C1.hh
  repeat boot_fact
  refine s_star (x := me) (C := 225) (es := es) (n := n) ?_ (by with_unfolding_all rfl)
  repeat boot_fact
  rename Fr _ _ _ _ => F2
  rename News _ _ _ _ => N2
  refine ⟨S.keeps F2.keep, ?_⟩
  dsimp only [List.nil_append]
  refine' Gives.use ?g ?gF ?gN ?_
  case gF => exact F2
  case gN => exact N2
  case g => exact Gives.self (O.keeps F2.keep) (S.keeps F2.keep) (lcs_call (O.keeps F2.keep) (C1.le (by omega)) hx hy (S.keeps F2.keep)) (by k_is) (by k_is) (by k_is)
  rintro v h3 tk3 ⟨t', rfl⟩ F3 N3
  repeat boot_fact
  exact ⟨⟨_, rfl⟩, _, _, rfl, F3.keep⟩
theorem lcs_dist {prog : Program} {w : World} {A : Around} {s : Shared} {x y : Str} {t u : Tok} {me : Addr} {es : List DictEntry} {n : Nat} (O : Ok w s.heap) (C : Calm A 5) (hx : x.length ≤ 1000) (hy : y.length ≤ 1000) (S : SelfAt s.heap me 225 es n) (ht : (told x y).length ≤ 1000) :
    Gives prog w A (.ref 164) [.ref me, .str x t, .str y u] (fun v _ => ∃ t', v = .int (((max x.length y.length : Nat) : Int) - ((told x y).length : Int)) t') s := by
  refine Gives.mk ?_
  refine' enterV (n := 4) (vs := [.str x t, .str y u]) (binds := fun D => [("self", .ref me), ("sequences", .ref D)]) O C ?ho ?hcd ?hp ?hg ?hl ?_ ?hc ?hco ?hgen ?hk
  case ho => k_is
  case hcd => k_is
  case hp => exact rfl
  case hg => intro D; exact rfl
  case hl => intro D; exact locs rfl
  case hc => decide
  case hco => rfl
  case hgen => rfl
  case hk => rfl
  intro D L h₁ tk hDL F N O1 C1
  have hh := C1.hh
  repeat boot_fact
  rename Fr _ _ _ _ => F2
  rename News _ _ _ _ => N2
  refine' Gives.use ?g ?gF ?gN ?_
  case gF => exact F2
  case gN => exact N2
  case g => exact maximum2 (O.keeps F2.keep) (C1.le (by omega)) hx hy
  rintro v h3 tk3 ⟨t', rfl⟩ F3 N3
  clear F2 N2
  repeat boot_fact
  refine callWith_SM (w := w) (g := 222) (self := .ref me) (by k_is) ?_ (by with_unfolding_all rfl)
  repeat boot_fact
  rename Fr _ _ _ _ => F2
  rename News _ _ _ _ => N2
  refine ⟨⟨(N2 _ (.head _)).1, (O.keeps F2.keep).k⟩, ?_⟩
  refine' Gives.useM ?gq2 ?g2 ?gF2 ?gN2 ?_
  case gF2 => exact F2
  case gN2 => exact N2
  case gq2 => exact .head _
  case g2 => exact lcs_sim (O.keeps F2.keep) (C1.le (by omega)) hx hy (S.keeps F2.keep) ht
  rintro v h4 tk4 ⟨t2, rfl⟩ F4 N4
  repeat boot_fact
  exact ⟨⟨_, rfl⟩, _, _, rfl, F4.keep⟩
end

-- part Pure
section
theorem take_last {a : List Nat} {i : Nat} {x : Nat} (h : a[i]? = some x) : a.take (i + 1) = a.take i ++ [x] := by
  rw [List.take_add_one, h]; rfl
theorem sub_last {p l : List Nat} {x : Nat} (h : p.Sublist (l ++ [x])) : p.Sublist l ∨ ∃ q, p = q ++ [x] ∧ q.Sublist l := by
  obtain ⟨p1, p2, rfl, h1, h2⟩ := List.sublist_append_iff.mp h
  cases h2 with
  | cons _ h3 =>
    have := List.sublist_nil.mp h3
    subst this
    exact .inl (by simpa using h1)
  | cons_cons _ h3 =>
    have := List.sublist_nil.mp h3
    subst this
    exact .inr ⟨p1, rfl, h1⟩
theorem some_of_lt {a : List Nat} {i : Nat} (h : i < a.length) : ∃ x, a[i]? = some x := ⟨a[i], List.getElem?_eq_getElem h⟩
/-- no common row is longer -/
theorem lc_ge (a b : List Nat) (i j : Nat) (hi : i ≤ a.length) (hj : j ≤ b.length) : ∀ p : List Nat, p.Sublist (a.take i) → p.Sublist (b.take j) → p.length ≤ lc a b i j := by
  induction i generalizing j with
  | zero =>
    intro p h1 _
    have := List.sublist_nil.mp (by simpa using h1)
    subst this
    exact Nat.zero_le _
  | succ i ih =>
    induction j with
    | zero =>
      intro p _ h2
      have := List.sublist_nil.mp (by simpa using h2)
      subst this
      exact Nat.zero_le _
    | succ j ihj =>
      intro p h1 h2
      obtain ⟨x, hx⟩ := some_of_lt (a := a) (i := i) (by omega)
      obtain ⟨y, hy⟩ := some_of_lt (a := b) (i := j) (by omega)
      have h1' := h1
      have h2' := h2
      rw [take_last hx] at h1
      rw [take_last hy] at h2
      rw [lc_succ, hx, hy]
      by_cases e : x = y
      · subst e
        rw [if_pos rfl]
        rcases sub_last h1 with g1 | ⟨q, eq, g1⟩
        · rcases sub_last h2 with g2 | ⟨q, eq, g2⟩
          · exact Nat.le_succ_of_le (ih j (by omega) (by omega) p g1 g2)
          · subst eq
            have := ih j (by omega) (by omega) q ((List.sublist_append_left q [x]).trans g1) g2
            simp; omega
        · subst eq
          have h2q : q.Sublist (b.take j) := by
            rcases sub_last h2 with g2 | ⟨q', e', g2⟩
            · exact (List.sublist_append_left q [x]).trans g2
            · have := List.append_inj_left' e' rfl
              rw [this]; exact g2
          have := ih j (by omega) (by omega) q g1 h2q
          simp; omega
      · rw [if_neg (by simpa using e)]
        rcases sub_last h1 with g1 | ⟨q, eq, g1⟩
        · have := ih (j + 1) (by omega) hj p g1 h2'
          omega
        · subst eq
          rcases sub_last h2 with g2 | ⟨q', e', _⟩
          · have := ihj (by omega) _ h1' g2
            omega
          · have := List.append_inj_right' e' rfl
            exact absurd (by simpa using this) e
/-- what is walked back is one, and as long as the table says -/
theorem tr_spec (a b : List Nat) (i j : Nat) (hi : i ≤ a.length) (hj : j ≤ b.length) : ∀ acc, ∃ t, tr a b i j acc = t ++ acc ∧ t.Sublist (a.take i) ∧ t.Sublist (b.take j) ∧ t.length = lc a b i j := by
  induction i generalizing j with
  | zero => intro acc; exact ⟨[], by rw [tr_zero_left]; rfl, List.nil_sublist _, List.nil_sublist _, by rw [lc_zero_left]; rfl⟩
  | succ i ih =>
    induction j with
    | zero => intro acc; exact ⟨[], by rw [tr_zero_right]; rfl, List.nil_sublist _, List.nil_sublist _, by rw [lc_zero_right]; rfl⟩
    | succ j ihj =>
      intro acc
      obtain ⟨x, hx⟩ := some_of_lt (a := a) (i := i) (by omega)
      obtain ⟨y, hy⟩ := some_of_lt (a := b) (i := j) (by omega)
      rw [tr_succ]
      by_cases h1 : lc a b (i + 1) (j + 1) = lc a b i (j + 1)
      · rw [if_pos h1]
        obtain ⟨t, e, s1, s2, l⟩ := ih (j + 1) (by omega) hj acc
        exact ⟨t, e, s1.trans (by rw [take_last hx]; exact List.sublist_append_left _ _), s2, l.trans h1.symm⟩
      · rw [if_neg h1]
        by_cases h2 : lc a b (i + 1) (j + 1) = lc a b (i + 1) j
        · rw [if_pos h2]
          obtain ⟨t, e, s1, s2, l⟩ := ihj (by omega) acc
          exact ⟨t, e, s1, s2.trans (by rw [take_last hy]; exact List.sublist_append_left _ _), l.trans h2.symm⟩
        · rw [if_neg h2]
          have hs := tr_same a b i j h1 h2
          obtain ⟨t, e, s1, s2, l⟩ := ih j (by omega) (by omega) (a.getD i 0 :: acc)
          have hg : a.getD i 0 = x := by simp [List.getD_eq_getElem?_getD, hx]
          have hxy : x = y := by rw [hx, hy] at hs; exact Option.some.inj hs
          refine ⟨t ++ [x], by rw [e, hg]; simp, ?_, ?_, ?_⟩
          · rw [take_last hx]; exact s1.append (List.Sublist.refl _)
          · rw [take_last hy, ← hxy]; exact s2.append (List.Sublist.refl _)
          · rw [lc_succ, if_pos hs, ← l]; simp
/-- the table's steps -/
theorem lc_steps (a b : List Nat) : ∀ i j, (lc a b i j ≤ lc a b (i + 1) j ∧ lc a b (i + 1) j ≤ lc a b i j + 1) ∧ (lc a b i j ≤ lc a b i (j + 1) ∧ lc a b i (j + 1) ≤ lc a b i j + 1) ∧
    (lc a b (i + 1) j ≤ lc a b (i + 1) (j + 1) ∧ lc a b (i + 1) (j + 1) ≤ lc a b (i + 1) j + 1) ∧ (lc a b i (j + 1) ≤ lc a b (i + 1) (j + 1) ∧ lc a b (i + 1) (j + 1) ≤ lc a b i (j + 1) + 1) := by
  have cell : ∀ i j, (lc a b i j ≤ lc a b (i + 1) j ∧ lc a b (i + 1) j ≤ lc a b i j + 1) → (lc a b i j ≤ lc a b i (j + 1) ∧ lc a b i (j + 1) ≤ lc a b i j + 1) →
      (lc a b (i + 1) j ≤ lc a b (i + 1) (j + 1) ∧ lc a b (i + 1) (j + 1) ≤ lc a b (i + 1) j + 1) ∧ (lc a b i (j + 1) ≤ lc a b (i + 1) (j + 1) ∧ lc a b (i + 1) (j + 1) ≤ lc a b i (j + 1) + 1) := by
    intro i j h1 h2
    rw [lc_succ]
    split <;> omega
  intro i
  induction i with
  | zero =>
    intro j
    have hv : lc a b 0 j ≤ lc a b 0 (j + 1) ∧ lc a b 0 (j + 1) ≤ lc a b 0 j + 1 := by rw [lc_zero_left, lc_zero_left]; omega
    induction j with
    | zero =>
      have hh : lc a b 0 0 ≤ lc a b 1 0 ∧ lc a b 1 0 ≤ lc a b 0 0 + 1 := by rw [lc_zero_right, lc_zero_right]; omega
      exact ⟨hh, hv, cell 0 0 hh hv⟩
    | succ j ihj =>
      have hh := (ihj (by rw [lc_zero_left, lc_zero_left]; omega)).2.2.2
      exact ⟨hh, hv, cell 0 (j + 1) hh hv⟩
  | succ i ih =>
    intro j
    have hv := (ih j).2.2.1
    induction j with
    | zero =>
      have hh : lc a b (i + 1) 0 ≤ lc a b (i + 1 + 1) 0 ∧ lc a b (i + 1 + 1) 0 ≤ lc a b (i + 1) 0 + 1 := by rw [lc_zero_right, lc_zero_right]; omega
      exact ⟨hh, hv, cell (i + 1) 0 hh hv⟩
    | succ j ihj =>
      have hh := (ihj (ih j).2.2.1).2.2.2
      exact ⟨hh, hv, cell (i + 1) (j + 1) hh hv⟩
theorem lev_le (a b : List Nat) (i j : Nat) : lev a b i j + 2 * lc a b i j ≤ i + j := by
  induction i generalizing j with
  | zero => rw [lev_zero_left, lc_zero_left]; omega
  | succ i ih =>
    induction j with
    | zero => rw [lev_zero_right, lc_zero_right]; omega
    | succ j ihj =>
      have h1 := ih j
      have h2 := ih (j + 1)
      rw [lev_succ, lc_succ]
      split <;> omega
theorem lev_ge (a b : List Nat) (i j : Nat) : i ≤ lev a b i j + lc a b i j ∧ j ≤ lev a b i j + lc a b i j := by
  induction i generalizing j with
  | zero => rw [lev_zero_left, lc_zero_left]; omega
  | succ i ih =>
    induction j with
    | zero => rw [lev_zero_right, lc_zero_right]; omega
    | succ j ihj =>
      have h1 := ih j
      have h2 := ih (j + 1)
      have hs := lc_steps a b i j
      have e := lc_succ a b i j
      rw [lev_succ]
      split
      · rename_i h
        rw [if_pos h] at e
        omega
      · omega
theorem lc_self (a : List Nat) : a.length ≤ lc a a a.length a.length :=
  lc_ge a a a.length a.length (Nat.le_refl _) (Nat.le_refl _) a (by simp) (by simp)
theorem lc_le_right (a b : List Nat) (i j : Nat) : lc a b i j ≤ j := by
  have := lev_le a b i j
  have := lev_ge a b i j
  omega

/-- the law's reading from left to right -/
def gStep (p : List Nat) (k c : Nat) : Nat := if p[k]? = some c then k + 1 else k
theorem greedy (p : List Nat) : ∀ (y : List Nat) (k : Nat), k ≤ p.length → (y.foldl (gStep p) k = p.length ↔ (p.drop k).Sublist y)
  | [], k, hk => by
    simp only [List.foldl_nil]
    constructor
    · intro h
      subst h
      simp
    · intro h
      have := List.sublist_nil.mp h
      have := List.drop_eq_nil_iff.mp this
      omega
  | c :: y, k, hk => by
    simp only [List.foldl_cons]
    by_cases hlt : k < p.length
    · have hd : p.drop k = p[k] :: p.drop (k + 1) := List.drop_eq_getElem_cons hlt
      have hp : p[k]? = some p[k] := List.getElem?_eq_getElem hlt
      by_cases e : p[k] = c
      · have : gStep p k c = k + 1 := by unfold gStep; rw [hp, e, if_pos rfl]
        rw [this, greedy p y (k + 1) hlt, hd, e]
        exact ⟨fun h => h.cons_cons c, fun h => List.cons_sublist_cons.mp h⟩
      · have : gStep p k c = k := by unfold gStep; rw [hp, if_neg (by simpa using e)]
        rw [this, greedy p y k hk, hd]
        constructor
        · exact fun h => h.cons c
        · intro h
          cases h with
          | cons _ h => exact h
          | cons_cons _ h => exact absurd rfl e
    · have hk' : k = p.length := by omega
      subst hk'
      have : gStep p p.length c = p.length := by unfold gStep; rw [List.getElem?_eq_none (Nat.le_refl _)]; simp
      rw [this, greedy p y p.length (Nat.le_refl _)]
      simp
/-- the law's parts: rows of a's letters, read from left to right, that b has -/
def withins (b p : List Nat) : Bool := b.foldl (gStep p) 0 == p.length
theorem withins_iff (b p : List Nat) : withins b p = true ↔ p.Sublist b := by
  unfold withins
  rw [beq_iff_eq, greedy p b 0 (Nat.zero_le _)]
  simp
def parts (b : List Nat) : List Nat → List (List Nat) → List (List Nat)
  | [], ps => ps
  | c :: r, ps => parts b r (ps ++ (ps.map (· ++ [c])).filter (withins b))
theorem parts_snoc (b : List Nat) : ∀ (a : List Nat) (c : Nat) (ps : List (List Nat)), parts b (a ++ [c]) ps = parts b a ps ++ ((parts b a ps).map (· ++ [c])).filter (withins b)
  | [], c, ps => rfl
  | d :: a, c, ps => by
    show parts b (a ++ [c]) _ = _
    rw [parts_snoc b a c]
    rfl
theorem parts_spec (b : List Nat) (a : List Nat) : ∀ i, i ≤ a.length → ∀ p, p ∈ parts b (a.take i) [[]] ↔ p.Sublist (a.take i) ∧ p.Sublist b := by
  intro i
  induction i with
  | zero =>
    intro _ p
    show p ∈ parts b [] [[]] ↔ p.Sublist [] ∧ _
    simp only [parts, List.mem_singleton, List.sublist_nil]
    constructor
    · rintro rfl; exact ⟨rfl, List.nil_sublist _⟩
    · exact fun h => h.1
  | succ i ih =>
    intro hi p
    obtain ⟨x, hx⟩ := some_of_lt (a := a) (i := i) (by omega)
    have ih := ih (by omega)
    rw [take_last hx, parts_snoc, List.mem_append, List.mem_filter, List.mem_map, ih]
    constructor
    · rintro (⟨h1, h2⟩ | ⟨⟨q, hq, rfl⟩, h⟩)
      · exact ⟨h1.trans (List.sublist_append_left _ _), h2⟩
      · have := (ih q).mp hq
        exact ⟨this.1.append (List.Sublist.refl _), (withins_iff _ _).mp h⟩
    · rintro ⟨h1, h2⟩
      rcases sub_last h1 with g1 | ⟨q, eq, g1⟩
      · exact .inl ⟨g1, h2⟩
      · subst eq
        exact .inr ⟨⟨q, (ih q).mpr ⟨g1, (List.sublist_append_left _ _).trans h2⟩, rfl⟩, (withins_iff _ _).mpr h2⟩
theorem parts_length (b : List Nat) (a : List Nat) : ∀ i, (parts b (a.take i) [[]]).length ≤ 2 ^ i := by
  intro i
  induction i with
  | zero => exact Nat.le_refl _
  | succ i ih =>
    cases hx : a[i]? with
    | none =>
      rw [List.take_add_one, hx]
      have : (a.take i ++ (none : Option Nat).toList) = a.take i := by simp
      rw [this, Nat.pow_succ]; omega
    | some x =>
      rw [take_last hx, parts_snoc, List.length_append, Nat.pow_succ]
      have := List.length_filter_le (withins b) ((parts b (a.take i) [[]]).map (· ++ [x]))
      rw [List.length_map] at this
      omega
/-- the longest of the parts is as long as the table says -/
theorem parts_most (a b : List Nat) : (∀ p ∈ parts b a [[]], p.length ≤ lc a b a.length b.length) ∧ ∃ p ∈ parts b a [[]], p.length = lc a b a.length b.length := by
  have h := parts_spec b a a.length (Nat.le_refl _)
  rw [List.take_length] at h
  constructor
  · intro p hp
    obtain ⟨h1, h2⟩ := (h p).mp hp
    exact lc_ge a b _ _ (Nat.le_refl _) (Nat.le_refl _) p (by simpa using h1) (by simpa using h2)
  · obtain ⟨t, _, s1, s2, l⟩ := tr_spec a b a.length b.length (Nat.le_refl _) (Nat.le_refl _) []
    exact ⟨t, (h t).mpr ⟨by simpa using s1, by simpa using s2⟩, l⟩
theorem lc_comm (a b : List Nat) : lc a b a.length b.length = lc b a b.length a.length := by
  have key : ∀ a b : List Nat, lc a b a.length b.length ≤ lc b a b.length a.length := by
    intro a b
    obtain ⟨t, _, s1, s2, l⟩ := tr_spec a b a.length b.length (Nat.le_refl _) (Nat.le_refl _) []
    rw [← l]
    exact lc_ge b a _ _ (Nat.le_refl _) (Nat.le_refl _) t s2 s1
  exact Nat.le_antisymm (key a b) (key b a)
end

-- part Pure2
section
open PySem PySem.W PySem.Calls PyProof.Rows PySem.Spec
abbrev S (p : List Nat) : Str := ⟨p.toArray⟩
theorem S_len (p : List Nat) : (S p).length = p.length := by show p.toArray.size = _; simp
theorem S_self (x : Str) : S x.cps.toList = x := by cases x; simp [S]
theorem within_S (p : List Nat) (y : Str) : within (S p) y = withins y.cps.toList p := by
  unfold within withins
  rw [S_len]
  have : wStep (S p) = gStep p := by
    funext k c
    unfold wStep gStep
    have e : (S p).cps[k]? = p[k]? := by simp [S]
    rw [e]
  rw [this]
theorem within_iff (p y : Str) : within p y = true ↔ p.cps.toList.Sublist y.cps.toList := by
  rw [← S_self p, within_S, withins_iff]
theorem S_snoc (p : List Nat) (c : Nat) : S p ++ (⟨#[c]⟩ : Str) = S (p ++ [c]) := by
  show (⟨p.toArray ++ #[c]⟩ : Str) = _
  simp [S]
theorem strs_paired {f : Nat → Str} : ∀ {l : List Nat} {ys : List Value}, Paired (fun i y => ∃ t, y = Value.str (f i) t) l ys → StrsAre ys (l.map f)
  | _, _, .nil => .nil
  | _, _, .cons hr r => by
    obtain ⟨t, rfl⟩ := hr
    exact .cons _ t (strs_paired r)
theorem ints_paired {f : Nat → Int} : ∀ {l : List Nat} {ys : List Value}, Paired (fun i y => ∃ t, y = Value.int (f i) t) l ys → IntsAre ys (l.map f)
  | _, _, .nil => .nil
  | _, _, .cons hr r => by
    obtain ⟨t, rfl⟩ := hr
    exact .cons _ t (ints_paired r)
theorem range_getD {α : Type} (ps : List α) (d : α) : (List.range ps.length).map (fun i => ps.getD i d) = ps := by
  apply List.ext_getElem?
  intro i
  by_cases hi : i < ps.length
  · simp [hi, List.getD_eq_getElem?_getD]
  · rw [List.getElem?_eq_none (by simp; omega), List.getElem?_eq_none (by omega)]
theorem filter_range {α β : Type} (ps : List α) (d : α) (q : α → Bool) (g : α → β) : ((List.range ps.length).filter fun i => q (ps.getD i d)).map (fun i => g (ps.getD i d)) = (ps.filter q).map g := by
  have h := range_getD ps d
  have e : ps.filter q = ((List.range ps.length).filter fun i => q (ps.getD i d)).map fun i => ps.getD i d := by
    have := List.filter_map (f := fun i => ps.getD i d) (p := q) (l := List.range ps.length)
    rw [h] at this
    exact this
  rw [e, List.map_map]
  rfl
section
variable {M : Model} {A : Around} {E : Value → Shared → Prop} {s : Shared} {env : Env}
theorem tests_none {R : Bool → Shared → Prop} (h : R true s) : wpAny M A (testsOf env []) R E s := wpAny_pure h
theorem tests_one {c : Expr} {R : Bool → Shared → Prop} (h : wpAny M A (isTrue c env (eval c env)) R E s) : wpAny M A (testsOf env [c]) R E s := by
  show wpAny M A (forIn [c] true _) R E s
  simp only [List.forIn_cons, List.forIn_nil, if_true]
  simp only [bind_assoc, pure_bind, bind_pure]
  exact h
end

/-- the frame of a comprehension's block -/
theorem comp_frame {h₀ h2 h3 : Heap} {L I : Addr} {m m3 : Str → Option Value} {cells news : List (Addr × Obj)} (F : Fr h₀ L h2 m) (N : News h₀ L h2 news) (hI : h₀.get? I = none) (hIn : ∀ q ∈ cells, q.1 ≠ I) (hsub : ∀ q ∈ cells, q ∈ news) (hn : h3.Ns (h2.objs.size + 1) m3)
    (hk : ∀ b o, b ≠ I → h2.get? b = some o → h3.get? b = some o) :
    ∃ all, Fr h₀ (h2.objs.size + 1) h3 m3 ∧ News h₀ (h2.objs.size + 1) h3 (cells ++ all) ∧ (∀ b o, h₀.get? b = some o → h3.get? b = some o) ∧ ∀ b o, b ≠ h2.objs.size + 1 → h₀.get? b = none → h3.get? b = some o → (b, o) ∈ cells ++ all := by
  have hk0 : ∀ b o, h₀.get? b = some o → h3.get? b = some o := fun b o e => hk b o (fun q => by rw [q, hI] at e; cases e) (F.keep b o e)
  obtain ⟨all, NA, hall⟩ := allNews h₀ (h2.objs.size + 1) h3
  refine ⟨all, ⟨hn, hk0, Nat.le_trans F.above (Nat.le_succ_of_le (Nat.le_of_lt (nslt F.ns)))⟩, fun q hq => ?_, hk0, fun b o x y z => List.mem_append_right _ (hall b o x y z)⟩
  rcases List.mem_append.mp hq with hq | hq
  · exact ⟨hk _ _ (hIn q hq) (N q (hsub q hq)).1, Nat.ne_of_lt (Nat.lt_succ_of_lt (nlt (N q (hsub q hq)).1)), (N q (hsub q hq)).2.2⟩
  · exact NA q hq

/-- a def with plain parameters, over an older base -/
theorem enterB {prog : Program} {w : World} {A : Around} {s : Shared} {E : Value → Shared → Prop} {h₀ : Heap} {Q : Value → Shared → Prop} {name qual : Str} {params : Arguments} {body : List Stmt} {scope : Scope} {dV kV doc pm cdv ct oc : Value} {an od : Option Addr} {osl : Array (Option Value)} {f : Addr} {args : Args} {binds : List (Str × Value)} {n : Nat} {pre : List (Addr × Obj)}
    (O : Ok w s.heap) (C : Calm A (n + 1)) (hk₀ : ∀ b o, h₀.get? b = some o → s.heap.get? b = some o) (hsz : h₀.objs.size ≤ s.heap.objs.size) (hpre : Pre h₀ s.heap pre)
    (ho : (hd.heap_1 w.params).lookup f = some ⟨oc, od, .func (fnOf name qual params body scope dV kV doc pm an cdv ct), osl⟩) (hcd : codeIn (hd.heap_1 w.params) cdv qual = true)
    (hbind : BindsTo s (fnOf name qual params body scope dV kV doc pm an cdv ct) args binds) (hloc : ∀ y ∈ binds, scope.names.lookup y.1 = some .local)
    (h : ∀ L h₁ tk, Fr h₀ L h₁ (fun y => binds.reverse.lookup y) → News h₀ L h₁ pre → Ok w h₁ → Calm (A.deeper (envX qual scope L f cdv [])) n →
      wpAny (model prog w) (A.deeper (envX qual scope L f cdv [])) (execs body (envX qual scope L f cdv []))
        (fun fl s' => Q (match fl with | .ret v => v | _ => .none) s') (fun _ _ => False) { s with heap := h₁, toks := tk })
    (hcell : ∀ x ∈ scope.names, x.2 ≠ .cell) (hco : scope.isCoroutine = false) (hgen : scope.isGenerator = false) (hk : scope.kind = .function) :
    codeAny (model prog w) A (.call (.ref f) args) (fun r s' => match r with | .ok (.ret v) => Q v s' | .ok _ => False | .error e => E e s') s :=
  enter_raw O C ho hcd (hbind _ _ _ _ (env_plain O C hk₀ hsz hpre hloc h hcell hk)) hco hgen

theorem i_statA {prog : Program} {w : World} {A : Around} {E : Value → Shared → Prop} {s : Shared} {x C p L dx : Addr} {name : Str} {h₀ : Heap} {m : Str → Option Value} {news : List (Addr × Obj)} {es : List DictEntry} {n : Nat} {fv : Value} {rest : List Value} {expr : Bool} {Q : Value → Shared → Prop}
    (F : Fr h₀ L s.heap m) (O : Ok w h₀) (N : News h₀ L s.heap news) (h1 : (x, instObj C dx) ∈ news) (h2 : (dx, dictOf es n) ∈ news) (hl : getL name es = some none) (hg : plainGet (hd.heap_1 w.params) C name = true) (hh : hasDictIn (hd.heap_1 w.params) C = true) (ha : findIn (hd.heap_1 w.params) (.ref C) name = some (some (.ref p))) (ht : typeIn (hd.heap_1 w.params) (.ref p) = some (.type "staticmethod"))
    (hgf : specialIn (hd.heap_1 w.params) (.ref p) "__get__" = some (some (.builtin "staticmethod.__get__"))) (hts : takesIn (hd.heap_1 w.params) (.ref p) = some false) (hc : copiedNames.contains name = false) (hp : recIn (hd.heap_1 w.params) p "staticmethod" = some (fv :: rest)) (hv : handedIn fv = true)
    (h : Q fv { s with toks := s.toks + 1 }) : wpAny (model prog w) A (getAttr (.ref x) name expr) Q E s := by
  have I : InstAt s.heap x (instObj C dx) C (some (dictOf es n)) := InstAt.of_news N h1 h2
  exact get_bind (O.k.keeps F.keep) I (plainGet_of hg).1 (findObj_fn hh ha hgf hts hc (by show lookIn name (dictOf es n) = _; rw [lookIn_dict, hl])) (plainGet_of hg).2
      (wpAny_call (sm_get (s := { s with toks := s.toks + 1 }) (O.k.keeps F.keep) hp (handed_on hv h)))

theorem i_set {prog : Program} {w : World} {A : Around} {E : Value → Shared → Prop} {s : Shared} {x C L dx : Addr} {name : Str} {v : Value} {h₀ : Heap} {m : Str → Option Value} {all : List (Addr × Obj)} {es es' : List DictEntry} {n n' : Nat} {Q : Unit → Shared → Prop}
    (F : Fr h₀ L s.heap m) (O : Ok w h₀) (N : News h₀ L s.heap ((x, instObj C dx) :: (dx, dictOf es n) :: all)) (hne : x ≠ dx) (hall : ∀ p ∈ all, p.1 ≠ dx)
    (hs : findIn (hd.heap_1 w.params) (.ref C) "__setattr__" = some (some (.builtin "object.__setattr__"))) (hp : plainOver (hd.heap_1 w.params) C = true) (ht : takerIn (hd.heap_1 w.params) C name = some none) (hh : hasDictIn (hd.heap_1 w.params) C = true) (hl : (getL name es).isSome = true)
    (e : (putL name (PyData.keyHash w.params name) (.str name (s.toks + 1)) v es, putN name es n) = (es', n')) (hz : es'.length ≤ 1000)
    (h : ∀ h', Fr h₀ L h' m → News h₀ L h' ((x, instObj C dx) :: (dx, dictOf es' n') :: all) → Q () { s with heap := h', toks := s.toks + 2 }) :
    wpAny (model prog w) A (setAttr (.ref x) name v) Q E s :=
  set_dict F O.k N (InstAt.of_news N (.head _) (.tail _ (.head _))) rfl hs hp ht hh hl e (.tail hne (.head hall)) hz h
end

-- part Told
section
open PySem PySem.W PySem.Calls PyProof.Rows PySem.Spec
theorem len_codes (x : Str) : x.cps.toList.length = x.length := by show _ = x.cps.size; simp
/-- how long the longest common row is -/
def common (x y : Str) : Nat := lc x.cps.toList y.cps.toList x.length y.length
theorem common_comm (x y : Str) : common x y = common y x := by
  unfold common
  rw [← len_codes x, ← len_codes y]
  exact lc_comm _ _
theorem told_spec (x y : Str) : (told x y).length = common x y ∧ within (told x y) x = true ∧ within (told x y) y = true := by
  obtain ⟨t, e, s1, s2, l⟩ := tr_spec x.cps.toList y.cps.toList x.length y.length (by rw [len_codes]; exact Nat.le_refl _) (by rw [len_codes]; exact Nat.le_refl _) []
  have h : told x y = S t := by unfold told S; rw [e]; simp
  rw [h, S_len, within_S, within_S, withins_iff, withins_iff]
  refine ⟨l, ?_, ?_⟩
  · rw [List.take_of_length_le (by rw [len_codes]; exact Nat.le_refl _)] at s1; exact s1
  · rw [List.take_of_length_le (by rw [len_codes]; exact Nat.le_refl _)] at s2; exact s2
theorem common_le (x y : Str) : common x y ≤ x.length ∧ common x y ≤ y.length := ⟨lc_le _ _ _ _, lc_le_right _ _ _ _⟩
theorem levD_bounds {x y : Str} {d : Nat} (h : LevD x y d) : max x.length y.length ≤ d + common x y ∧ d + 2 * common x y ≤ x.length + y.length := by
  have hc := common_le x y
  unfold LevD at h
  by_cases e : x = y
  · rw [if_pos e] at h
    subst e h
    have := lc_self x.cps.toList
    rw [len_codes] at this
    have : x.length ≤ common x x := this
    omega
  · rw [if_neg e] at h
    by_cases c : x.length = 0 ∨ y.length = 0
    · rw [if_pos c] at h
      omega
    · rw [if_neg c] at h
      subst h
      have h1 := lev_le x.cps.toList y.cps.toList x.length y.length
      have h2 := lev_ge x.cps.toList y.cps.toList x.length y.length
      unfold common
      omega
theorem selfNews {h₀ h h1 : Heap} {L x C dx : Addr} {es : List DictEntry} {n : Nat} {news : List (Addr × Obj)} (S : SelfAt h1 x C es n) (N : News h₀ L h news) (m1 : (x, instObj C dx) ∈ news) (m2 : (dx, dictOf es n) ∈ news) : SelfAt h x C es n := ⟨⟨dx, (N _ m1).1, (N _ m2).1⟩, S.q, S.f, S.no⟩
end

-- part Three
section
open PySem PySem.W PySem.Calls PyProof.Rows PySem.Spec
theorem ident3 {prog : Program} {w : World} {A : Around} {s : Shared} {x y z : Str} {t u v : Tok} (O : Ok w s.heap) (C : Calm A 1) :
    Gives prog w A (.ref 100) [.str x t, .str y u, .str z v] (fun v _ => v = .bool (decide (x = y ∧ y = z))) s := by
  refine Gives.mk ?_
  refine' enterV (n := 0) (vs := [.str x t, .str y u, .str z v]) (binds := fun D => [("elements", .ref D)]) O C ?ho ?hcd ?hp ?hg ?hl ?_ ?hc ?hco ?hgen ?hk
  case ho => k_is
  case hcd => k_is
  case hp => exact rfl
  case hg => intro D; exact rfl
  case hl => intro D; exact locs rfl
  case hc => decide
  case hco => rfl
  case hgen => rfl
  case hk => rfl
  intro D L h₁ tk hDL F N O1 C1
  have hh := C1.hh
  boot_fact
  refine wpAny_Try_except ?_
  repeat boot_fact
  refine set_tuple_N hh F N (.head _) (.cons x t (.cons y u (.cons z v .nil))) (by simp) fun h2 tk2 o F2 N2 S2 => ?_
  repeat boot_fact
  refine len_sl1 (own := []) N2 S2 (by have := met_len [x, y, z] 3; simp; omega) ?_
  repeat boot_fact
  refine ⟨?_, _, _, rfl, F2.keep⟩
  show Value.bool (((met [x, y, z] 3).length : Int) == 1) = _
  rw [Bool.beq_eq_decide_eq]
  congr 1
  rw [decide_eq_decide]
  constructor
  · intro h
    obtain ⟨h1, h2⟩ := (met_three x y z).mp (by omega)
    exact ⟨h1, h1 ▸ h2⟩
  · rintro ⟨rfl, rfl⟩
    have := (met_three x x x).mpr ⟨rfl, rfl⟩
    omega
theorem getseq3 {prog : Program} {w : World} {A : Around} {s : Shared} {x y z : Str} {t u r : Tok} {me C₀ : Addr} {es : List DictEntry} {n : Nat} (O : Ok w s.heap) (C : Calm A 1) (S : SelfAt s.heap me C₀ es n) (hC : C₀ = 225 ∨ C₀ = 266) :
    Gives prog w A (.ref 108) [.ref me, .str x t, .str y u, .str z r] (RetList s.heap [.str x t, .str y u, .str z r]) s := by
  refine Gives.mk ?_
  refine' enterVC (n := 0) (vs := [.str x t, .str y u, .str z r]) (binds := fun D => [("self", .ref me), ("sequences", .ref D)]) O C ?ho ?hcd ?hp ?hg ?hl ?hnd ?_ ?hco ?hgen ?hk
  case ho => k_is
  case hcd => k_is
  case hp => exact rfl
  case hg => intro D; exact rfl
  case hl => intro D; exact rfl
  case hnd => decide +kernel
  case hco => rfl
  case hgen => rfl
  case hk => rfl
  intro D L h₁ tk cells F N Y O1 C1
  have hh := C1.hh
  obtain ⟨oc, rfl, hoc⟩ := CellsAre.one Y
  replace hoc : oc.data = .cell (some (.ref me)) := hoc
  replace F : Fr s.heap L h₁ _ := F
  dsimp only [List.cons_append, List.nil_append] at N
  obtain ⟨tq, hq⟩ := S.q
  rcases hC with rfl | rfl
  all_goals
    repeat boot_fact
    refine call_list_seq D (.inr rfl) (N _ (.tail _ (.head _))).1 rfl rfl (fun h' c' hk hg => ?_) (by rw [sizeLine_eq]; simp)
    repeat boot_fact
    exact ⟨⟨_, c', rfl, Heap.get?_none_of_le (Nat.le_trans F.above (Nat.le_of_lt (nslt F.ns))), hg⟩, _, _, rfl, fun b o e => hk b o (F.keep b o e)⟩
end

-- part MakesF
section
open PySem PySem.W PySem.Calls PyProof.Rows PySem.Spec
theorem init225 {prog : Program} {w : World} {A : Around} {s : Shared} {h₀ : Heap} {x dx : Addr} {all : List (Addr × Obj)} (O : Ok w s.heap) (C : Calm A 1) (hk₀ : ∀ b o, h₀.get? b = some o → s.heap.get? b = some o) (hsz : h₀.objs.size ≤ s.heap.objs.size) (O0 : Ok w h₀)
    (hpre : Pre h₀ s.heap ((x, instObj 225 dx) :: (dx, dictOf [] 0) :: all)) (hne : x ≠ dx) (hall : ∀ p ∈ all, p.1 ≠ dx) :
    codeAny (model prog w) A (.call (.ref 198) ⟨[.ref x], [("external", .bool false)]⟩) (fun r s' => match r with | .ok (.ret v) => (v = .none ∧ ∃ h' tk es n, s' = { s with heap := h', toks := tk } ∧ (∀ b o, h₀.get? b = some o → h'.get? b = some o) ∧ (∀ p ∈ all, h'.get? p.1 = some p.2) ∧ SelfAt h' x 225 es n) | .ok _ => False | .error e => False) s := by
  refine' enterB (n := 0) (h₀ := h₀) (pre := ((x, instObj 225 dx) :: (dx, dictOf [] 0) :: all)) (binds := [("self", .ref x), ("qval", .int 1 _), ("test_func", .none), ("external", .bool false)]) O C hk₀ hsz hpre ?ho ?hcd ?hb ?hl ?_ ?hc ?hco ?hg ?hk
  case ho => k_is
  case hcd => k_is
  case hb => exact kp_binds O.k (by intro S; rfl)
  case hl => exact locs rfl
  case hc => decide +kernel
  case hco => rfl
  case hg => rfl
  case hk => rfl
  intro L h₁ tk F N O1 C1
  have hh := C1.hh
  have KX := O0.k
  repeat boot_fact
  refine' i_set ?s11 O0 ?s12 hne hall ?s13 ?s14 ?s15 ?s16 ?s17 ?s18 ?s19 ?_
  case s11 => assumption
  case s12 => assumption
  case s13 => k_is
  case s14 => k_is
  case s15 => k_is
  case s16 => k_is
  case s17 => k_get
  case s18 => k_put
  case s19 => exact Nat.le_of_ble_eq_true rfl
  intro _ _ _
  dsimp only
  rename Fr _ _ _ _ => F2
  rename News _ _ _ _ => N2
  repeat boot_fact
  refine i_statA F2 O0 N2 (.head _) (.tail _ (.head _)) (by with_unfolding_all rfl) (by k_is) (by k_is) (by k_is) (by k_is) (by k_is) (by k_is) (by decide +kernel) (by k_is) (by k_handed) ?_
  repeat boot_fact
  refine' i_set ?s21 O0 ?s22 hne hall ?s23 ?s24 ?s25 ?s26 ?s27 ?s28 ?s29 ?_
  case s21 => assumption
  case s22 => assumption
  case s23 => k_is
  case s24 => k_is
  case s25 => k_is
  case s26 => k_is
  case s27 => k_get
  case s28 => k_put
  case s29 => exact Nat.le_of_ble_eq_true rfl
  intro _ _ _
  dsimp only
  repeat boot_fact
  refine' i_set ?s31 O0 ?s32 hne hall ?s33 ?s34 ?s35 ?s36 ?s37 ?s38 ?s39 ?_
  case s31 => assumption
  case s32 => assumption
  case s33 => k_is
  case s34 => k_is
  case s35 => k_is
  case s36 => k_is
  case s37 => k_get
  case s38 => k_put
  case s39 => exact Nat.le_of_ble_eq_true rfl
  intro _ _ _
  dsimp only
  repeat boot_fact
  rename Fr _ _ _ _ => F3
  rename News _ _ _ _ => N3
  refine ⟨rfl, _, _, _, _, rfl, F3.keep, fun p hp => N3.get (.tail _ (.tail _ hp)), ⟨⟨_, N3.get (.head _), N3.get (.tail _ (.head _))⟩, ⟨_, by with_unfolding_all rfl⟩, by with_unfolding_all rfl, ?_⟩⟩
  unfold clsNames
  simp only [List.forall_mem_cons]
  refine ⟨?_, ?_, ?_, ?_, ?_, ?_, ?_, ?_, ?_, fun _ h => nomatch h⟩ <;> with_unfolding_all rfl
theorem init266 {prog : Program} {w : World} {A : Around} {s : Shared} {h₀ : Heap} {x dx : Addr} {all : List (Addr × Obj)} (O : Ok w s.heap) (C : Calm A 1) (hk₀ : ∀ b o, h₀.get? b = some o → s.heap.get? b = some o) (hsz : h₀.objs.size ≤ s.heap.objs.size) (O0 : Ok w h₀)
    (hpre : Pre h₀ s.heap ((x, instObj 266 dx) :: (dx, dictOf [] 0) :: all)) (hne : x ≠ dx) (hall : ∀ p ∈ all, p.1 ≠ dx) :
    codeAny (model prog w) A (.call (.ref 242) ⟨[.ref x], [("external", .bool false)]⟩) (fun r s' => match r with | .ok (.ret v) => (v = .none ∧ ∃ h' tk es n, s' = { s with heap := h', toks := tk } ∧ (∀ b o, h₀.get? b = some o → h'.get? b = some o) ∧ (∀ p ∈ all, h'.get? p.1 = some p.2) ∧ SelfAt h' x 266 es n) | .ok _ => False | .error e => False) s := by
  refine' enterB (n := 0) (h₀ := h₀) (pre := ((x, instObj 266 dx) :: (dx, dictOf [] 0) :: all)) (binds := [("self", .ref x), ("qval", .int 1 _), ("test_func", .none), ("external", .bool false)]) O C hk₀ hsz hpre ?ho ?hcd ?hb ?hl ?_ ?hc ?hco ?hg ?hk
  case ho => k_is
  case hcd => k_is
  case hb => exact kp_binds O.k (by intro S; rfl)
  case hl => exact locs rfl
  case hc => decide +kernel
  case hco => rfl
  case hg => rfl
  case hk => rfl
  intro L h₁ tk F N O1 C1
  have hh := C1.hh
  have KX := O0.k
  repeat boot_fact
  refine' i_set ?s41 O0 ?s42 hne hall ?s43 ?s44 ?s45 ?s46 ?s47 ?s48 ?s49 ?_
  case s41 => assumption
  case s42 => assumption
  case s43 => k_is
  case s44 => k_is
  case s45 => k_is
  case s46 => k_is
  case s47 => k_get
  case s48 => k_put
  case s49 => exact Nat.le_of_ble_eq_true rfl
  intro _ _ _
  dsimp only
  rename Fr _ _ _ _ => F2
  rename News _ _ _ _ => N2
  repeat boot_fact
  refine i_statA F2 O0 N2 (.head _) (.tail _ (.head _)) (by with_unfolding_all rfl) (by k_is) (by k_is) (by k_is) (by k_is) (by k_is) (by k_is) (by decide +kernel) (by k_is) (by k_handed) ?_
  repeat boot_fact
  refine' i_set ?s51 O0 ?s52 hne hall ?s53 ?s54 ?s55 ?s56 ?s57 ?s58 ?s59 ?_
  case s51 => assumption
  case s52 => assumption
  case s53 => k_is
  case s54 => k_is
  case s55 => k_is
  case s56 => k_is
  case s57 => k_get
  case s58 => k_put
  case s59 => exact Nat.le_of_ble_eq_true rfl
  intro _ _ _
  dsimp only
  repeat boot_fact
  refine' i_set ?s61 O0 ?s62 hne hall ?s63 ?s64 ?s65 ?s66 ?s67 ?s68 ?s69 ?_
  case s61 => assumption
  case s62 => assumption
  case s63 => k_is
  case s64 => k_is
  case s65 => k_is
  case s66 => k_is
  case s67 => k_get
  case s68 => k_put
  case s69 => exact Nat.le_of_ble_eq_true rfl
  intro _ _ _
  dsimp only
  repeat boot_fact
  rename Fr _ _ _ _ => F3
  rename News _ _ _ _ => N3
  refine ⟨rfl, _, _, _, _, rfl, F3.keep, fun p hp => N3.get (.tail _ (.tail _ hp)), ⟨⟨_, N3.get (.head _), N3.get (.tail _ (.head _))⟩, ⟨_, by with_unfolding_all rfl⟩, by with_unfolding_all rfl, ?_⟩⟩
  unfold clsNames
  simp only [List.forall_mem_cons]
  refine ⟨?_, ?_, ?_, ?_, ?_, ?_, ?_, ?_, ?_, fun _ h => nomatch h⟩ <;> with_unfolding_all rfl
theorem make225 {prog : Program} {w : World} {A : Around} {E : Value → Shared → Prop} {s : Shared} {h₀ : Heap} {L : Addr} {m : Str → Option Value} {news : List (Addr × Obj)} {Q : Value → Shared → Prop} (F : Fr h₀ L s.heap m) (N : News h₀ L s.heap news) (O : Ok w h₀) (CU : Calm (A.under (.builtin "type.__call__" ⟨[.ref 225], [("external", .bool false)]⟩)) 1)
    (h : ∀ x dx h' tk es n, Fr h₀ L h' m → News h₀ L h' ((x, instObj 225 dx) :: (dx, dictOf es n) :: news) → SelfAt h' x 225 es n → Q (.ref x) { s with heap := h', toks := tk }) : wpAny (model prog w) A (call (.ref 225) [] [("external", .bool false)]) Q E s := by
  refine' call_cls (K := hd.heap_1 w.params) F O.k N ?c1 ?c2 ?c3 ?_
  case c1 => k_is
  case c2 => k_is
  case c3 => k_is
  intro x dx h1 F1 N1 lt1 lt2
  obtain ⟨all, NA, cover⟩ := allNews h₀ dx h1
  have hpre : Pre h₀ h1 ((x, instObj 225 dx) :: (dx, dictOf [] 0) :: all) := fun q hq => by
    rcases List.mem_cons.mp hq with rfl | hq
    · exact ⟨(N1 _ (.head _)).1, (N1 _ (.head _)).2.2⟩
    · rcases List.mem_cons.mp hq with rfl | hq
      · exact ⟨(N1 _ (.tail _ (.head _))).1, (N1 _ (.tail _ (.head _))).2.2⟩
      · exact ⟨(NA q hq).1, (NA q hq).2.2⟩
  have hsz : h₀.objs.size ≤ h1.objs.size := Nat.le_trans F1.above (Nat.le_of_lt (nslt F1.ns))
  refine codeAny_mono (init225 (s := { s with heap := h1 }) (h₀ := h₀) (x := x) (dx := dx) (all := all) (O.keeps F1.keep) CU F1.keep hsz O hpre (Nat.ne_of_gt lt2) (fun p hp => (NA p hp).2.1)) fun r s' hr => ?_
  cases r with
  | error e => exact hr.elim
  | ok f =>
    cases f with
    | ret v =>
      obtain ⟨rfl, h', tk, es, n, rfl, hk, hall', S⟩ := hr
      have hdL : L ≠ dx := Ne.symm (N1 _ (.tail _ (.head _))).2.1
      have hL0 : h₀.get? L = none := Heap.get?_none_of_le F1.above
      refine ⟨rfl, h x dx h' tk es n ⟨F1.ns.at' fun o e => hall' (L, o) (cover L o hdL hL0 e), hk, F1.above⟩ (fun q hq => ?_) S⟩
      have hx := N1 _ (.head _)
      have hxa := hall' _ (cover x _ (Nat.ne_of_gt lt2) hx.2.2 hx.1)
      rcases List.mem_cons.mp hq with rfl | hq
      · exact ⟨hxa, hx.2⟩
      rcases List.mem_cons.mp hq with rfl | hq
      · obtain ⟨dx', g1, g2⟩ := S.dx
        rw [hxa] at g1
        cases g1
        exact ⟨g2, (N1 _ (.tail _ (.head _))).2⟩
      have hN := N1 q (.tail _ (.tail _ hq))
      exact ⟨hall' q (cover q.1 q.2 (Nat.ne_of_lt (lt1 q hq)) hN.2.2 hN.1), hN.2⟩
    | _ => exact hr.elim
theorem make266 {prog : Program} {w : World} {A : Around} {E : Value → Shared → Prop} {s : Shared} {h₀ : Heap} {L : Addr} {m : Str → Option Value} {news : List (Addr × Obj)} {Q : Value → Shared → Prop} (F : Fr h₀ L s.heap m) (N : News h₀ L s.heap news) (O : Ok w h₀) (CU : Calm (A.under (.builtin "type.__call__" ⟨[.ref 266], [("external", .bool false)]⟩)) 1)
    (h : ∀ x dx h' tk es n, Fr h₀ L h' m → News h₀ L h' ((x, instObj 266 dx) :: (dx, dictOf es n) :: news) → SelfAt h' x 266 es n → Q (.ref x) { s with heap := h', toks := tk }) : wpAny (model prog w) A (call (.ref 266) [] [("external", .bool false)]) Q E s := by
  refine' call_cls (K := hd.heap_1 w.params) F O.k N ?c1 ?c2 ?c3 ?_
  case c1 => k_is
  case c2 => k_is
  case c3 => k_is
  intro x dx h1 F1 N1 lt1 lt2
  obtain ⟨all, NA, cover⟩ := allNews h₀ dx h1
  have hpre : Pre h₀ h1 ((x, instObj 266 dx) :: (dx, dictOf [] 0) :: all) := fun q hq => by
    rcases List.mem_cons.mp hq with rfl | hq
    · exact ⟨(N1 _ (.head _)).1, (N1 _ (.head _)).2.2⟩
    · rcases List.mem_cons.mp hq with rfl | hq
      · exact ⟨(N1 _ (.tail _ (.head _))).1, (N1 _ (.tail _ (.head _))).2.2⟩
      · exact ⟨(NA q hq).1, (NA q hq).2.2⟩
  have hsz : h₀.objs.size ≤ h1.objs.size := Nat.le_trans F1.above (Nat.le_of_lt (nslt F1.ns))
  refine codeAny_mono (init266 (s := { s with heap := h1 }) (h₀ := h₀) (x := x) (dx := dx) (all := all) (O.keeps F1.keep) CU F1.keep hsz O hpre (Nat.ne_of_gt lt2) (fun p hp => (NA p hp).2.1)) fun r s' hr => ?_
  cases r with
  | error e => exact hr.elim
  | ok f =>
    cases f with
    | ret v =>
      obtain ⟨rfl, h', tk, es, n, rfl, hk, hall', S⟩ := hr
      have hdL : L ≠ dx := Ne.symm (N1 _ (.tail _ (.head _))).2.1
      have hL0 : h₀.get? L = none := Heap.get?_none_of_le F1.above
      refine ⟨rfl, h x dx h' tk es n ⟨F1.ns.at' fun o e => hall' (L, o) (cover L o hdL hL0 e), hk, F1.above⟩ (fun q hq => ?_) S⟩
      have hx := N1 _ (.head _)
      have hxa := hall' _ (cover x _ (Nat.ne_of_gt lt2) hx.2.2 hx.1)
      rcases List.mem_cons.mp hq with rfl | hq
      · exact ⟨hxa, hx.2⟩
      rcases List.mem_cons.mp hq with rfl | hq
      · obtain ⟨dx', g1, g2⟩ := S.dx
        rw [hxa] at g1
        cases g1
        exact ⟨g2, (N1 _ (.tail _ (.head _))).2⟩
      have hN := N1 q (.tail _ (.tail _ hq))
      exact ⟨hall' q (cover q.1 q.2 (Nat.ne_of_lt (lt1 q hq)) hN.2.2 hN.1), hN.2⟩
    | _ => exact hr.elim
end

-- part Lawf
section
open PySem PySem.W PySem.Calls PyProof.Rows PySem.Spec
theorem CellsAre.uncons {cm : Str → Option Value} {n : Str} {c : Addr} {cs : List (Str × Addr)} {cells : List (Addr × Obj)} (x : CellsAre cm ((n, c) :: cs) cells) : ∃ o r, cells = (c, o) :: r ∧ o.data = .cell (cm n) ∧ CellsAre cm cs r := by
  cases x with | cons h r => exact ⟨_, _, rfl, h, r⟩
theorem paired_ones : ∀ {l : List Nat} {ys : List Value}, Paired (fun _ y => ∃ c t, y = Value.str ⟨#[c]⟩ t) l ys → ∃ cs : List Nat, cs.length = l.length ∧ StrsAre ys (cs.map fun c => (⟨#[c]⟩ : Str))
  | _, _, .nil => ⟨[], rfl, .nil⟩
  | _, _, .cons hr r => by
    obtain ⟨c, t, rfl⟩ := hr
    obtain ⟨cs, h1, h2⟩ := paired_ones r
    exact ⟨c :: cs, by simp [h1], .cons _ t h2⟩
theorem join_ones (l : List Nat) : Txt.join ("" : Str) (l.map fun c => (⟨#[c]⟩ : Str)) = S l := by
  show Builtin.Str.glued _ _ = _
  rw [StrLaws.glued_eq_join]
  induction l with
  | nil => rfl
  | cons c r ih =>
    cases r with
    | nil => rfl
    | cons d r =>
      show (⟨#[c]⟩ : Str) ++ ("" : Str) ++ Str.join ("" : Str) ((d :: r).map fun c => (⟨#[c]⟩ : Str)) = _
      rw [ih]
      show (⟨(#[c] ++ ("" : Str).cps) ++ (d :: r).toArray⟩ : Str) = _
      have : ("" : Str).cps = #[] := by decide +kernel
      rw [this]
      simp [S]
theorem sum_ones : ∀ l : List Nat, (l.map fun _ => 1).sum = l.length
  | [] => rfl
  | _ :: r => by simp [sum_ones r]; omega
theorem law_at {prog : Program} {w : World} {A : Around} {s : Shared} {a : Addr} {vs : List Value} {ns : List Int} {k : Nat} {o : Int} {t u : Tok} (O : Ok w s.heap) (C : Calm A 1) (hL : s.heap.IsList a vs.toArray) (hI : IntsAre vs ns) (hn : ns.length ≤ 63) (hk : k ≤ 1000) :
    Gives prog w A (.ref 275) [.ref a, .int (k : Int) t, .int o u] (fun v _ => ∃ z t', v = .int z t') s := by
  refine Gives.mk ?_
  refine' enter (binds := [("script", .ref a), ("k", .int (k : Int) t), ("other", .int o u)]) (n := 0) O C ?ho ?hcd ?hb ?hl ?_ ?hc ?hco ?hg ?hk
  case ho => k_is
  case hcd => k_is
  case hb => exact BindsTo.of_eq rfl
  case hl => exact locs rfl
  case hc => decide
  case hco => rfl
  case hg => rfl
  case hk => rfl
  intro L h₁ tk F N O1 C1
  have hh := C1.hh
  have hlen : vs.length = ns.length := hI.length
  repeat boot_fact
  refine PyProof.Rows.len_list (F.lst hL) (by simp; omega) ?_
  repeat boot_fact
  refine PyProof.Rows.split_dec (fun c1 => ?_) (fun c1 => ?_)
  · repeat boot_fact
    have hkl : k < vs.length := by simp at c1; omega
    obtain ⟨t', ht'⟩ := hI.get k (ns.getD k 0) (by simp [List.getD_eq_getElem?_getD, hlen ▸ hkl])
    refine' PyProof.Rows.item_list (F.lst hL) (by omega) (by omega) (x := .int (ns.getD k 0) t') ?w0 ?_ ?w1 ?w2
    case w0 => simpa using ht'
    case w1 => with_unfolding_all rfl
    case w2 => intro _; with_unfolding_all rfl
    repeat boot_fact
    exact ⟨⟨_, _, rfl⟩, _, _, rfl, F.keep⟩
  · repeat boot_fact
    exact ⟨⟨_, _, rfl⟩, _, _, rfl, F.keep⟩
theorem law_word {prog : Program} {w : World} {A : Around} {s : Shared} {a : Addr} {vs : List Value} {ns : List Int} {st most o : Nat} {l : Str} {t1 t2 t3 t4 : Tok} (O : Ok w s.heap) (C : Calm A 2) (hL : s.heap.IsList a vs.toArray) (hI : IntsAre vs ns) (hn0 : ns.length ≤ 63) (hs : st ≤ 100) (hm : most ≤ 10) (ho : o ≤ 10) (hl : 0 < l.length) (hl2 : l.length ≤ 10) :
    Gives prog w A (.ref 280) [.ref a, .int (st : Int) t1, .int (most : Int) t2, .str l t3, .int (o : Int) t4] (fun v _ => ∃ x t', v = .str x t' ∧ x.length ≤ most) s := by
  refine Gives.mk ?_
  refine' enterC (binds := [("script", .ref a), ("start", .int (st : Int) t1), ("most", .int (most : Int) t2), ("letters", .str l t3), ("other", .int (o : Int) t4)]) (n := 1) O C ?ho ?hcd ?hb ?hl ?hc ?_ ?hco ?hg ?hk
  case ho => k_is
  case hcd => k_is
  case hb => exact BindsTo.of_eq rfl
  case hl => exact rfl
  case hc => decide +kernel
  case hco => rfl
  case hg => rfl
  case hk => rfl
  intro L h₁ tk cells F N Y O1 C1
  have hh := C1.hh
  obtain ⟨o1, r1, rfl, hc1, Y⟩ := CellsAre.uncons Y
  obtain ⟨o2, r2, rfl, hc2, Y⟩ := CellsAre.uncons Y
  obtain ⟨o3, r3, rfl, hc3, Y⟩ := CellsAre.uncons Y
  obtain ⟨o4, rfl, hc4⟩ := CellsAre.one Y
  replace hc1 : o1.data = .cell (some (.int (o : Int) t4)) := hc1
  replace hc2 : o2.data = .cell (some (.str l t3)) := hc2
  replace hc3 : o3.data = .cell (some (.int (st : Int) t1)) := hc3
  replace hc4 : o4.data = .cell (some (.ref a)) := hc4
  replace F : Fr s.heap L h₁ (fun z => if z = "most" then some (.int (most : Int) t2) else none) := F
  repeat boot_fact
  refine' Gives.use ?g1 ?g2 ?g3 ?_
  case g2 => exact F
  case g3 => exact N
  case g1 => exact law_at (O.keeps F.keep) (C1.le (by omega)) (F.lst hL) hI hn0 (by omega)
  rintro v h2 tk2 ⟨z, t', rfl⟩ F2 N2
  repeat boot_fact
  refine PyProof.Rows.mod_int (by omega) ?_
  have hmod : ∃ q : Nat, Int.fmod z ((most : Int) + 1) = q ∧ q ≤ most := by
    have h1 : Int.fmod z ((most : Int) + 1) = z % ((most : Int) + 1) := Int.fmod_eq_emod_of_nonneg z (by omega)
    have h2 := Int.emod_nonneg z (b := (most : Int) + 1) (by omega)
    have h3 := Int.emod_lt_of_pos z (b := (most : Int) + 1) (by omega)
    exact ⟨(z % ((most : Int) + 1)).toNat, by omega, by omega⟩
  obtain ⟨q, hq, hqm⟩ := hmod
  rw [hq]
  repeat boot_fact
  refine GM.join ?_
  refine callWith_method1 ?_ (by with_unfolding_all rfl) (by with_unfolding_all rfl)
  repeat boot_fact
  rename Fr _ _ _ _ => F5
  rename News _ _ _ _ => N5
  clear F2 N2
  refine' listcomp (h₀ := s.heap) (L := L) q (fun _ => true) (fun _ _ y _ => ∃ c t, y = Value.str ⟨#[c]⟩ t) ?l1 ?l2 ?l3 ?l4 ?l5 ?l6 ?l7 ?_ ?l9
  case l1 => rfl
  case l2 => decide
  case l3 => rfl
  case l4 => decide
  case l5 => rfl
  case l6 => exact fun _ _ _ _ _ g _ => g
  case l7 => rintro _ _ _ _ ⟨c, t, rfl⟩ b hb; cases hb
  case l9 => intro _; rfl
  repeat boot_fact
  refine range_it (n := q) hh F5 N5 (by omega) (by omega) ?_
  intro I St h3 tk3 F3 N3 S3
  refine ⟨_, _, F3, N3, S3.newL, ⟨⟨I, [I], _, St, rfl, S3.walks, S3.low, by rw [sizeLine_eq]; omega, S3.st, ?_, ?_⟩⟩, ?_⟩
  · intro i v s₃ m₃ hi hv hn hm hk
    exact tests_none ⟨rfl, (Kept.rfl' _).toC hn⟩
  · intro i v s₃ m₃ hi hv _ hn hm hk
    obtain ⟨all, F6, N6, hk0, hall⟩ := comp_frame (cells := [(L + 1 + 1 + 1 + 1, o1), (L + 1 + 1 + 1, o2), (L + 1 + 1, o3), (L + 1, o4)]) F3 N3 S3.base (fun q hq => S3.apart q hq) (fun q hq => hq) hn hk
    dsimp only [List.cons_append, List.nil_append] at N6 hall
    clear F3 N3 F5 N5
    obtain ⟨tv, rfl⟩ := hv
    repeat boot_fact
    refine PyProof.Rows.mul_int ?_ (IntMulOk.of_left (PySem.intBits_le_64 (by omega) (by omega)))
    repeat boot_fact
    have ei : ((st : Int) + 1 + (i : Int)) = ((st + 1 + i : Nat) : Int) := by omega
    rw [ei]
    refine' Gives.use ?g4 ?g5 ?g6 ?_
    case g5 => exact F6
    case g6 => exact N6
    case g4 => exact law_at (O.keeps hk0) (C1.le (by omega)) (hL.at fun o e => hk0 _ o e) hI hn0 (by omega)
    rintro v h7 tk7 ⟨z2, t7, rfl⟩ F7 N7
    repeat boot_fact
    refine PyProof.Rows.mod_int (by omega) ?_
    have hmod2 : ∃ q2 : Nat, Int.fmod z2 (l.length : Int) = q2 ∧ q2 < l.length := by
      have h1 : Int.fmod z2 (l.length : Int) = z2 % (l.length : Int) := Int.fmod_eq_emod_of_nonneg z2 (by omega)
      have h2 := Int.emod_nonneg z2 (b := (l.length : Int)) (by omega)
      have h3 := Int.emod_lt_of_pos z2 (b := (l.length : Int)) (by omega)
      exact ⟨(z2 % (l.length : Int)).toNat, by omega, by omega⟩
    obtain ⟨q2, hq2, hq2l⟩ := hmod2
    refine' read_str (k := q2) hq2 hq2l (by omega) ?_ ?v1 ?v2
    case v1 => with_unfolding_all rfl
    case v2 => intro _; with_unfolding_all rfl
    exact ⟨⟨_, _, rfl⟩, ⟨_, _, rfl, keptOf F7 N7 hk0 hall, F7.ns⟩, fun b hb => by cases hb⟩
  · intro h8 tk8 ys k8 F8 N8 hap hP
    have hft : (List.range q).filter (fun _ => true) = List.range q := by simp
    rw [hft] at hP
    obtain ⟨cs, hcs, hstr⟩ := paired_ones hP
    have hcl : cs.length = q := by rw [hcs]; simp
    clear F3 N3
    repeat boot_fact
    refine join_listW (N8.isList (.head _)) hstr (by decide) ?_ ?_
    · rw [List.map_map]
      have : (cs.map (PySem.Str.length ∘ fun c => (⟨#[c]⟩ : Str))) = cs.map fun _ => 1 := List.map_congr_left fun _ _ => rfl
      rw [this, sum_ones, List.length_map]
      omega
    intro t9 k9
    rw [join_ones]
    repeat boot_fact
    exact ⟨⟨_, _, rfl, by rw [S_len]; omega⟩, _, _, rfl, F8.keep⟩
end

-- part Long
section
open PySem PySem.W PySem.Calls PyProof.Rows PySem.Spec
theorem cell_rows {a b : List Nat} {i j n M : Nat} {vs : Nat → Array Value} {z : Int} {t : Tok} (hrow : ∀ p, p < n → IntsAre (vs p).toList ((List.range M).map fun q => (cell a b i j p q : Int))) (hp : i + 1 < n) (hz : z = (lc a b (i + 1) (j + 1) : Int)) :
    ∀ p, p < n → IntsAre (setRow vs (i + 1) (j + 1) (.int z t) p).toList ((List.range M).map fun q => (cell a b i (j + 1) p q : Int)) := fun p hp' => by
  rw [cell_map hz]
  exact rows_set hrow hp p hp'
theorem law_longest {prog : Program} {w : World} {A : Around} {s : Shared} {x y : Str} {t u : Tok} (O : Ok w s.heap) (C : Calm A 1) (hx : x.length ≤ 1000) (hy : y.length ≤ 1000) :
    Gives prog w A (.ref 292) [.str x t, .str y u] (fun v _ => ∃ t', v = .int (lc x.cps.toList y.cps.toList x.length y.length : Nat) t') s := by
  refine Gives.mk ?_
  refine' enterC (binds := [("one", .str x t), ("other", .str y u)]) (n := 0) O C ?ho ?hcd ?hb ?hl ?hc ?_ ?hco ?hg ?hk
  case ho => k_is
  case hcd => k_is
  case hb => exact BindsTo.of_eq rfl
  case hl => exact rfl
  case hc => decide +kernel
  case hco => rfl
  case hg => rfl
  case hk => rfl
  intro L h₁ tk cells F N Y O1 C1
  obtain ⟨oc, rfl, hoc⟩ := CellsAre.one Y
  replace hoc : oc.data = .cell (some (.str y u)) := hoc
  replace F : Fr s.heap L h₁ (fun z => if z = "one" then some (.str x t) else none) := F
  boot_fact
  refine' listcomp_store (h₀ := s.heap) (x.length + 1) (fun _ => true) (fun lim _ y' h => RowAt lim (List.replicate (y.length + 1) 0) y' h) ?a1 ?a2 ?a3 ?a4 ?a5 ?a6 ?a7 ?a8 ?a9 ?a10 ?_ ?a11
  case a1 => rfl
  case a2 => rfl
  case a3 => decide
  case a4 => rfl
  case a5 => decide
  case a6 => rfl
  case a7 => rfl
  case a8 => rfl
  case a9 => exact fun lim i y' h h' g k => g.above k
  case a10 => exact fun lim i y' h g => g.live
  case a11 => intro _; rfl
  repeat boot_fact
  refine range_it (n := x.length + 1) C1.hh F N (by omega) (by omega) ?_
  intro I St h2 tk2 F2 N2 S2
  have hLs : L < h2.objs.size := nslt F2.ns
  refine ⟨_, _, F2, N2, S2.newL, ⟨⟨I, [I], _, St, rfl, S2.walks, S2.low, by rw [sizeLine_eq]; omega, S2.st, ?_, ?_⟩⟩, ?_⟩
  · intro i v s₃ m₃ hi hv hn hm hk
    exact wpAny_pure ⟨rfl, (Kept.rfl' _).toC hn⟩
  · intro i v s₃ m₃ hi hv _ hn hm hk
    have hk0 : ∀ b o, s.heap.get? b = some o → s₃.heap.get? b = some o := fun b o e => hk b o (fun q => by rw [q, S2.base] at e; cases e) (F2.keep b o e)
    have F3 : Fr s.heap (h2.objs.size + 1) s₃.heap m₃ := ⟨hn, hk0, Nat.le_trans F2.above (Nat.le_succ_of_le (Nat.le_of_lt hLs))⟩
    obtain ⟨all, NA, hall⟩ := allNews s.heap (h2.objs.size + 1) s₃.heap
    have N3 : News s.heap (h2.objs.size + 1) s₃.heap ((L + 1, oc) :: all) := fun q hq => by
      rcases List.mem_cons.mp hq with rfl | hq
      · have hq : (L + 1, oc) ∈ [(L + 1, oc)] := .head _
        exact ⟨hk _ _ (S2.apart _ hq) (N2 _ hq).1, Nat.ne_of_lt (Nat.lt_succ_of_lt (nlt (N2 _ hq).1)), (N2 _ hq).2.2⟩
      · exact NA q hq
    have hall' : ∀ b o, b ≠ h2.objs.size + 1 → s.heap.get? b = none → s₃.heap.get? b = some o → (b, o) ∈ (L + 1, oc) :: all := fun b o x y z => .tail _ (hall b o x y z)
    clear hall NA
    clear F F2 N N2
    repeat boot_fact
    rename Fr _ _ _ _ => F4
    rename News _ _ _ _ => N4
    refine' mul_list ?f ?n ?e0 ?e1 ?e2 ?e3 ?_
    case f => exact F4
    case n => exact N4
    case e0 => exact N4.get (.head _)
    case e1 => omega
    case e2 => omega
    case e3 => simp; omega
    intro h5 F5 N5
    refine ⟨⟨_, _, _, rfl, Nat.succ_le_of_lt (nslt F4.ns), N5.get (.head _), ?_⟩, ⟨_, _, rfl, keptOf F5 N5 hk0 fun b o x y z => .tail _ (.tail _ (hall' b o x y z)), F5.ns⟩, ?_⟩
    · rw [listMul_foldl_if]
      have : ((y.length : Int) + 1).toNat = y.length + 1 := by omega
      rw [this]
      simpa using ints_zeros (y.length + 1) _
    · exact newValOf (keptOf F4 N4 hk0 fun b o x y z => .tail _ (hall' b o x y z)) F4.ns
  · intro h' tk ys k F3 N3 hap hP
    replace F3 : Fr s.heap L h' _ := F3
    replace N3 : News s.heap L h' _ := N3
    dsimp only at F3 N3 hP ⊢
    have hys : (List.range (x.length + 1)).filter (fun _ => true) = List.range (x.length + 1) := by simp
    rw [hys] at hP
    have hL1 : @LT.lt Nat instLTNat (L + 1) h2.objs.size := nlt (N2 (L + 1, oc) (.head _)).1
    obtain ⟨r, vs, kk, eys, inj, hrow, hlim, NR⟩ := rows_of (h₀ := s.heap) (L := L) (Nat.lt_of_lt_of_le hLs (Nat.le_add_right _ 2)) (Nat.le_trans F2.above (Nat.le_trans (Nat.le_of_lt hLs) (Nat.le_add_right _ 2))) hP hap
    obtain ⟨T, hT⟩ : ∃ T, T = h2.objs.size := ⟨_, rfl⟩
    have hTr : ∀ p, p < x.length + 1 → ∀ q ∈ [(T, listOf ys k), (L + 1, oc)], q.1 ≠ r p := by
      intro p hp q hq e
      have h1 := hlim p hp
      rcases List.mem_cons.mp hq with rfl | hq
      · subst hT
        dsimp only at e
        have : @Eq Nat _ _ := e
        omega
      · rw [List.mem_singleton.mp hq] at e
        dsimp only at e
        have : @Eq Nat _ _ := e
        omega
    rw [← hT] at F3 N3
    have NT : News s.heap L h' ([(T, listOf ys k), (L + 1, oc)] ++ rowsLed (x.length + 1) r fun p => listOf (vs p) (kk p)) := fun q hq => by
      rcases List.mem_append.mp hq with hq | hq
      · exact N3 q hq
      · exact NR q hq
    have hyr : ∀ p, p < x.length + 1 → ys.toList[p]? = some (.ref (r p)) := fun p hp => by rw [eys]; simp [hp]
    have hrow : ∀ p, p < x.length + 1 → IntsAre (vs p).toList ((List.range (y.length + 1)).map fun q => (cell x.cps.toList y.cps.toList 0 0 p q : Int)) := by
      intro p hp
      have h1 := hrow p hp
      have : ((List.range (y.length + 1)).map fun q => (cell x.cps.toList y.cps.toList 0 0 p q : Int)) = List.replicate (y.length + 1) 0 := by
        apply List.ext_getElem?
        intro q
        by_cases hq : q < y.length + 1
        · simp [hq, cell_zero]
        · rw [List.getElem?_eq_none (by simp; omega), List.getElem?_eq_none (by simp; omega)]
      rw [this]
      exact h1
    clear hP NR N3 N N2 F F2 hap S2
    have hh := C1.hh
    boot_fact
    refine' For_invV s.heap ?b1 ?b2 ?_ ?b5 ?b6
    case b1 => rfl
    case b2 => rfl
    case b5 => intro _; rfl
    case b6 => passes_own
    repeat boot_fact
    refine' range1_it (n := x.length) hh F3 NT ?e1 (by omega) ?_
    case e1 => omega
    intro I St h4 tk4 F4 N4 S4 hI
    refine loop_src (fun i m news => ∃ vs : Nat → Array Value, news = [(T, listOf ys k), (L + 1, oc)] ++ rowsLed (x.length + 1) r (fun p => listOf (vs p) (kk p)) ∧
      (∀ p, p < x.length + 1 → IntsAre (vs p).toList ((List.range (y.length + 1)).map fun q => (cell x.cps.toList y.cps.toList i 0 p q : Int))) ∧ m "rows" = some (.ref T) ∧ m "one" = some (.str x t)) F4 N4 S4 hI ⟨vs, rfl, hrow, rfl, rfl⟩ ?turn ?done
    case turn =>
      clear hrow N4 F4 S4 F3 NT
      rintro i v m₁ news₁ h tk₁ own hi ⟨tv, rfl⟩ ⟨vs₁, rfl, hrow₁, hm1, hm2⟩ hoff ⟨oI, hoI⟩ hfp F N
      have hmc : (L + 1, oc) ∈ own ++ ([(T, listOf ys k), (L + 1, oc)] ++ rowsLed (x.length + 1) r fun p => listOf (vs₁ p) (kk p)) := List.mem_append_right _ (List.mem_append_left _ (.tail _ (.head _)))
      replace F : Fr s.heap L h _ := F
      replace N : News s.heap L h _ := N
      dsimp only
      boot_fact
      refine' For_invV s.heap ?b1 ?b2 ?_ ?b5 ?b6
      case b1 => rfl
      case b2 => rfl
      case b5 => intro _; rfl
      case b6 => passes_own
      repeat boot_fact
      refine' range1_it (n := y.length) hh F N ?e2 (by omega) ?_
      case e2 => omega
      intro I2 St2 h5 tk5 F5 N5 S5 hI5
      have hadr1 : ∀ p, p < x.length + 1 → ∀ q ∈ own, q.1 ≠ r p := fun p hp q hq e => hoff (r p, _) (List.mem_append_right _ (rowsLed_mem hp)) ((e.symm.trans (List.mem_singleton.mp (hfp q hq))) : r p = I)
      refine loop_src (fun j m news => ∃ vs : Nat → Array Value, news = own ++ ([(T, listOf ys k), (L + 1, oc)] ++ rowsLed (x.length + 1) r (fun p => listOf (vs p) (kk p))) ∧
        (∀ p, p < x.length + 1 → IntsAre (vs p).toList ((List.range (y.length + 1)).map fun q => (cell x.cps.toList y.cps.toList i j p q : Int))) ∧ m "rows" = some (.ref T) ∧ m "one" = some (.str x t) ∧ m "i" = some (.int (1 + (i : Int)) tv)) F5 N5 S5 hI5 ⟨vs₁, rfl, hrow₁, hm1, hm2, rfl⟩ ?turn2 ?done2
      case turn2 =>
        clear hrow₁ N5 F5 S5 F N hm1 hm2 hmc
        rintro j v m₁ news₁ h tk₁ own2 hj ⟨tw, rfl⟩ ⟨vs₁, rfl, hrow₁, hm1, hm2, hm3⟩ hoff2 ⟨oI2, hoI2⟩ hfp2 F N
        replace F : Fr s.heap L h _ := F
        replace N : News s.heap L h _ := N
        dsimp only
        have h1 : ∀ p, p < x.length + 1 → ∀ q ∈ own2 ++ own, q.1 ≠ r p := fun p hp q hq => by
          rcases List.mem_append.mp hq with hq | hq
          · exact fun e => hoff2 (r p, _) (List.mem_append_right _ (List.mem_append_right _ (rowsLed_mem hp))) ((e.symm.trans (List.mem_singleton.mp (hfp2 q hq))) : r p = I2)
          · exact hadr1 p hp q hq
        rw [← List.append_assoc] at N
        have hmT : (T, listOf ys k) ∈ (own2 ++ own) ++ ([(T, listOf ys k), (L + 1, oc)] ++ rowsLed (x.length + 1) r fun p => listOf (vs₁ p) (kk p)) := List.mem_append_right _ (List.mem_append_left _ (.head _))
        have hmR : ∀ p, p < x.length + 1 → (r p, listOf (vs₁ p) (kk p)) ∈ (own2 ++ own) ++ ([(T, listOf ys k), (L + 1, oc)] ++ rowsLed (x.length + 1) r fun p => listOf (vs₁ p) (kk p)) := fun p hp => List.mem_append_right _ (List.mem_append_right _ (rowsLed_mem hp))
        have hmc : (L + 1, oc) ∈ (own2 ++ own) ++ ([(T, listOf ys k), (L + 1, oc)] ++ rowsLed (x.length + 1) r fun p => listOf (vs₁ p) (kk p)) := List.mem_append_right _ (List.mem_append_left _ (.tail _ (.head _)))
        repeat boot_fact
        refine' read_str (k := i) ?u1 (by omega) (by omega) ?_ ?u2 ?u3
        case u1 => omega
        case u2 => with_unfolding_all rfl
        case u3 => intro _; with_unfolding_all rfl
        repeat boot_fact
        refine' read_str (k := j) ?u4 (by omega) (by omega) ?_ ?u5 ?u6
        case u4 => omega
        case u5 => with_unfolding_all rfl
        case u6 => intro _; with_unfolding_all rfl
        repeat boot_fact
        have hch := chars_eq (x := x) (y := y) hi hj
        refine PyProof.Rows.split_bool (fun heq => ?_) (fun hne => ?_)
        · have heq := hch.mp (by simpa using heq)
          repeat boot_fact
          refine read_ref N hmT (k := i) (by omega) (by omega) (hyr i (by omega)) ?_
          repeat boot_fact
          refine read_int N (hmR i (by omega)) (hrow₁ i (by omega)) (k := j) (by omega) (by omega) (by omega) (fun t3 => ?_)
          repeat boot_fact
          refine read_ref N hmT (k := i + 1) (by omega) (by omega) (hyr (i + 1) (by omega)) ?_
          repeat boot_fact
          refine set_rows (q := j + 1) F N hrow₁ (p := i + 1) (by omega) inj (h1 (i + 1) (by omega)) (hTr (i + 1) (by omega)) (by omega) (by omega) (by omega) (fun h4 F4 N4 => ?_)
          repeat boot_fact
          refine LoopStepU.intro F4 (by rw [List.append_assoc] at N4; exact N4) ?_ ⟨_, rfl, ?_, hm1, hm2, hm3⟩
          · intro p hp hm
            rcases List.mem_append.mp hp with hp | hp
            · exact hoff2 p (List.mem_append_left _ hp) (List.mem_singleton.mp hm)
            · rcases List.mem_append.mp hp with hp | hp
              · exact hoff2 p (List.mem_append_right _ (List.mem_append_left _ hp)) (List.mem_singleton.mp hm)
              · obtain ⟨p', hp', rfl⟩ := List.mem_map.mp hp
                exact hoff2 (r p', _) (List.mem_append_right _ (List.mem_append_right _ (rowsLed_mem (List.mem_range.mp hp')))) (List.mem_singleton.mp hm)
          · exact cell_rows hrow₁ (Nat.succ_lt_succ hi) (by rw [cell_old, lc_succ, if_pos heq]; rfl)
        · have hne : ¬ x.cps.toList[i]? = y.cps.toList[j]? := fun e => by have := hch.mpr e; rw [this, beq_self_eq_true] at hne; cases hne
          repeat boot_fact
          refine read_ref N hmT (k := i) (by omega) (by omega) (hyr i (by omega)) ?_
          repeat boot_fact
          refine read_int N (hmR i (by omega)) (hrow₁ i (by omega)) (k := j + 1) (by omega) (by omega) (by omega) (fun t4 => ?_)
          repeat boot_fact
          refine read_ref N hmT (k := i + 1) (by omega) (by omega) (hyr (i + 1) (by omega)) ?_
          repeat boot_fact
          refine read_int N (hmR (i + 1) (by omega)) (hrow₁ (i + 1) (by omega)) (k := j) (by omega) (by omega) (by omega) (fun t3 => ?_)
          repeat boot_fact
          refine max_two_N hh F N fun h4 tk4 F4 N4 => ?_
          repeat boot_fact
          refine read_ref N4 hmT (k := i + 1) (by omega) (by omega) (hyr (i + 1) (by omega)) ?_
          repeat boot_fact
          refine set_rows (q := j + 1) F4 N4 hrow₁ (p := i + 1) (by omega) inj (h1 (i + 1) (by omega)) (hTr (i + 1) (by omega)) (by omega) (by omega) (by omega) (fun h4 F4 N4 => ?_)
          repeat boot_fact
          refine LoopStepU.intro F4 (by rw [List.append_assoc] at N4; exact N4) ?_ ⟨_, rfl, ?_, hm1, hm2, hm3⟩
          · intro p hp hm
            rcases List.mem_append.mp hp with hp | hp
            · exact hoff2 p (List.mem_append_left _ hp) (List.mem_singleton.mp hm)
            · rcases List.mem_append.mp hp with hp | hp
              · exact hoff2 p (List.mem_append_right _ (List.mem_append_left _ hp)) (List.mem_singleton.mp hm)
              · obtain ⟨p', hp', rfl⟩ := List.mem_map.mp hp
                exact hoff2 (r p', _) (List.mem_append_right _ (List.mem_append_right _ (rowsLed_mem (List.mem_range.mp hp')))) (List.mem_singleton.mp hm)
          · exact cell_rows hrow₁ (Nat.succ_lt_succ hi) (by
              rw [cell_old, cell_left, lc_succ, if_neg hne]
              split <;> omega)
      case done2 =>
        rintro m4 news4 h4 tk4 ⟨vs4, rfl, hrow4, e1, e2, e3⟩ F4 N4
        replace F4 : Fr s.heap L h4 _ := F4
        replace N4 : News s.heap L h4 _ := N4
        dsimp only
        repeat boot_fact
        refine LoopStepU.intro F4 N4 ?_ ⟨_, rfl, ?_, e1, e2⟩
        · intro p hp hm
          rcases List.mem_append.mp hp with hp | hp
          · exact hoff p (List.mem_append_left _ hp) (List.mem_singleton.mp hm)
          · obtain ⟨p', hp', rfl⟩ := List.mem_map.mp hp
            exact hoff (r p', _) (List.mem_append_right _ (rowsLed_mem (List.mem_range.mp hp'))) (List.mem_singleton.mp hm)
        · intro p hp
          rw [cell_map_turn]
          exact hrow4 p hp
    case done =>
      rintro m4 news4 h4 tk4 ⟨vs4, rfl, hrow4, e1, e2⟩ F4 N4
      replace F4 : Fr s.heap L h4 _ := F4
      replace N4 : News s.heap L h4 _ := N4
      dsimp only
      have hmT : (T, listOf ys k) ∈ [(T, listOf ys k), (L + 1, oc)] ++ rowsLed (x.length + 1) r fun p => listOf (vs4 p) (kk p) := List.mem_append_left _ (.head _)
      have hmR : ∀ p, p < x.length + 1 → (r p, listOf (vs4 p) (kk p)) ∈ [(T, listOf ys k), (L + 1, oc)] ++ rowsLed (x.length + 1) r fun p => listOf (vs4 p) (kk p) := fun p hp => List.mem_append_right _ (rowsLed_mem hp)
      have hmc : (L + 1, oc) ∈ [(T, listOf ys k), (L + 1, oc)] ++ rowsLed (x.length + 1) r fun p => listOf (vs4 p) (kk p) := List.mem_append_left _ (.tail _ (.head _))
      repeat boot_fact
      refine read_ref N4 hmT (k := x.length) (by omega) (by omega) (hyr x.length (by omega)) ?_
      repeat boot_fact
      refine read_int N4 (hmR x.length (by omega)) (hrow4 x.length (by omega)) (k := y.length) (by omega) (by omega) (by omega) (fun t3 => ?_)
      repeat boot_fact
      exact ⟨⟨t3, congrArg (fun z : Nat => Value.int (z : Int) t3) (cell_full _ _ _ _ _ (Nat.le_refl _))⟩, _, _, rfl, F4.keep⟩
end

-- part EnumT
section
open PySem PySem.W PySem.Calls PyProof.Rows PySem.Spec
/-! enumerate over a tuple -/
section
variable {prog : Program} {w : World}
/-- what the inner iterator does at its next item -/
abbrev Hands (prog : Program) (w : World) (it : Addr) (x : Value) (J : Heap → Prop) (s : Shared) : Prop :=
  ∀ (A : Around) (E : Value → Shared → Prop) (Q : Value → Shared → Prop), (∀ h', J h' → Heap.SameBut it s.heap h' → Q x { s with heap := h' }) → wpAny (model prog w) A (Builtin.SmallTypes.nextOf (.ref it)) Q E s
theorem enum_step {A : Around} {E : Value → Shared → Prop} {s : Shared} {e it : Addr} {i : Nat} {x old : Value} {J : Heap → Prop} {Q : Value → Shared → Prop} (he : IsEnum s.heap e it i old) (hne : e ≠ it) (hn : Hands prog w it x J s) (hJ : ∀ h h', J h → Heap.ExtBut e h h' → J h')
    (hQ : ∀ h', IsEnumOut h' e it ((i : Int) + 1) x s.heap.objs.size → J h' → h'.get? s.heap.objs.size = some { cls := .type "tuple", data := .seq #[.int i s.toks, x] } → h'.objs.size = s.heap.objs.size + 1 →
      (∀ b o, b ≠ e → b ≠ it → s.heap.get? b = some o → h'.get? b = some o) → Q (.ref s.heap.objs.size) { s with heap := h', toks := s.toks + 1 }) :
    wpAny (model prog w) A (Builtin.«enumerate.__next__» ⟨[.ref e], []⟩) (fun fin s' => ∃ v, fin = .done (.ret v) ∧ Q v s') E s := by
  obtain ⟨hp, g, d, tk, os⟩ := s
  show wpAny _ _ (field (.ref e) 2 >>= _) _ _ _
  refine wpAny_bind (wpAny_field he rfl (x := .ref it) rfl ?_)
  refine wpAny_bind (hn _ _ _ fun h1 j1 c1 => ?_)
  replace c1 : Heap.SameBut it hp h1 := c1
  have e1 : IsEnum h1 e it i old := (c1.2 e hne).trans he
  show wpAny _ _ (field (.ref e) 3 >>= _) _ _ ⟨h1, g, d, tk, os⟩
  refine wpAny_bind (wpAny_field e1 rfl (x := rawInt i) rfl ?_)
  show wpAny _ _ (field (.ref e) 4 >>= _) _ _ ⟨h1, g, d, tk, os⟩
  refine wpAny_bind (wpAny_field e1 rfl (x := .none) rfl ?_)
  show wpAny _ _ (mkInt i >>= _) _ _ ⟨h1, g, d, tk, os⟩
  refine wpAny_bind (wpAny_mkInt ?_)
  show wpAny _ _ (setField (.ref e) 3 (rawInt ((i : Int) + 1)) >>= _) _ _ ⟨h1, g, d, tk + 1, os⟩
  refine wpAny_bind (wpAny_setField_rec e1 (by simp) fun h2 e2 c2 => ?_)
  replace c2 : Heap.SameBut e h1 h2 := c2
  replace e2 : IsEnum h2 e it ((i : Int) + 1) old := e2
  show wpAny _ _ (setField (.ref e) 4 .none >>= _) _ _ ⟨h2, g, d, tk + 1, os⟩
  refine wpAny_bind (wpAny_setField_rec e2 (by simp) fun h3 e3 c3 => ?_)
  replace c3 : Heap.SameBut e h2 h3 := c3
  replace e3 : IsEnum h3 e it ((i : Int) + 1) old := e3
  have j3 : J h3 := hJ _ _ (hJ _ _ j1 c2.extBut) c3.extBut
  have hsz : h3.objs.size = hp.objs.size := by rw [c3.1, c2.1, c1.1]
  have hel : e < hp.objs.size := Heap.lt_size he
  have k3 : ∀ b o, b ≠ e → b ≠ it → hp.get? b = some o → h3.get? b = some o := fun b o p q r => c3.extBut b o p (c2.extBut b o p (c1.extBut b o q r))
  clear e2 e1 j1
  show wpAny _ _ (newTuple [.int i tk, x] >>= _) _ _ ⟨h3, g, d, tk + 1, os⟩
  refine wpAny_bind (wpAny_newTuple ?_)
  have e4 : IsEnum (h3.push { cls := .type "tuple", data := .seq #[.int i tk, x] }) e it ((i : Int) + 1) old := Heap.get?_push_of_some _ e3
  have j4 : J (h3.push { cls := .type "tuple", data := .seq #[.int i tk, x] }) := hJ _ _ j3 fun b o _ q => Heap.get?_push_of_some _ q
  have t4 : (h3.push { cls := .type "tuple", data := .seq #[.int i tk, x] }).get? hp.objs.size = some { cls := .type "tuple", data := .seq #[.int i tk, x] } := by rw [← hsz]; exact Heap.get?_push_size _ rfl
  have z4 : (h3.push { cls := .type "tuple", data := .seq #[.int i tk, x] }).objs.size = hp.objs.size + 1 := by rw [Heap.size_push, hsz]
  have k4 : ∀ b o, b ≠ e → b ≠ it → hp.get? b = some o → (h3.push { cls := .type "tuple", data := .seq #[.int i tk, x] }).get? b = some o := fun b o p q r => Heap.get?_push_of_some _ (k3 b o p q r)
  rw [hsz]
  generalize h3.push { cls := .type "tuple", data := .seq #[.int i tk, x] } = h4 at e4 j4 t4 z4 k4
  clear k3 j3 e3 c3 c2 c1 hsz
  show wpAny _ _ (Builtin.SmallTypes.ownedTupleIsFree (.ref e) >>= _) _ _ ⟨h4, g, d, tk + 1, os⟩
  refine wpAny_bind ?_
  unfold Builtin.SmallTypes.ownedTupleIsFree
  refine wpAny_bind (wpAny_field e4 rfl (x := .none) rfl (wpAny_pure ?_))
  simp only [if_true]
  refine wpAny_bind (wpAny_rule ?_)
  refine wpAny_bind (wpAny_field e4 rfl (x := old) rfl ?_)
  refine wpAny_bind (wpAny_setField_rec e4 (by simp) fun h5 e5 c5 => ?_)
  replace c5 : Heap.SameBut e h4 h5 := c5
  replace e5 : IsEnum h5 e it ((i : Int) + 1) x := e5
  show wpAny _ _ (Builtin.SmallTypes.ownedTupleHandOut (.ref e) (.ref hp.objs.size) >>= _) _ _ ⟨h5, g, d, tk + 1, os⟩
  refine wpAny_bind ?_
  unfold Builtin.SmallTypes.ownedTupleHandOut
  refine wpAny_bind (wpAny_setField_rec e5 (by simp) fun h6 e6 c6 => ?_)
  replace c6 : Heap.SameBut e h5 h6 := c6
  replace e6 : IsEnumOut h6 e it ((i : Int) + 1) x hp.objs.size := e6
  refine wpAny_setField_rec e6 (by simp) fun h7 e7 c7 => ?_
  replace c7 : Heap.SameBut e h6 h7 := c7
  replace e7 : IsEnumOut h7 e it ((i : Int) + 1) x hp.objs.size := e7
  have up : ∀ b o, b ≠ e → h4.get? b = some o → h7.get? b = some o := fun b o p q => c7.extBut b o p (c6.extBut b o p (c5.extBut b o p q))
  refine wpAny_bind (wpAny_letGo (wpAny_pure ⟨_, rfl, hQ h7 e7 (hJ _ _ j4 up) (up _ _ (Nat.ne_of_gt hel) t4) ?_ fun b o p q r => up b o p (k4 b o p q r)⟩))
  rw [c7.1, c6.1, c5.1, z4]
theorem enum_tuple_item {A : Around} {E : Value → Shared → Prop} {s : Shared} {e it D : Addr} {i : Nat} {items : Array Value} {x old : Value} {Q : Option Value → Shared → Prop}
    (he : IsEnum s.heap e it i old) (hit : s.heap.IsTupleIter it D i) (hl : s.heap.IsTuple D items) (hx : items[i]? = some x) (hne : e ≠ it) (hDe : D ≠ e) (hDi : D ≠ it)
    (hQ : ∀ h', IsEnumOut h' e it ((i : Int) + 1) x s.heap.objs.size → h'.IsTupleIter it D (i + 1) ∧ h'.IsTuple D items → h'.get? s.heap.objs.size = some { cls := .type "tuple", data := .seq #[.int i s.toks, x] } → h'.objs.size = s.heap.objs.size + 1 →
      (∀ b o, b ≠ e → b ≠ it → s.heap.get? b = some o → h'.get? b = some o) → Q (some (.ref s.heap.objs.size)) { s with heap := h', toks := s.toks + 1 }) :
    wpAny (model prog w) A (pyNext (.ref e)) Q E s := by
  have hT : s.TypeIs (.ref e) "enumerate" := ⟨_, he, rfl⟩
  unfold pyNext
  refine wpAny_bind (wpAny_attempt (wpAny_callSpecial?_slot (name := Str.ofString "__next__") hT F.slot_enumerate_next
    (wpAny_call_entry F.slot_enumerate_next hT F.entry_enumerate_next
      (enum_step (J := fun h => h.IsTupleIter it D (i + 1) ∧ h.IsTuple D items) he hne (fun A' E' Q' q => nextOf_tuple_item hit hl hx fun h' a c => q h' ⟨a, hl.at fun o y => (c.2 D hDi).trans y⟩ c) (fun h h' j c => ⟨j.1.at fun o y => c it o (Ne.symm hne) y, j.2.at fun o y => c D o hDe y⟩)
        fun h' a b c d k => wpAny_pure (hQ h' a b c d k)) (F.args_enumerate_next_1 _))))
theorem enum_tuple_end {A : Around} {E : Value → Shared → Prop} {s : Shared} {e it D : Addr} {i : Nat} {items : Array Value} {old : Value} {Q : Option Value → Shared → Prop} (hh : A.handled = none)
    (he : IsEnum s.heap e it i old) (hit : s.heap.IsTupleIter it D i) (hl : s.heap.IsTuple D items) (hx : items[i]? = none)
    (hQ : ∀ h', Heap.ExtBut it s.heap h' → Q none { s with heap := h' }) : wpAny (model prog w) A (pyNext (.ref e)) Q E s := by
  have hT : s.TypeIs (.ref e) "enumerate" := ⟨_, he, rfl⟩
  unfold pyNext
  refine wpAny_bind (wpAny_attempt (wpAny_callSpecial?_slot (name := Str.ofString "__next__") hT F.slot_enumerate_next
    (wpAny_call_entry F.slot_enumerate_next hT F.entry_enumerate_next ?_ (F.args_enumerate_next_1 _))))
  show wpAny _ _ (field (.ref e) 2 >>= _) _ _ _
  refine wpAny_bind (wpAny_field he rfl (x := .ref it) rfl ?_)
  refine wpAny_bind (nextOf_tuple_end hh hit hl hx fun h' x he' hx' => ?_)
  obtain ⟨o, ho, hc⟩ := hx'
  refine wpAny_bind (wpAny_isInstance (T := "StopIteration") (b := true) ⟨o, ho, hc⟩ isSubtype_stop ?_)
  exact wpAny_pure (hQ _ he')
theorem walks_enumT {A : Around} (hh : A.handled = none) (e it D : Addr) (hei : e ≠ it) (hDe : D ≠ e) (hDi : D ≠ it) (items : Array Value) :
    WalksT prog w A e [e, it, D] [e, it] items.size (fun i vals => ∃ t x, items[i]? = some x ∧ vals = #[.int i t, x])
      (fun i h => (∃ old, IsEnum h e it i old) ∧ h.IsTupleIter it D i ∧ h.IsTuple D items)
      (fun i T h => (∃ x, IsEnumOut h e it ((i : Int) + 1) x T) ∧ h.IsTupleIter it D (i + 1) ∧ h.IsTuple D items ∧ T ≠ e ∧ T ≠ it) where
  sub := fun b hb => by
    rcases List.mem_cons.mp hb with rfl | hb
    · simp
    · rw [List.mem_singleton.mp hb]; simp
  frame := fun i h h' st hk => by
    obtain ⟨⟨old, a⟩, b, c⟩ := st
    exact ⟨⟨old, hk e (by simp) _ a⟩, b.at fun o x => hk it (by simp) o x, c.at fun o x => hk D (by simp) o x⟩
  item := fun i s Q E hi st hQ => by
    obtain ⟨⟨old, a⟩, b, c⟩ := st
    have hx : items[i]? = some items[i] := Array.getElem?_eq_getElem hi
    have h1 : e < s.heap.objs.size := Heap.lt_size a
    have h2 : it < s.heap.objs.size := by obtain ⟨_, x, _⟩ := b; exact Heap.lt_size x
    refine enum_tuple_item a b c hx hei hDe hDi fun h' p q t z k => ?_
    exact hQ s.heap.objs.size #[.int i s.toks, items[i]] h' (s.toks + 1) ⟨_, _, hx, rfl⟩ (Nat.le_refl _) ⟨_, t, rfl, _, rfl⟩ ⟨⟨_, p⟩, q.1, q.2, Nat.ne_of_gt h1, Nat.ne_of_gt h2⟩
      fun b o hb y => k b o (fun r => hb (by simp [r])) (fun r => hb (by simp [r])) y
  go := fun elts k pos i T s Q E st hQ => by
    obtain ⟨⟨x, a⟩, b, c, _, _⟩ := st
    refine wpAny_letOwnedTupleGo_enum a fun h' p q => hQ h' ⟨⟨x, by simpa using p⟩, b.at fun o y => (q.2 it hei.symm).trans y, c.at fun o y => (q.2 D hDe).trans y⟩ fun b o hb y => ?_
    exact (q.2 b fun r => hb (by simp [r])).trans y
  apart := fun i T h st hT => by
    obtain ⟨_, _, _, a, b⟩ := st
    rcases List.mem_cons.mp hT with rfl | hT
    · exact a rfl
    · exact b (List.mem_singleton.mp hT)
  done := fun s Q E st hQ => by
    obtain ⟨⟨old, a⟩, b, c⟩ := st
    exact enum_tuple_end hh a b c (Array.getElem?_eq_none (Nat.le_refl _)) fun h' x => hQ h' s.toks fun b o hb y => x b o (fun r => hb (by simp [r])) y
  self := fun i s Q E st hQ => by
    obtain ⟨⟨old, a⟩, _, _⟩ := st
    exact wpAny_pyIter_enum a hQ
theorem meets_enum_tuple (D : Addr) (items : Array Value) (n : Nat) (dct : Option Addr) (sl : Array (Option Value)) :
    Meets (Builtin.«enumerate.__new__» ⟨[.type "enumerate", .ref D], []⟩) (fun _ R s => s.heap.get? D = some { cls := .type "tuple", dict := dct, data := .seq items n, slots := sl } ∧
      R (.ok (.ret (.ref (s.heap.push { cls := .type "tuple_iterator", data := .fields #[.ref D, .int 0 0] }).objs.size)))
        { s with heap := (s.heap.push { cls := .type "tuple_iterator", data := .fields #[.ref D, .int 0 0] }).push { cls := .type "enumerate", data := .fields #[.none, .bool false, .ref s.heap.objs.size, rawInt 0, .none, .none] } }) :=
  .of_wp fun prog w A R s h => by
    obtain ⟨hp, g, d, tk, os⟩ := s; obtain ⟨hl, h⟩ := h
    have hsub := sub_enumerate
    have hL : Heap.IsTuple (Shared.heap ⟨hp, g, d, tk, os⟩) D items := ⟨_, hl, rfl, n, rfl⟩
    wp_delta; (with_reducible refine PySem.wpAny_bind ?_); wp_delta; (with_reducible refine PySem.wpAny_bind ?_)
    wp_delta; (with_reducible refine PySem.wpAny_pure ?_); (with_reducible apply PySem.wpAny_ite_false); rfl; (with_reducible refine PySem.wpAny_bind ?_)
    (with_reducible refine PySem.wpAny_of_eq (by assumption) ?_); (with_reducible apply PySem.wpAny_ite_false); rfl; (with_reducible refine PySem.wpAny_pure ?_); (with_reducible apply PySem.wpAny_ite_true); rfl
    (with_reducible refine PySem.wpAny_bind ?_); wp_delta; (with_reducible refine PySem.wpAny_bind ?_)
    refine wpAny_stack_any fun st => wpAny_pure ?_
    split
    · rename_i c _ _ _ _ _
      cases (c == Value.type "enumerate")
      · (with_reducible apply PySem.wpAny_ite_false); rfl; (with_reducible refine PySem.wpAny_bind ?_); wp_delta; (with_reducible apply PySem.wpAny_ite_false); rfl
        wp_delta; (with_reducible apply PySem.wpAny_ite_false); rfl; wp_delta; (with_reducible refine PySem.wpAny_pure ?_)
        wp_delta; (with_reducible refine PySem.wpAny_bind ?_); (with_reducible refine wpAny_pyIter_tuple hL ?_); (with_reducible refine PySem.wpAny_bind ?_)
        wp_delta; wp_delta; (with_reducible apply PySem.wpAny_ite_false); rfl; wp_delta
        wp_delta; (with_reducible refine PySem.wpAny_bind ?_); (with_reducible refine PySem.wpAny_alloc' ?_); (with_reducible refine PySem.wpAny_pure ?_)
        wp_delta; (with_reducible refine PySem.wpAny_pure ?_)
        exact ⟨_, rfl, h⟩
      · (with_reducible apply PySem.wpAny_ite_true); rfl; (with_reducible refine PySem.wpAny_bind ?_); wp_delta; (with_reducible refine PySem.wpAny_pure ?_)
        (with_reducible refine PySem.wpAny_bind ?_); (with_reducible refine wpAny_pyIter_tuple hL ?_); (with_reducible refine PySem.wpAny_bind ?_); wp_delta
        wp_delta; (with_reducible apply PySem.wpAny_ite_false); rfl; wp_delta; wp_delta
        (with_reducible refine PySem.wpAny_bind ?_); (with_reducible refine PySem.wpAny_alloc' ?_); (with_reducible refine PySem.wpAny_pure ?_); wp_delta
        (with_reducible refine PySem.wpAny_pure ?_)
        exact ⟨_, rfl, h⟩
    · (with_reducible apply PySem.wpAny_ite_false); rfl; (with_reducible refine PySem.wpAny_bind ?_); wp_delta; (with_reducible apply PySem.wpAny_ite_false); rfl
      wp_delta; (with_reducible apply PySem.wpAny_ite_false); rfl; wp_delta; (with_reducible refine PySem.wpAny_pure ?_)
      wp_delta; (with_reducible refine PySem.wpAny_bind ?_); (with_reducible refine wpAny_pyIter_tuple hL ?_); (with_reducible refine PySem.wpAny_bind ?_)
      wp_delta; wp_delta; (with_reducible apply PySem.wpAny_ite_false); rfl; wp_delta
      wp_delta; (with_reducible refine PySem.wpAny_bind ?_); (with_reducible refine PySem.wpAny_alloc' ?_); (with_reducible refine PySem.wpAny_pure ?_)
      wp_delta; (with_reducible refine PySem.wpAny_pure ?_)
      exact ⟨_, rfl, h⟩
abbrev itT (D : Addr) (i : Nat) : Obj := { cls := .type "tuple_iterator", data := .fields #[.ref D, .int i 0] }
theorem call_enum_tuple {A : Around} {E : Value → Shared → Prop} {s : Shared} {h₀ : Heap} {L : Addr} {m : Str → Option Value} {news : List (Addr × Obj)} {D : Addr} {vs : List Value} {Q : Value → Shared → Prop} (F : Fr h₀ L s.heap m) (N : News h₀ L s.heap news) (hm : (D, tupObj vs) ∈ news)
    (h : ∀ e it h', Fr h₀ L h' m → News h₀ L h' news → IsEnum h' e it 0 .none → h'.IsTupleIter it D 0 → h'.IsTuple D vs.toArray → e ≠ it → e ≠ L → it ≠ L → h₀.get? e = none → h₀.get? it = none → (∀ q ∈ news, q.1 ≠ e ∧ q.1 ≠ it) → Q (.ref e) { s with heap := h' }) :
    wpAny (model prog w) A (call (.type "enumerate") [.ref D]) Q E s := by
  refine callType_new PySem.F.called_enumerate (by decide) (PySem.F.typeCall_enumerate_1 _) (PySem.F.newCall_enumerate_1 _) (fun obj => PySem.F.args_object_init_2 obj _) PySem.F.entry_enumerate_new (meets_enum_tuple D vs.toArray 0 none #[]) ⟨(N _ hm).1, ?_⟩
  have e1 : (s.heap.push { cls := Value.type "tuple_iterator", data := Data.fields #[Value.ref D, Value.int 0 0] }).objs.size = s.heap.objs.size + 1 := Heap.size_push _ _
  have F1 := F.push { cls := Value.type "tuple_iterator", data := Data.fields #[Value.ref D, Value.int 0 0] }
  have N1 := N.push F { cls := Value.type "tuple_iterator", data := Data.fields #[Value.ref D, Value.int 0 0] }
  have F2 := F1.push { cls := .type "enumerate", data := .fields #[.none, .bool false, .ref s.heap.objs.size, rawInt 0, .none, .none] }
  have N2 := N1.push F1 { cls := .type "enumerate", data := .fields #[.none, .bool false, .ref s.heap.objs.size, rawInt 0, .none, .none] }
  have he := (N2 _ (.head _))
  rw [e1] at he N2
  refine ⟨⟨_, Heap.get?_push_size _ rfl, rfl⟩, ?_⟩
  rw [e1]
  have hne : ∀ q ∈ news, q.1 ≠ s.heap.objs.size + 1 ∧ q.1 ≠ s.heap.objs.size := fun q hq => ⟨Nat.ne_of_lt (Nat.lt_succ_of_lt (nlt (N q hq).1)), Nat.ne_of_lt (nlt (N q hq).1)⟩
  exact h (s.heap.objs.size + 1) s.heap.objs.size _ F2 (fun q hq => N2 q (.tail _ (.tail _ hq))) (N2 _ (.head _)).1 ⟨_, (N2 _ (.tail _ (.head _))).1, rfl, rfl⟩ ⟨_, (N2 _ (.tail _ (.tail _ hm))).1, rfl, _, rfl⟩ (Nat.succ_ne_self _)
    (N2 _ (.head _)).2.1 (N2 _ (.tail _ (.head _))).2.1 (N2 _ (.head _)).2.2 (N2 _ (.tail _ (.head _))).2.2 hne
end
end

-- part Slices
section
open PySem PySem.W PySem.Calls PyProof.Rows PySem.Spec
/-! pieces of texts and of tuples -/
theorem cut_to (x : Str) (j : Int) (e : Nat) (he : e ≤ x.length) (h : max 0 (min (if j < 0 then j + (x.length : Int) else j) (x.length : Int)) = (e : Int)) : Txt.slice x none (some j) = S (x.cps.toList.take e) := by
  have h2 : max 0 (min (if (e : Int) < 0 then (e : Int) + (x.length : Int) else (e : Int)) (x.length : Int)) = (e : Int) := by
    rw [if_neg (by omega)]; omega
  have key : Builtin.Str.strSliceIndices none (some j) 1 x.length = Builtin.Str.strSliceIndices none (some (e : Int)) 1 x.length := by
    unfold Builtin.Str.strSliceIndices
    simp only [show (1 : Int) > 0 by decide, if_true]
    rw [h, h2]
  have h3 : Txt.slice x none (some j) = Txt.slice x none (some (e : Int)) := by
    unfold Txt.slice
    rw [key]
  rw [h3]
  have := slice_closes_toL (x := x) (j := (e : Int)) (by omega) (by omega)
  rw [eq_of_beq this]
  simp [S]
theorem cut_last (x : Str) : Txt.slice x none (some (-1)) = S x.cps.toList.dropLast := by
  have hl : x.cps.toList.length = x.length := by show _ = x.cps.size; simp
  rw [cut_to x (-1) (x.length - 1) (by omega) (by rw [if_pos (by decide)]; omega), List.dropLast_eq_take, hl]
theorem cut_none (x : Str) : Txt.slice x none (some 0) = S [] := by
  rw [cut_to x 0 0 (by omega) (by rw [if_neg (by decide)]; omega)]
  simp
theorem cut_two (x : Str) : Txt.slice x none (some 2) = S (x.cps.toList.take 2) := by
  have hl : x.cps.toList.length = x.length := by show _ = x.cps.size; simp
  rw [cut_to x 2 (min 2 x.length) (by omega) (by rw [if_neg (by decide)]; omega)]
  congr 1
  rcases Nat.le_total 2 x.length with h | h
  · rw [Nat.min_eq_left h]
  · rw [Nat.min_eq_right h, List.take_of_length_le (by omega), List.take_of_length_le (by omega)]
theorem item_last {x : Str} (h : 0 < x.length) : Txt.item x (-1) = ⟨#[x.cps.getD (x.length - 1) 0]⟩ := by
  have hl : x.length = x.cps.size := rfl
  have h3 : seqIndex? (-1) x.length = some (x.length - 1) := by
    unfold seqIndex?
    have h1 : ((-1 : Int) < 0) := by decide
    simp only [h1, if_true]
    have : (0 ≤ (-1 : Int) + (x.length : Int) && decide ((-1 : Int) + (x.length : Int) < x.length)) = true := by simp; omega
    rw [this]
    simp
    omega
  unfold Txt.item Txt.charAt
  rw [h3]
  simp [Array.getD_eq_getD_getElem?]
section
variable {prog : Program} {w : World} {A : Around} {E : Value → Shared → Prop} {s : Shared} {h₀ : Heap} {L : Addr} {m : Str → Option Value} {news : List (Addr × Obj)}
theorem upto_applied {sl : Addr} {a n : Nat} {u : Tok} {Q : Int × Int × Nat → Shared → Prop} (hs : s.heap.IsSliceOf sl .none (.int a u) .none) (ha : a ≤ n) (h : Q (0, 1, a) s) :
    wpAny (model prog w) A (Builtin.Slice.sliceApplied (.ref sl) (pure (n : Int))) Q E s := by
  obtain ⟨os, hos, hcs, hds⟩ := id hs
  have e1 : Builtin.Slice.sliceAdjust none (some (a : Int)) 1 (n : Int) = (0, (a : Int)) := by
    unfold Builtin.Slice.sliceAdjust
    have h1 : ¬ ((1 : Int) < 0) := by omega
    have h2 : ¬ ((a : Int) < 0) := by omega
    simp only [h1, h2, if_false]
    congr 1
    omega
  have e2 : Builtin.Slice.slicePlaces 0 (a : Int) 1 = a := by
    unfold Builtin.Slice.slicePlaces
    have h1 : (1 : Int) > 0 := by omega
    simp only [h1, if_true, Int.ediv_one]
    split <;> omega
  unfold Builtin.Slice.sliceApplied Builtin.Slice.sliceFields
  refine wpAny_bind (wpAny_bind (wpAny_field hos hds (x := .none) rfl (wpAny_bind (wpAny_field hos hds (x := .int a u) rfl (wpAny_bind (wpAny_field hos hds (x := .none) rfl (wpAny_pure ?_)))))))
  refine wpAny_bind (slicePart_none ?_)
  show wpAny _ _ (if ((1 : Int) == 0) = true then _ else _) _ _ s
  rw [if_neg (by decide)]
  refine wpAny_bind (slicePart_none (wpAny_bind (slicePart_int (wpAny_bind (wpAny_pure ?_)))))
  show wpAny _ _ (match Builtin.Slice.sliceAdjust none (some (a : Int)) 1 (n : Int) with | (lo, hi) => pure (lo, (1 : Int), Builtin.Slice.slicePlaces lo hi 1)) _ _ s
  rw [e1]
  show wpAny _ _ (pure ((0 : Int), (1 : Int), Builtin.Slice.slicePlaces 0 (a : Int) 1)) _ _ s
  rw [e2]
  exact wpAny_pure h
theorem upto_pick (xs : Array Value) (a : Nat) : ((List.range a).filterMap fun (k : Nat) => xs[((0 : Int) + (k : Int) * 1).toNat]?).toArray = (xs.toList.take a).toArray := by
  congr 1
  apply List.ext_getElem?
  intro i
  have e : (fun (k : Nat) => xs[((0 : Int) + (k : Int) * 1).toNat]?) = fun k => xs[k]? := by
    funext k
    have : ((0 : Int) + (k : Int) * 1).toNat = k := by omega
    rw [this]
  rw [e]
  have := pick_run xs 0 a
  rw [List.filterMap_map] at this
  have e2 : ((fun x => xs[x]?) ∘ fun x => 0 + x) = fun k => xs[k]? := by funext k; simp
  rw [e2] at this
  rw [this]
  simp
theorem upto_tuple {t sl : Addr} {items : Array Value} {a : Nat} {u : Tok} {Q : Value → Shared → Prop} (ht : IsTup s.heap t items) (hs : s.heap.IsSliceOf sl .none (.int a u) .none) (ha : a < items.size) (hsz : items.size ≤ sizeLine)
    (h : Q (.ref s.heap.objs.size) { s with heap := s.heap.push { cls := .type "tuple", data := .seq (items.toList.take a).toArray } }) : wpAny (model prog w) A (getItem (.ref t) (.ref sl)) Q E s := by
  have hok : sizeOk (.seq (items.toList.take a).toArray) := by
    show (items.toList.take a).toArray.size ≤ sizeLine
    rw [List.size_toArray, List.length_take, Array.length_toList]
    omega
  obtain ⟨os, hos, hcs, hds⟩ := id hs
  have hTs : s.TypeIs (.ref sl) "slice" := ⟨os, hos, hcs⟩
  unfold getItem
  try with_reducible refine wpAny_holding ?_
  first | refine wpAny_bind (wpAny_pure ?_) | skip
  refine wpAny_bind (wpAny_sequenceKey ht.typeIs (by decide) ?_)
  refine wpAny_bind (wpAny_callSpecial?_slot (name := Str.ofString "__getitem__") ht.typeIs slot_tuple_getitem
    (wpAny_call_entry slot_tuple_getitem ht.typeIs entry_tuple_getitem ?_ (args_tuple_getitem _ _)))
  show wpAny _ _ (Builtin.Tuple.tupleItemsOf (.ref t) >>= _) _ _ s
  refine wpAny_bind (tupleItemsOf_ ht ?_)
  refine wpAny_bind (wpAny_typeOf hTs ?_)
  rw [if_pos (by decide)]
  refine wpAny_bind (upto_applied hs (Nat.le_of_lt ha) ?_)
  have hno : ¬ (((0 : Int) == 0 && (1 : Int) == 1 && a == items.size) = true) := by
    have : (a == items.size) = false := by rw [beq_eq_false_iff_ne]; omega
    rw [this]; simp
  show wpAny _ _ (if ((0 : Int) == 0 && (1 : Int) == 1 && a == items.size) = true then _ else _) _ _ s
  rw [if_neg hno, upto_pick items a]
  first
    | exact wpAny_bind (m := Builtin.Tuple.tupleExact _) (wpAny_newObj_type (wpAny_pure ⟨_, rfl, wpAny_pure h⟩) hok)
    | exact wpAny_bind (m := Builtin.Tuple.tupleExact _) (wpAny_newObj_type (wpAny_bind (wpAny_pure (wpAny_pure ⟨_, rfl, wpAny_pure h⟩))) hok)
    | exact wpAny_bind (wpAny_bind (m := Builtin.Tuple.tupleExact _) (wpAny_newObj_type (wpAny_pure (wpAny_pure ⟨_, rfl, wpAny_pure h⟩)) hok))
    | exact wpAny_bind (wpAny_bind (m := Builtin.Tuple.tupleExact _) (wpAny_newObj_type (wpAny_pure ⟨_, rfl, wpAny_pure h⟩) hok))
theorem slice_tuple_upto {value slice : Expr} {t : Addr} {vs : List Value} {a : Nat} {z : Int} {u : Tok} {Q : Value → Shared → Prop} (hz : z = a)
    (F : Fr h₀ L s.heap m) (N : News h₀ L s.heap news) (ht : IsTup s.heap t vs.toArray) (ha : a < vs.length) (hn : vs.length ≤ 1000)
    (h : ∀ h', Fr h₀ L h' m → News h₀ L h' ((s.heap.objs.size + 1, tupObj (vs.take a)) :: news) → Q (.ref (s.heap.objs.size + 1)) { s with heap := h' })
    (hs : subscripted slice false (.ref t) (.ref s.heap.objs.size) = operate [.ref s.heap.objs.size, .ref t] (getItem (.ref t) (.ref s.heap.objs.size)) := by with_unfolding_all rfl)
    (hg : ∀ r, letTemporaryGo value (.ref t) r = pure () := by intro _; with_unfolding_all rfl) :
    wpAny (model prog w) A (subscriptTail value slice (.ref t) (.ref s.heap.objs.size)) Q E { s with heap := s.heap.push { cls := .type "slice", data := .fields #[.none, .int z u, .none] } } := by
  subst hz
  have ht' : IsTup (s.heap.push { cls := .type "slice", data := .fields #[.none, .int a u, .none] }) t vs.toArray := ht.keeps fun _ _ e => Heap.get?_push_of_some _ e
  refine subscriptTail_ops (s := { s with heap := s.heap.push { cls := .type "slice", data := .fields #[.none, .int a u, .none] } }) ht'.typeIs slot_tuple_getitem.lookup
    (upto_tuple ht' (Heap.IsSliceOf.new ..) (by simpa using ha) (by rw [sizeLine_eq]; simp; omega) ?_) hs hg
  have N1 := News.push (F.push { cls := .type "slice", data := .fields #[.none, .int a u, .none] }) (N.grown fun _ _ e => Heap.get?_push_of_some _ e) { cls := .type "tuple", data := .seq (vs.toArray.toList.take a).toArray }
  rw [Heap.size_push] at N1
  show Q (.ref (s.heap.push _).objs.size) _
  rw [Heap.size_push]
  exact h _ ((F.push _).push _) N1
theorem slice_tuple_after {value slice : Expr} {t : Addr} {vs : List Value} {a : Nat} {z : Int} {u : Tok} {Q : Value → Shared → Prop} (hz : z = a)
    (F : Fr h₀ L s.heap m) (N : News h₀ L s.heap news) (ht : IsTup s.heap t vs.toArray) (h1 : 1 ≤ a) (ha : a ≤ vs.length) (hn : vs.length ≤ 1000)
    (h : ∀ h', Fr h₀ L h' m → News h₀ L h' ((s.heap.objs.size + 1, tupObj (vs.drop a)) :: news) → Q (.ref (s.heap.objs.size + 1)) { s with heap := h' })
    (hs : subscripted slice false (.ref t) (.ref s.heap.objs.size) = operate [.ref s.heap.objs.size, .ref t] (getItem (.ref t) (.ref s.heap.objs.size)) := by with_unfolding_all rfl)
    (hg : ∀ r, letTemporaryGo value (.ref t) r = pure () := by intro _; with_unfolding_all rfl) :
    wpAny (model prog w) A (subscriptTail value slice (.ref t) (.ref s.heap.objs.size)) Q E { s with heap := s.heap.push { cls := .type "slice", data := .fields #[.int z u, .none, .none] } } := by
  subst hz
  refine slice_tuple_from F N ht h1 (by simpa using ha) (fun h' F' N' => h h' F' ?_) hs hg (by rw [sizeLine_eq]; simp; omega)
  exact N'
/-- an item of a tuple of the ledger -/
theorem read_tup {value slice : Expr} {t : Addr} {vs : List Value} {z : Int} {k : Nat} {u : Tok} {v : Value} {Q : Value → Shared → Prop} (N : News h₀ L s.heap news) (hm : (t, tupObj vs) ∈ news) (hz : z = k) (hk : k < 1000000) (hx : vs[k]? = some v) (h : Q v s)
    (hs : subscripted slice false (.ref t) (.int z u) = operate [.ref t, .int z u] (getItem (.ref t) (.int z u)) := by with_unfolding_all rfl) (hg : ∀ r, letTemporaryGo value (.ref t) r = pure () := by intro _; with_unfolding_all rfl) :
    wpAny (model prog w) A (subscriptTail value slice (.ref t) (.int z u)) Q E s := by
  have hlt : k < vs.length := by
    cases q : decide (k < vs.length) with
    | true => exact of_decide_eq_true q
    | false => rw [List.getElem?_eq_none (by have := of_decide_eq_false q; omega)] at hx; cases hx
  refine item_tupleL (j := k) (N.isTup hm) (by omega) (by omega) ?_ hx h hs hg
  subst hz
  unfold seqIndex?
  have h1 : ¬ ((k : Int) < 0) := by omega
  simp only [h1, if_false]
  have : (0 ≤ (k : Int) && decide ((k : Int) < (vs.length : Int))) = true := by simp; omega
  rw [this]
  simp
end
end

-- part GenT
section
open PySem PySem.W PySem.Calls PyProof.Rows PySem.Spec
/-! a generator expression over a tuple of texts, made a tuple; its code's table grows -/
/-- a code's table of places -/
abbrev tabO (ps : Array Value) : Obj := { cls := .none, data := .fields ps }
/-- a generator that stands ready over n items -/
def GenRdy (prog : Program) (w : World) (A : Around) (a : Addr) (n : Nat) (P : Nat → Value → Prop) (lo : Nat) (s : Shared) : Prop :=
  ∃ fp wr g St, WalksS prog w A.in4 a fp wr (GenOnlyQ g) n P St ∧ St 0 s ∧ (∀ i s', St i s' → s'.TypeIs (.ref a) "generator") ∧ a ∈ fp ∧ (∀ b ∈ fp, b < s.heap.objs.size) ∧ ∀ b ∈ wr, lo ≤ b
theorem found_code {M : Model} {A : Around} {E : Value → Shared → Prop} {s : Shared} {env : Env} {c P : Addr} {ps : Array Value} {pos : Pos} {qn : Str} {scope : Scope} {v : Value} {Q : Value → Shared → Prop} (hc : env.code = .ref c) (hok : s.heap.IsCode c P ps) (hf : codeAmong pos ps.toList = some v) (h : Q v s) :
    wpAny M A (genexprCode env pos qn scope) Q E s := by
  obtain ⟨o, vs, file, tf, flags, tg, inF, text, tt, op, ho, hd, h11, h2, h7, h9, h10, hop, hpd, htr, hne⟩ := id hok
  unfold genexprCode codeAt
  rw [hc, if_neg (show ¬ ((Value.ref c == Value.none) = true) from Bool.false_ne_true)]
  refine wpAny_bind (wpAny_fieldsOf ho hd ?_)
  rw [h11]
  refine wpAny_bind (wpAny_fieldsOf hop hpd ?_)
  rw [hf]
  exact wpAny_pure h
section
variable {prog : Program} {w : World} {A : Around} {E : Value → Shared → Prop} {s : Shared} {h₀ : Heap} {L : Addr} {m : Str → Option Value} {news : List (Addr × Obj)}
/-- the element of the generator, at any state -/
abbrev CutsTo (prog : Program) (w : World) (elt : Expr) (x : Str) (f : Str → Str) (mk : Addr → Value → Env) : Prop :=
  ∀ (A' : Around) (E' : Value → Shared → Prop) (C : Addr) (code : Value) (u : Shared) (m₂ : Str → Option Value) (z : Str) (t : Tok) (Q' : Value → Shared → Prop), u.heap.Ns C m₂ → m₂ x = some (.str z t) → z.length ≤ 1000 →
    (∀ h' t' tk, (∀ b o, u.heap.get? b = some o → h'.get? b = some o) → Q' (.str (f z) t') { u with heap := h', toks := tk }) → wpAny (model prog w) A' (eval elt (mk C code)) Q' E' u
theorem gen_texts {env : Env} {elt iter : Expr} {x : Str} {px : Pos} {scope : Scope} {cl : List (Str × Addr)} {pos : Pos} {Q : Value → Shared → Prop} {c P D bm : Addr} {ps : Array Value} {mg : Str → Option Value} {ob : Obj} {vs : List Value} {ks : List Str} (f : Str → Str)
    (F : Fr h₀ L s.heap m) (N : News h₀ L s.heap (news ++ [(P, tabO ps)])) (G : AllBare s.gens) (hlim : s.heap.NoLimit) (hcode : s.heap.IsCode c P ps) (hcc : ∃ o vs, s.heap.get? c = some o ∧ o.cls = .type "code" ∧ o.data = .fields vs ∧ vs[11]? = some (.ref P)) (hPs : P ≠ cStatics) (M : BMod s.heap env.globals mg bm ob) (he : env.code = .ref c)
    (hm : (D, tupObj vs) ∈ news) (hks : StrsAre vs ks) (hl : ∀ z ∈ ks, z.length ≤ 1000) (hnP : ∀ p ∈ news, p.1 ≠ P)
    (hh : A.handled = none) (hco : scope.isCoroutine = false) (hclos : closureFor scope env = pure cl) (hcell : ∀ y ∈ scope.names, y.2 ≠ .cell) (h0 : scope.names.lookup (".0" : Str) = some NameKind.local)
    (hx : scope.names.lookup x = some .local) (hkind : scope.kind = .function) (hroom : A.depth < recursionLimit)
    (hiter : ∀ Q' : Value → Shared → Prop, Q' (.ref D) s → wpAny (model prog w) A (eval iter env) Q' E s)
    (helt : CutsTo prog w elt x f fun C code => genEnv scope cl C code builtinsNs env)
    (h : ∀ a s' ps', (∃ more, ps' = ps ++ more) → TriplesOk ps'.toList → Fr h₀ L s'.heap m → News h₀ L s'.heap (news ++ [(P, tabO ps')]) → AllBare s'.gens → s'.os = s.os → GenRdy prog w A a ks.length (fun j y => ∃ t, y = .str (f (ks.getD j Str.empty)) t) s.heap.objs.size s' → Q (.ref a) s')
    (hs : ∀ x, genFold iter env x = pure x) :
    wpAny (model prog w) A (eval (.GeneratorExp elt [⟨.Name x px, iter, [], 0⟩] scope pos) env) Q E s := by
  refine wpAny_GeneratorExp_walksQ hh hco hclos hcell h0 hx hkind hroom (hiter _ ?_) hs
  have hD := N _ (List.mem_append_left _ hm)
  have hT : s.heap.IsTuple D vs.toArray := ⟨_, hD.1, rfl, _, rfl⟩
  have hP := N (P, tabO ps) (List.mem_append_right _ (.head _))
  refine wpAny_pyIter_tuple hT ⟨hlim.push _, ?_⟩
  have hDI : D ≠ s.heap.objs.size := Nat.ne_of_lt (nlt hD.1)
  have hlen : vs.length = ks.length := hks.len_eq
  have k1 : ∀ b o, s.heap.get? b = some o → (s.heap.push (itT D 0)).get? b = some o := fun b o e => Heap.get?_push_of_some _ e
  have hsz1 : (s.heap.push (itT D 0)).objs.size = s.heap.objs.size + 1 := Heap.size_push _ _
  have hcode1 := hcode.keeps k1
  have hPt1 : (s.heap.push (itT D 0)).get? P = some (tabO ps) := k1 _ _ hP.1
  have hLs : L < s.heap.objs.size := nslt F.ns
  -- what follows the code, whichever it is
  have tail : ∀ (code : Value) (h3 : Heap) (tk : Nat) (ps' : Array Value), (∃ more, ps' = ps ++ more) → TriplesOk ps'.toList → Heap.ExtBut P (s.heap.push (itT D 0)) h3 → (s.heap.push (itT D 0)).objs.size ≤ h3.objs.size → h3.get? P = some (tabO ps') →
      wpAny (model prog w) A (builtinsFor env.globals env.builtins) (fun bi s₄ =>
        ∃ I fp wr n₀ Pi St₀ pz Fi, (Value.ref s.heap.objs.size : Value) = .ref I ∧ (∀ A' : Around, A'.handled = none → Walks prog w A' I fp wr n₀ Pi St₀) ∧ St₀ 0 s₄.heap ∧ (∀ b ∈ fp, b < s₄.heap.objs.size) ∧ s₄.heap.NoLimit ∧ cStatics ∉ wr ∧
          (∀ href : Heap, (∀ b o, s₄.heap.get? b = some o → href.get? b = some o) →
            QuietGen prog w (genEnv scope cl s₄.heap.objs.size code bi env) x [] elt (List.range s₄.heap.objs.size) wr Pi pz Fi href) ∧
          (∀ a h₅ tk gs, gs.bare = true → s₄.heap.objs.size < a → h₅.objs.size = a + 1 → (∀ b o, s₄.heap.get? b = some o → h₅.get? b = some o) →
            WalksS prog w A.in4 a (a :: s₄.heap.objs.size :: List.range s₄.heap.objs.size) (s₄.heap.objs.size :: wr) (GenOnlyQ s₄.gens.size) (passing pz n₀ 0).length
              (fun j y => ∃ i, (passing pz n₀ 0)[j]? = some i ∧ Fi i y) (GenAt prog w A.in4 a s₄.gens.size s₄.heap.objs.size (List.range s₄.heap.objs.size) wr pz n₀ Fi) →
            GenAt prog w A.in4 a s₄.gens.size s₄.heap.objs.size (List.range s₄.heap.objs.size) wr pz n₀ Fi 0 { s₄ with gens := s₄.gens.push gs, toks := tk, heap := h₅ } →
            Q (.ref a) { s₄ with gens := s₄.gens.push gs, toks := tk, heap := h₅ })) E { s with heap := h3, toks := tk } := by
    intro code h3 tk ps' hmore htr hx3 hsz3 hP3
    have off : ∀ b o, b ≠ P → s.heap.get? b = some o → h3.get? b = some o := fun b o hb e => hx3 b o hb (k1 b o e)
    have hbmP : bm ≠ P := fun e => by
      have := M.obj
      rw [e, hP.1] at this
      cases this
      exact absurd M.cls (by simp)
    have hgP : env.globals ≠ P := fun e => by
      obtain ⟨o, es, ep, ho, hd, _⟩ := M.ns
      rw [e, hP.1] at ho
      cases ho
      cases hd
    have M3 : BMod h3 env.globals mg bm ob := ⟨M.ns.extBut (fun b o hb e => off b o hb e) hgP, M.name, M.ne, off _ _ hbmP M.obj, M.cls, M.dict, M.data⟩
    have hl3 : h3.NoLimit := hlim.extBut (fun b o hb e => off b o hb e) (Ne.symm hPs)
    refine wpAny_builtinsFor M3.ns M3.name M3.ne M3.obj M3.cls M3.dict M3.data ?_
    have hIP : s.heap.objs.size ≠ P := Ne.symm (Nat.ne_of_lt (nlt hP.1))
    have hDP : D ≠ P := hnP _ hm
    have hD3 : h3.get? D = some (tupObj vs) := off _ _ hDP hD.1
    have hI3 : h3.get? s.heap.objs.size = some (itT D 0) := hx3 _ _ hIP (Heap.get?_push_size _ rfl)
    have hcw : cStatics ∉ [s.heap.objs.size] := fun hmm => by
      obtain ⟨_, hns, _⟩ := hlim
      exact absurd (nslt hns) ((List.mem_singleton.mp hmm) ▸ Nat.lt_irrefl _)
    have F3 : Fr h₀ L h3 m := ⟨F.ns.extBut (fun b o hb e => off b o hb e) (Ne.symm hP.2.1), fun b o e => off b o (fun q => by rw [q, hP.2.2] at e; cases e) (F.keep b o e), F.above⟩
    have N3 : News h₀ L h3 (news ++ [(P, tabO ps')]) := fun p hp => by
      rcases List.mem_append.mp hp with hp | hp
      · exact ⟨off _ _ (hnP p hp) (N p (List.mem_append_left _ hp)).1, (N p (List.mem_append_left _ hp)).2⟩
      · rw [List.mem_singleton.mp hp]; exact ⟨hP3, hP.2⟩
    refine ⟨s.heap.objs.size, [s.heap.objs.size, D], [s.heap.objs.size], vs.toArray.size, _, _, (fun _ => true), (fun i y => ∃ t, y = .str (f (ks.getD i Str.empty)) t), rfl, (fun A' hA => Walks.tuple hA _ D hDI vs.toArray), ⟨⟨_, hI3, rfl, rfl⟩, ⟨_, hD3, rfl, _, rfl⟩⟩, ?_, hl3, hcw, ?_, ?_⟩
    · intro b hb
      rcases List.mem_cons.mp hb with rfl | hb
      · exact nlt hI3
      · rw [List.mem_singleton.mp hb]; exact nlt hD3
    · intro href _
      refine ⟨fun A' E' i v u m₂ hA hP hn hm₂ _ => wpAny_pure ⟨rfl, ⟨u.heap, u.toks, rfl, fun _ _ e => e⟩⟩, fun A' E' i v u m₂ hA hPv _ hn hm₂ _ => ?_⟩
      obtain ⟨z, t, rfl, hz⟩ := hks.item i v (by simpa using hPv)
      have hg : ks.getD i Str.empty = z := by simp [List.getD_eq_getElem?_getD, hz]
      refine helt A' E' _ code u m₂ z t _ hn hm₂ (hl z (List.mem_of_getElem? hz)) fun h' t' tk' hk => ⟨⟨t', by rw [hg]⟩, ⟨h', tk', rfl, hk⟩⟩
    · intro a h5 tk5 gs hgb hag hsz5 hk5 W hat
      have hpass : passing (fun _ => true) vs.toArray.size 0 = List.range ks.length := by
        unfold passing
        rw [List.size_toArray, hlen]
        simp
      rw [hpass] at W
      have W2 : WalksS prog w A.in4 a (a :: h3.objs.size :: List.range h3.objs.size) (h3.objs.size :: [s.heap.objs.size]) (GenOnlyQ s.gens.size) ks.length (fun j y => ∃ t, y = .str (f (ks.getD j Str.empty)) t) (GenAt prog w A.in4 a s.gens.size h3.objs.size (List.range h3.objs.size) [s.heap.objs.size] (fun _ => true) vs.toArray.size (fun i y => ∃ t, y = .str (f (ks.getD i Str.empty)) t)) := by
        have hlr : (List.range ks.length).length = ks.length := List.length_range
        rw [hlr] at W
        have e2 : (fun (j : Nat) (y : Value) => ∃ i, (List.range ks.length)[j]? = some i ∧ ∃ t, y = Value.str (f (ks.getD i Str.empty)) t) = fun j y => j < ks.length ∧ ∃ t, y = Value.str (f (ks.getD j Str.empty)) t := by
          funext j y
          apply propext
          constructor
          · rintro ⟨i, hi, t, rfl⟩
            have hj : j < ks.length := by
              cases q : decide (j < ks.length) with
              | true => exact of_decide_eq_true q
              | false => rw [List.getElem?_eq_none (by have := of_decide_eq_false q; simp; omega)] at hi; cases hi
            rw [List.getElem?_range hj] at hi
            cases hi
            exact ⟨hj, t, rfl⟩
          · rintro ⟨hj, t, rfl⟩
            exact ⟨j, by rw [List.getElem?_range hj], t, rfl⟩
        rw [e2] at W
        exact { sub := W.sub, grefl := W.grefl, gtrans := W.gtrans, frame := W.frame, item := fun i s Q E hi st hQ => W.item i s Q E hi st fun v s' hv => hQ v s' hv.2, done := W.done, self := W.self }
      refine h a _ ps' hmore htr (F3.keeps hk5) (fun p hp => ⟨hk5 _ _ (N3 p hp).1, (N3 p hp).2⟩) (G.push hgb) rfl ⟨_, _, _, _, W2, hat, (fun i s' st => st.1.typeIs), List.mem_cons_self, ?_, ?_⟩
      · intro b hb
        show b < h5.objs.size
        rw [hsz5]
        rcases List.mem_cons.mp hb with rfl | hb
        · exact Nat.lt_succ_self _
        · rcases List.mem_cons.mp hb with rfl | hb
          · exact Nat.lt_succ_of_lt hag
          · exact Nat.lt_succ_of_lt (Nat.lt_trans (List.mem_range.mp hb) hag)
      · intro b hb
        rcases List.mem_cons.mp hb with rfl | hb
        · show s.heap.objs.size ≤ h3.objs.size
          rw [hsz1] at hsz3
          exact Nat.le_trans (Nat.le_succ _) hsz3
        · rw [List.mem_singleton.mp hb]; exact Nat.le_refl _
  cases hf : codeAmong pos ps.toList with
  | some v =>
    refine found_code he hcode1 hf ?_
    obtain ⟨_, _, _, _, _, _, _, _, _, _, _, _, _, _, _, _, _, _, _, htr, _⟩ := id hcode
    exact tail v _ s.toks ps ⟨#[], by simp⟩ htr (fun _ _ _ e => e) (Nat.le_refl _) hPt1
  | none =>
    obtain ⟨oc, vc, g1, g2, g3, g4⟩ := hcc
    refine wpAny_genexprCodeX he hcode1 ⟨⟨oc, vc, k1 _ _ g1, g2, g3, g4⟩, hPt1⟩ hf fun c' h3 tk3 hx3 hge hlt hc3 _ ht3 _ => ?_
    obtain ⟨_, _, _, _, _, _, _, _, _, _, _, _, _, _, _, _, _, _, _, htr, _⟩ := id hc3
    exact tail (.ref c') h3 tk3 _ ⟨_, rfl⟩ htr hx3 (Nat.le_trans hge (Nat.le_of_lt hlt)) ht3.2
/-- the tuple of what a generator gives -/
theorem tuple_texts {a : Addr} {lo n : Nat} {Q : Value → Shared → Prop} {ks : List Str} (F : Fr h₀ L s.heap m) (N : News h₀ L s.heap news) (G : AllBare s.gens) (X : GenRdy prog w A a n (fun j y => ∃ t, y = .str (ks.getD j Str.empty) t) lo s) (hn : n = ks.length) (hlo : ∀ p ∈ news, @LT.lt Nat instLTNat p.1 lo) (hL : @LT.lt Nat instLTNat L lo) (hb : h₀.objs.size ≤ lo) (hsz : ks.length ≤ 1000)
    (h : ∀ T s' ys, Fr h₀ L s'.heap m → News h₀ L s'.heap ((T, tupObj ys) :: news) → StrsAre ys ks → AllBare s'.gens → s'.os = s.os → Q (.ref T) s') :
    wpAny (model prog w) A (call (.type "tuple") [.ref a]) Q E s := by
  obtain ⟨fp, wr, g, St, W, hst, hT, ha, hfp, hwr⟩ := X
  refine call_tuple_gen W.in4_3 hT hst hfp ha (fun s' acc hm hacc => ?_) (by rw [sizeLine_eq]; omega)
  have offw : ∀ b : Addr, @LT.lt Nat instLTNat b lo → b ∉ wr := fun b hb hm => Nat.lt_irrefl _ (Nat.lt_of_lt_of_le hb (hwr b hm))
  have F1 : Fr h₀ L s'.heap m := ⟨F.ns.at' fun o e => hm.heap L o (offw L hL) e, fun b o e => hm.heap b o (offw b (Nat.lt_of_lt_of_le (nlt e) hb)) (F.keep b o e), F.above⟩
  have N1 : News h₀ L s'.heap news := fun p hp => ⟨hm.heap _ _ (offw _ (hlo p hp)) (N p hp).1, (N p hp).2⟩
  have N2 := N1.push F1 { cls := .type "tuple", data := .seq acc }
  have e : ({ cls := .type "tuple", data := .seq acc } : Obj) = tupObj acc.toList := by simp
  rw [e] at N2 ⊢
  refine h _ _ acc.toList (F1.push _) N2 ?_ (AllBare.movedS (s' := s') G hm) hm.os
  -- the items, one by one
  have key : ∀ (l : List Value) (ks : List Str), l.length = ks.length → (∀ (j : Nat) (v : Value), l[j]? = some v → ∃ t, v = Value.str (ks.getD j Str.empty) t) → StrsAre l ks := by
    intro l
    induction l with
    | nil => intro ks hl _; cases ks with
      | nil => exact .nil
      | cons _ _ => simp at hl
    | cons v l ih =>
      intro ks hl hv
      cases ks with
      | nil => simp at hl
      | cons k ks =>
        obtain ⟨t, rfl⟩ := hv 0 v rfl
        exact .cons _ t (ih ks (by simpa using hl) fun j v hj => hv (j + 1) v hj)
  exact key _ _ (by rw [Array.length_toList, hacc.1, hn]) fun j v hv => hacc.2 j v (by simpa using hv)
end
end

-- part Tabs
section
open PySem PySem.W PySem.Calls PyProof.Rows PySem.Spec
theorem fill_Tabs (w : World) : PySem.Challenge.rw_br0037_01 = PySem.Challenge.rw_br0037_01 ∧ hd.heap_1 w.params = hd.heap_1 w.params := by k_fill; exact ⟨rfl, rfl⟩
/-! calls that may make a generator: the table of _recursive's code (at 205) may grow -/
/-- the heap without that table -/
def minus (h : Heap) : Heap := h.update 205 fun _ => { cls := .none, data := .freed }
theorem minus_size (h : Heap) : (minus h).objs.size = h.objs.size := Heap.size_after_update _ _ _
theorem minus_other (h : Heap) {b : Addr} (hb : b ≠ 205) : (minus h).get? b = h.get? b := Heap.get?_update_other _ _ (Ne.symm hb)
theorem minus_self (h : Heap) : (minus h).get? 205 = none := by
  unfold minus Heap.get? Heap.update
  cases h with
  | mk objs l =>
    simp only [Array.getElem?_modify, if_true]
    cases objs[205]? <;> rfl
theorem minus_keep {h : Heap} {b : Addr} {o : Obj} (e : (minus h).get? b = some o) : b ≠ 205 ∧ h.get? b = some o := by
  have hb : b ≠ 205 := fun q => by rw [q, minus_self] at e; cases e
  exact ⟨hb, by rw [← minus_other h hb]; exact e⟩
theorem no205 (w : World) : (hd.heap_1 w.params).lookup 205 = none := by kernel_rfl
theorem ns_minus {h : Heap} {a : Addr} {m : Str → Option Value} {ps : Array Value} (n : h.Ns a m) (ht : h.get? 205 = some (tabO ps)) : (minus h).Ns a m := by
  have ha : a ≠ 205 := fun e => by
    obtain ⟨o, es, ep, ho, hd, _⟩ := n
    rw [e, ht] at ho; cases ho; cases hd
  obtain ⟨o, es, ep, ho, hd, r⟩ := n
  exact ⟨o, es, ep, (minus_other h ha).trans ho, hd, r⟩
structure OkT (w : World) (h : Heap) : Prop where
  ok : Ok w h
  b : ∃ mg bm ob, BMod h mainGlobals mg bm ob
theorem OkT.keeps {w : World} {h h' : Heap} (O : OkT w h) (k : ∀ b o, h.get? b = some o → h'.get? b = some o) : OkT w h' := by
  obtain ⟨mg, bm, ob, B⟩ := O.b
  exact ⟨O.ok.keeps k, mg, bm, ob, B.keeps k⟩
theorem OkT.minus {w : World} {h : Heap} {ps : Array Value} (O : OkT w h) (ht : h.get? 205 = some (tabO ps)) : OkT w (minus h) := by
  obtain ⟨mg, bm, ob, B⟩ := O.b
  obtain ⟨p, loose, mg', mb, T⟩ := O.ok.top
  have hbm : bm ≠ 205 := fun e => by
    have := B.obj
    rw [e, ht] at this; cases this
    exact absurd B.cls (by simp)
  obtain ⟨mc, n1, n2⟩ := T.nolimit
  refine ⟨⟨fun a o e => ?_, p, loose, mg', mb, ⟨ns_minus T.g ht, ns_minus T.b ht, ⟨mc, ns_minus n1 ht, n2⟩, T.builtins, T.free⟩⟩, mg, bm, ob, ⟨ns_minus B.ns ht, B.name, B.ne, (minus_other h hbm).trans B.obj, B.cls, B.dict, B.data⟩⟩
  have ha : a ≠ 205 := fun q => by rw [q, no205] at e; cases e
  exact (minus_other h ha).trans (O.ok.k a o e)
/-- kept but for the table, which may have grown -/
structure KeptT (s s' : Shared) : Prop where
  os : s'.os = s.os
  gens : AllBare s.gens → AllBare s'.gens
  keep : ∀ b o, b ≠ 205 → s.heap.get? b = some o → s'.heap.get? b = some o
  tab : ∀ ps, s.heap.get? 205 = some (tabO ps) → TriplesOk ps.toList → ∃ ps', (∃ more, ps' = ps ++ more) ∧ s'.heap.get? 205 = some (tabO ps') ∧ TriplesOk ps'.toList
def GivesT (prog : Program) (w : World) (A : Around) (f : Value) (args : List Value) (P : Value → Prop) (s : Shared) : Prop :=
  codeAny (model prog w) A (.call f ⟨args, []⟩) (fun r s' => match r with | .ok (.ret v) => P v ∧ KeptT s s' | .ok _ => False | .error _ => False) s
theorem GivesT.mk {prog : Program} {w : World} {A : Around} {f : Value} {args : List Value} {P : Value → Prop} {s : Shared}
    (h : codeAny (model prog w) A (.call f ⟨args, []⟩) (fun r s' => match r with | .ok (.ret v) => P v ∧ KeptT s s' | .ok _ => False | .error _ => False) s) : GivesT prog w A f args P s := h
section
variable {prog : Program} {w : World} {A : Around} {s : Shared} {E : Value → Shared → Prop} {h₀ : Heap} {L : Addr} {m : Str → Option Value} {news : List (Addr × Obj)} {ps : Array Value}
theorem GivesT.code {f : Value} {args : List Value} {P : Value → Prop} {Q : Value → Shared → Prop} (X : GivesT prog w A f args P s) (F : Fr h₀ L s.heap m) (N : News h₀ L s.heap (news ++ [(205, tabO ps)])) (tr : TriplesOk ps.toList) (G : AllBare s.gens) (hn : ∀ p ∈ news, p.1 ≠ 205)
    (h : ∀ v s' ps', P v → (∃ more, ps' = ps ++ more) → TriplesOk ps'.toList → AllBare s'.gens → s'.os = s.os → Fr h₀ L s'.heap m → News h₀ L s'.heap (news ++ [(205, tabO ps')]) → Q v s') :
    codeAny (model prog w) A (.call f ⟨args, []⟩) (fun r s' => match r with | .ok (.ret v) => Q v s' | .ok _ => False | .error e => E e s') s := by
  refine codeAny_mono X fun r s' h1 => ?_
  cases r with
  | error e => exact h1.elim
  | ok f =>
    cases f with
    | ret v =>
      obtain ⟨hP, K⟩ := h1
      have h2 := N (205, tabO ps) (List.mem_append_right _ (.head _))
      obtain ⟨ps', hmore, ht, tr'⟩ := K.tab ps h2.1 tr
      refine h v s' ps' hP hmore tr' (K.gens G) K.os ⟨F.ns.at' fun o e => K.keep L o (Ne.symm h2.2.1) e, fun b o e => K.keep b o (fun q => by rw [q, h2.2.2] at e; cases e) (F.keep b o e), F.above⟩ fun p hp => ?_
      rcases List.mem_append.mp hp with hp | hp
      · exact ⟨K.keep _ _ (hn p hp) (N p (List.mem_append_left _ hp)).1, (N p (List.mem_append_left _ hp)).2⟩
      · rw [List.mem_singleton.mp hp]; exact ⟨ht, h2.2⟩
    | _ => exact h1.elim
theorem GivesT.use {f : Value} {args : List Value} {P : Value → Prop} {Q : Value → Shared → Prop} (X : GivesT prog w A f args P s) (F : Fr h₀ L s.heap m) (N : News h₀ L s.heap (news ++ [(205, tabO ps)])) (tr : TriplesOk ps.toList) (G : AllBare s.gens) (hn : ∀ p ∈ news, p.1 ≠ 205)
    (h : ∀ v s' ps', P v → (∃ more, ps' = ps ++ more) → TriplesOk ps'.toList → AllBare s'.gens → s'.os = s.os → Fr h₀ L s'.heap m → News h₀ L s'.heap (news ++ [(205, tabO ps')]) → Q v s') : wpAny (model prog w) A (call f args) Q E s := wpAny_call (X.code F N tr G hn h)
theorem GivesT.useM {f self : Value} {q : Addr} {args : List Value} {P : Value → Prop} {Q : Value → Shared → Prop} (hq : (q, methodObj f self) ∈ news) (X : GivesT prog w A f (self :: args) P s) (F : Fr h₀ L s.heap m) (N : News h₀ L s.heap (news ++ [(205, tabO ps)])) (tr : TriplesOk ps.toList) (G : AllBare s.gens) (hn : ∀ p ∈ news, p.1 ≠ 205)
    (h : ∀ v s' ps', P v → (∃ more, ps' = ps ++ more) → TriplesOk ps'.toList → AllBare s'.gens → s'.os = s.os → Fr h₀ L s'.heap m → News h₀ L s'.heap (news ++ [(205, tabO ps')]) → Q v s') : wpAny (model prog w) A (call (.ref q) args) Q E s :=
  call_meth N (List.mem_append_left _ hq) (X.code F N tr G hn h)
theorem GivesT.self {x C f : Addr} {es : List DictEntry} {n : Nat} {args : List Value} {P : Value → Prop} (O : Ok w s.heap) (S : SelfAt s.heap x C es n) (X : GivesT prog w A (.ref f) (.ref x :: args) P s)
    (hs : findIn (hd.heap_1 w.params) (.ref C) "__call__" = some (some (.ref f))) (hf : isFn (hd.heap_1 w.params) (.ref f) = true) (hfn : fnIn (hd.heap_1 w.params) f = true) : GivesT prog w A (.ref x) args P s := by
  obtain ⟨dx, I⟩ := S.inst
  exact kco_code O.k I rfl hs hf hfn X
/-- a frame's ledger, the table taken out of the base and into the ledger -/
theorem frame_minus {h h1 : Heap} (F : Fr h L h1 m) (N : News h L h1 news) (ht : h.get? 205 = some (tabO ps)) : Fr (minus h) L h1 m ∧ News (minus h) L h1 (news ++ [(205, tabO ps)]) ∧ ∀ p ∈ news, p.1 ≠ 205 := by
  have hn : ∀ p ∈ news, p.1 ≠ 205 := fun p hp e => by
    have := (N p hp).2.2
    rw [e, ht] at this; cases this
  have hL : L ≠ 205 := fun e => absurd (Nat.lt_of_lt_of_le (nlt ht) F.above) (by rw [e]; exact Nat.lt_irrefl _)
  refine ⟨⟨F.ns, fun b o e => F.keep b o (minus_keep e).2, by rw [minus_size]; exact F.above⟩, fun p hp => ?_, hn⟩
  rcases List.mem_append.mp hp with hp | hp
  · refine ⟨(N p hp).1, (N p hp).2.1, ?_⟩
    rw [minus_other h (hn p hp)]
    exact (N p hp).2.2
  · rw [List.mem_singleton.mp hp]
    exact ⟨F.keep _ _ ht, Ne.symm hL, minus_self h⟩
/-- a frame's end -/
theorem KeptT.of {s' : Shared} {ps' : Array Value} (F : Fr (minus s.heap) L s'.heap m) (N : News (minus s.heap) L s'.heap (news ++ [(205, tabO ps')])) (hos : s'.os = s.os) (G : AllBare s.gens → AllBare s'.gens) (ht : s.heap.get? 205 = some (tabO ps)) (hm : ∃ more, ps' = ps ++ more) (tr : TriplesOk ps'.toList) : KeptT s s' := by
  refine ⟨hos, G, fun b o hb e => F.keep b o ((minus_other _ hb).trans e), fun ps2 e _ => ?_⟩
  rw [ht] at e
  cases e
  exact ⟨ps', hm, (N _ (List.mem_append_right _ (.head _))).1, tr⟩
theorem Kept.toT {s' : Shared} (k : Kept s s') : KeptT s s' := by
  obtain ⟨h', tk, rfl, hk⟩ := k
  exact ⟨rfl, fun g => g, fun b o _ e => hk b o e, fun ps e tr => ⟨ps, ⟨#[], by simp⟩, hk _ _ e, tr⟩⟩
end
def isCode207 : Option Obj → Bool
  | some ⟨.type c, _, .fields vs, _⟩ => c == "code" && (match vs.getD 11 .none with | .ref a => a == 205 | _ => false) && (match vs.getD 18 .none with | .str _ _ => true | _ => false) && (match vs.getD 7 .none with | .int _ _ => true | _ => false) &&
    (match vs.getD 9 .none with | .bool _ => true | _ => false) && (match vs.getD 10 .none with | .int _ _ => true | _ => false) && decide (11 < vs.size)
  | _ => false
theorem code207_is (w : World) : isCode207 ((hd.heap_1 w.params).lookup 207) = true := by kernel_rfl
theorem code207 (w : World) : ∃ o vs file tf flags tg inF text tt, (hd.heap_1 w.params).lookup 207 = some o ∧ o.cls = .type "code" ∧ o.data = .fields vs ∧ vs.getD 11 .none = .ref 205 ∧ vs.getD 18 .none = .str file tf ∧
    vs.getD 7 .none = .int flags tg ∧ vs.getD 9 .none = .bool inF ∧ vs.getD 10 .none = .int text tt ∧ vs[11]? = some (.ref 205) := by
  have h := code207_is w
  generalize (hd.heap_1 w.params).lookup 207 = x at h
  unfold isCode207 at h
  split at h
  · rename_i c od vs sl
    simp only [Bool.and_eq_true, decide_eq_true_eq, beq_iff_eq] at h
    obtain ⟨⟨⟨⟨⟨⟨rfl, h1⟩, h2⟩, h3⟩, h4⟩, h5⟩, h6⟩ := h
    have e1 : vs.getD 11 .none = .ref 205 := by
      split at h1
      · rename_i a e; rw [e, beq_iff_eq.mp h1]
      · cases h1
    obtain ⟨file, tf, e2⟩ : ∃ file tf, vs.getD 18 .none = .str file tf := by
      split at h2
      · rename_i a b e; exact ⟨a, b, e⟩
      · cases h2
    obtain ⟨flags, tg, e3⟩ : ∃ file tf, vs.getD 7 .none = .int file tf := by
      split at h3
      · rename_i a b e; exact ⟨a, b, e⟩
      · cases h3
    obtain ⟨inF, e4⟩ : ∃ file, vs.getD 9 .none = .bool file := by
      split at h4
      · rename_i a e; exact ⟨a, e⟩
      · cases h4
    obtain ⟨text, tt, e5⟩ : ∃ file tf, vs.getD 10 .none = .int file tf := by
      split at h5
      · rename_i a b e; exact ⟨a, b, e⟩
      · cases h5
    refine ⟨_, vs, file, tf, flags, tg, inF, text, tt, rfl, rfl, rfl, e1, e2, e3, e4, e5, ?_⟩
    rw [Array.getElem?_eq_getElem h6]
    rw [Array.getD_eq_getD_getElem?, Array.getElem?_eq_getElem h6] at e1
    simpa using e1
  · cases h
/-- the code of _recursive -/
theorem code208 {w : World} {h : Heap} {ps : Array Value} (O : Ok w h) (ht : h.get? 205 = some (tabO ps)) (tr : TriplesOk ps.toList) : h.IsCode 207 205 ps ∧ ∃ o vs, h.get? 207 = some o ∧ o.cls = .type "code" ∧ o.data = .fields vs ∧ vs[11]? = some (.ref 205) := by
  obtain ⟨o, vs, file, tf, flags, tg, inF, text, tt, ho, h1, h2, h3, h4, h5, h6, h7, h8⟩ := code207 w
  have g := O.k _ _ ho
  exact ⟨⟨o, vs, file, tf, flags, tg, inF, text, tt, _, g, h2, h3, h4, h5, h6, h7, ht, rfl, tr, by decide⟩, o, vs, g, h1, h2, h8⟩
end

-- part ForT
section
open PySem PySem.W PySem.Calls PyProof.Rows PySem.Spec
/-! a loop over enumerate(tuple) whose turns may make generators -/
/-- what stands between the turns -/
structure Turn (h₀ : Heap) (L D : Addr) (vs : List Value) (ps₀ : Array Value) (s₀ : Shared) (own : List (Addr × Obj)) (m : Str → Option Value) (s : Shared) : Prop where
  fr : Fr h₀ L s.heap m
  gens : AllBare s.gens
  os : s.os = s₀.os
  led : ∃ ps, (∃ more, ps = ps₀ ++ more) ∧ TriplesOk ps.toList ∧ News h₀ L s.heap ((own ++ [(D, tupObj vs)]) ++ [(205, tabO ps)])
theorem enum_loop {prog : Program} {w : World} {A : Around} {s : Shared} {env : Env} {h₀ : Heap} {R : Result → Shared → Prop} {xi xc : Str} {pk pv pt : Pos} {x1 : Nat} {body : List Stmt} {m : Str → Option Value} {D e it : Addr} {vs : List Value} {ps₀ : Array Value} (hh : A.handled = none)
    (hxi : env.kindOf xi = some .local) (hxc : env.kindOf xc = some .local) (hp : (env.scope.kind == .class || (env.scope.kind == .module && env.locals != env.globals)) = false)
    (Jm : Nat → (Str → Option Value) → Prop) (T₀ : Turn h₀ env.locals D vs ps₀ s [] m s) (he : IsEnum s.heap e it 0 .none) (hit : s.heap.IsTupleIter it D 0) (hne : e ≠ it) (heL : e ≠ env.locals) (hiL : it ≠ env.locals) (he0 : h₀.get? e = none) (hi0 : h₀.get? it = none)
    (hDe : D ≠ e) (hDi : D ≠ it) (heT : e ≠ 205) (hiT : it ≠ 205) (hDT : D ≠ 205) (h0 : Jm 0 m)
    (step : ∀ i v t m₁ s₁ own E', i < vs.length → vs[i]? = some v → Jm i m₁ → (∀ p ∈ own, p.1 ≠ 205) → Turn h₀ env.locals D vs ps₀ s own (fun y => if y = xc then some v else if y = xi then some (.int (i : Int) t) else m₁ y) s₁ →
      wpAny (model prog w) A (execs body env) (fun f s' => f = .next ∧ ∃ m', Turn h₀ env.locals D vs ps₀ s own m' s' ∧ Jm (i + 1) m') E' s₁)
    (hR : ∀ m' s', Turn h₀ env.locals D vs ps₀ s [] m' s' → Jm vs.length m' → R (.ok .next) s') :
    codeAny (model prog w) A (.forLoop (.Tuple [.Name xi pk, .Name xc pv] x1 pt) (.ref e) body [] env) R s := by
  have W := walks_enumT (prog := prog) (w := w) hh e it D hne hDe hDi vs.toArray
  have hDL : D ≠ env.locals := by
    obtain ⟨ps, _, _, N⟩ := T₀.led
    exact (N (D, tupObj vs) (List.mem_append_left _ (.head _))).2.1
  have hLf : env.locals ∉ [e, it, D] := fun hm => by
    rcases List.mem_cons.mp hm with q | hm
    · exact heL q.symm
    · rcases List.mem_cons.mp hm with q | hm
      · exact hiL q.symm
      · exact hDL (List.mem_singleton.mp hm).symm
  have hsz : vs.toArray.size = vs.length := by simp
  rw [hsz] at W
  have hTD : ∀ {s' : Shared} {own m'}, Turn h₀ env.locals D vs ps₀ s own m' s' → s'.heap.get? D = some (tupObj vs) := fun X => by
    obtain ⟨ps, _, _, N⟩ := X.led
    exact (N (D, tupObj vs) (List.mem_append_left _ (List.mem_append_right _ (.head _)))).1
  refine codeAny_forLoop_any
    (fun k s' => ∃ (i : Nat) (m' : Str → Option Value), ((∃ old, IsEnum s'.heap e it i old) ∧ s'.heap.IsTupleIter it D i ∧ s'.heap.IsTuple D vs.toArray) ∧ Turn h₀ env.locals D vs ps₀ s [] m' s' ∧ Jm i m' ∧ i ≤ vs.length ∧ k = vs.length + 1 - i) ?_ (vs.length + 1)
    ⟨0, m, ⟨⟨_, he⟩, hit, ⟨_, hTD T₀, rfl, _, rfl⟩⟩, T₀, h0, Nat.zero_le _, rfl⟩
  rintro k s' ⟨i, m', hst, T', hJ, hi, rfl⟩
  obtain ⟨ps, hmore, htr, N'⟩ := id T'.led
  have off : ∀ b o, b ∉ [e, it] → ∀ h' : Heap, (∀ b o, b ∉ [e, it] → s'.heap.get? b = some o → h'.get? b = some o) → s'.heap.get? b = some o → h'.get? b = some o := fun b o hb h' hk x => hk b o hb x
  have hD2 : D ∉ [e, it] := fun hm => by
    rcases List.mem_cons.mp hm with q | hm
    · exact hDe q
    · exact hDi (List.mem_singleton.mp hm)
  have hT2 : (205 : Addr) ∉ [e, it] := fun hm => by
    rcases List.mem_cons.mp hm with q | hm
    · exact heT q.symm
    · exact hiT (List.mem_singleton.mp hm).symm
  have hL2 : env.locals ∉ [e, it] := fun hm => hLf (by
    rcases List.mem_cons.mp hm with q | hm
    · rw [q]; simp
    · rw [List.mem_singleton.mp hm]; simp)
  have old : ∀ b o, h₀.get? b = some o → b ∉ [e, it] := fun b o x hm => by
    rcases List.mem_cons.mp hm with q | hm
    · rw [q, he0] at x; cases x
    · rw [List.mem_singleton.mp hm, hi0] at x; cases x
  have next : ∀ h' : Heap, (∀ b o, b ∉ [e, it] → s'.heap.get? b = some o → h'.get? b = some o) → Fr h₀ env.locals h' m' ∧ News h₀ env.locals h' (([] ++ [(D, tupObj vs)]) ++ [(205, tabO ps)]) := fun h' hk =>
    ⟨⟨T'.fr.ns.at' fun o x => hk _ o hL2 x, fun b o x => hk b o (old b o x) (T'.fr.keep b o x), T'.fr.above⟩, fun p hp => by
      refine ⟨hk _ _ ?_ (N' p hp).1, (N' p hp).2⟩
      rcases List.mem_append.mp hp with hp | hp
      · rw [List.mem_singleton.mp hp]; exact hD2
      · rw [List.mem_singleton.mp hp]; exact hT2⟩
  by_cases hlt : i < vs.length
  · refine W.item i _ _ _ hlt hst fun T vals h1 tk1 hPt _ hT hMid hk1 => ?_
    obtain ⟨ti, v, hv, rfl⟩ := hPt
    replace hv : vs[i]? = some v := by simpa using hv
    refine W.go _ x1 pt i T _ _ _ hMid fun h2 hst2 hk2 => ?_
    have ht2 : h2.IsTuple T #[.int i ti, v] := hT.at fun o x => hk2 T o (W.apart i T h1 hMid) x
    refine wpAny_assign_Tuple hh ht2 rfl rfl fun h3 hx3 => ?_
    replace hx3 : Heap.ExtBut h2.objs.size h2 h3 := hx3
    have up3 : ∀ b o, h2.get? b = some o → h3.get? b = some o := fun b o x => hx3 b o (Nat.ne_of_lt (Heap.lt_size x)) x
    obtain ⟨F3, N3⟩ := next h3 fun b o hb x => up3 b o (hk2 b o hb (hk1 b o hb x))
    show wpAny _ A (do holding [v] (assign (.Name xi pk) env (.int i ti)); do holding [] (assign (.Name xc pv) env v); pure ()) _ _ _
    refine wpAny_bind (wpAny_holding (wpAny_assign_Name (wpAny_storeName_local hxi F3.ns (fun h4 hn4 hs4 => ?_) hp)))
    replace hs4 : Heap.SameBut env.locals h3 h4 := hs4
    have F4 := F3.set hn4 hs4
    refine wpAny_bind (wpAny_holding (wpAny_assign_Name (wpAny_storeName_local hxc F4.ns (fun h5 hn5 hs5 => wpAny_pure ?_) hp)))
    replace hs5 : Heap.SameBut env.locals h4 h5 := hs5
    have F5 := F4.set hn5 hs5
    have N5 := (N3.set hs4).set hs5
    have hst5 := W.frame _ _ _ hst2 fun b hb o x => hs5.extBut b o (fun q => hLf (q ▸ hb)) (hs4.extBut b o (fun q => hLf (q ▸ hb)) (up3 b o x))
    have Nown : News h₀ env.locals h5 (ownOf h₀ [e, it] h5) := news_ownOf hL2
    have hown : ∀ p ∈ ownOf h₀ [e, it] h5, p.1 ≠ 205 := fun p hp q => hT2 (q ▸ ownOf_sub p hp)
    refine wpAny_mono (step i v ti m' { s' with heap := h5, toks := tk1 + 1 + 1 } (ownOf h₀ [e, it] h5) _ hlt hv hJ hown ⟨F5, T'.gens, T'.os, ps, hmore, htr, fun p hp => ?_⟩) (fun f s3 h6 => ?_) fun _ _ x => x
    · rcases List.mem_append.mp hp with hp | hp
      · rcases List.mem_append.mp hp with hp | hp
        · exact Nown p hp
        · exact N5 p (List.mem_append_left _ hp)
      · exact N5 p (List.mem_append_right _ hp)
    · obtain ⟨rfl, m6, T6, J6⟩ := h6
      obtain ⟨ps6, hmore6, htr6, N6⟩ := id T6.led
      refine ⟨vs.length + 1 - (i + 1), by omega, i + 1, m6, ?_, ⟨T6.fr, T6.gens, T6.os, ps6, hmore6, htr6, fun p hp => ?_⟩, J6, hlt, rfl⟩
      · refine W.frame _ _ _ hst5 fun b hb o x => ?_
        have hb' : b ∈ [e, it] ∨ b = D := by
          rcases List.mem_cons.mp hb with q | hb
          · exact .inl (by simp [q])
          · rcases List.mem_cons.mp hb with q | hb
            · exact .inl (by simp [q])
            · exact .inr (List.mem_singleton.mp hb)
        rcases hb' with hb' | rfl
        · have hn : h₀.get? b = none := by
            rcases List.mem_cons.mp hb' with q | hb'
            · rw [q]; exact he0
            · rw [List.mem_singleton.mp hb']; exact hi0
          exact (N6 _ (List.mem_append_left _ (List.mem_append_left _ (mem_ownOf hb' hn x)))).1
        · have hx := (N5 (b, tupObj vs) (List.mem_append_left _ (.head _))).1
          rw [hx] at x
          cases x
          exact hTD T6
      · rcases List.mem_append.mp hp with hp | hp
        · exact N6 p (List.mem_append_left _ (List.mem_append_right _ hp))
        · exact N6 p (List.mem_append_right _ hp)
  · have hin : i = vs.length := by omega
    subst hin
    refine W.done _ _ _ hst fun h1 tk1 hk1 => wpAny_execs_nil ?_
    obtain ⟨F1, N1⟩ := next h1 hk1
    exact hR m' _ ⟨F1, T'.gens, T'.os, ps, hmore, htr, N1⟩ hJ
end

-- part Pure3
section
/-! the longest common row of three -/
def lng (u v : List Nat) : List Nat := if v.length > u.length then v else u
theorem lng_left (u v : List Nat) : u.length ≤ (lng u v).length := by unfold lng; split <;> omega
theorem lng_right (u v : List Nat) : v.length ≤ (lng u v).length := by unfold lng; split <;> omega
theorem lng_is (u v : List Nat) : lng u v = u ∨ lng u v = v := by unfold lng; split <;> simp
def t3 (a b c : List Nat) : List Nat :=
  if h : a = [] ∨ b = [] ∨ c = [] then []
  else if a.getLast? = b.getLast? ∧ b.getLast? = c.getLast? then t3 a.dropLast b.dropLast c.dropLast ++ a.getLast?.toList
  else lng (t3 a b c.dropLast) (lng (t3 a b.dropLast c) (lng (t3 a.dropLast b c) []))
termination_by a.length + b.length + c.length
decreasing_by
  all_goals
    have h1 : 0 < a.length := List.length_pos_iff.mpr (fun e => h (.inl e))
    have h2 : 0 < b.length := List.length_pos_iff.mpr (fun e => h (.inr (.inl e)))
    have h3 : 0 < c.length := List.length_pos_iff.mpr (fun e => h (.inr (.inr e)))
    simp only [List.length_dropLast]
    omega
theorem last_split {a : List Nat} (h : a ≠ []) : ∃ l x, a = l ++ [x] := ⟨a.dropLast, a.getLast h, (List.dropLast_concat_getLast h).symm⟩
theorem t3_spec (a b c : List Nat) : ((t3 a b c).Sublist a ∧ (t3 a b c).Sublist b ∧ (t3 a b c).Sublist c) ∧ ∀ p : List Nat, p.Sublist a → p.Sublist b → p.Sublist c → p.length ≤ (t3 a b c).length := by
  fun_induction t3 a b c with
  | case1 a b c h =>
    refine ⟨⟨List.nil_sublist _, List.nil_sublist _, List.nil_sublist _⟩, fun p h1 h2 h3 => ?_⟩
    rcases h with rfl | rfl | rfl
    · simpa using h1.length_le
    · simpa using h2.length_le
    · simpa using h3.length_le
  | case2 a b c h he ih =>
    have ha : a ≠ [] := fun e => h (.inl e)
    have hb : b ≠ [] := fun e => h (.inr (.inl e))
    have hc : c ≠ [] := fun e => h (.inr (.inr e))
    obtain ⟨a, x, rfl⟩ := last_split ha
    obtain ⟨b, y, rfl⟩ := last_split hb
    obtain ⟨c, z, rfl⟩ := last_split hc
    simp at he
    obtain ⟨rfl, rfl⟩ := he
    simp only [List.dropLast_concat] at ih ⊢
    obtain ⟨⟨h1, h2, h3⟩, hm⟩ := ih
    have e : (a ++ [x]).getLast?.toList = [x] := by simp
    rw [e]
    refine ⟨⟨h1.append (List.Sublist.refl _), h2.append (List.Sublist.refl _), h3.append (List.Sublist.refl _)⟩, fun p p1 p2 p3 => ?_⟩
    by_cases hp : p = []
    · subst hp; simp
    · obtain ⟨q, u, rfl⟩ := last_split hp
      have cut : ∀ l : List Nat, (q ++ [u]).Sublist (l ++ [x]) → q.Sublist l := fun l hl => by
        rcases sub_last hl with hl | ⟨q', e, hq⟩
        · exact (List.sublist_append_left q [u]).trans hl
        · have := List.append_inj_left' e rfl
          rw [this]; exact hq
      have := hm q (cut a p1) (cut b p2) (cut c p3)
      simp; omega
  | case3 a b c h he ih1 ih2 ih3 =>
    have ha : a ≠ [] := fun e => h (.inl e)
    have hb : b ≠ [] := fun e => h (.inr (.inl e))
    have hc : c ≠ [] := fun e => h (.inr (.inr e))
    obtain ⟨a, x, rfl⟩ := last_split ha
    obtain ⟨b, y, rfl⟩ := last_split hb
    obtain ⟨c, z, rfl⟩ := last_split hc
    simp at he
    simp only [List.dropLast_concat] at ih1 ih2 ih3 ⊢
    obtain ⟨⟨s1, s2, s3⟩, m1⟩ := ih1
    obtain ⟨⟨s4, s5, s6⟩, m2⟩ := ih2
    obtain ⟨⟨s7, s8, s9⟩, m3⟩ := ih3
    have up : ∀ (l p : List Nat) (u : Nat), p.Sublist l → p.Sublist (l ++ [u]) := fun l p u hp => hp.trans (List.sublist_append_left l [u])
    refine ⟨?_, fun p p1 p2 p3 => ?_⟩
    · rcases lng_is (t3 (a ++ [x]) (b ++ [y]) c) (lng (t3 (a ++ [x]) b (c ++ [z])) (lng (t3 a (b ++ [y]) (c ++ [z])) [])) with e | e <;> rw [e]
      · first | exact ⟨s1, s2, up _ _ _ s3⟩ | exact ⟨s7, s8, up _ _ _ s9⟩
      · rcases lng_is (t3 (a ++ [x]) b (c ++ [z])) (lng (t3 a (b ++ [y]) (c ++ [z])) []) with e | e <;> rw [e]
        · exact ⟨s4, up _ _ _ s5, s6⟩
        · rcases lng_is (t3 a (b ++ [y]) (c ++ [z])) [] with e | e <;> rw [e]
          · first | exact ⟨up _ _ _ s7, s8, s9⟩ | exact ⟨up _ _ _ s1, s2, s3⟩
          · exact ⟨List.nil_sublist _, List.nil_sublist _, List.nil_sublist _⟩
    · have l1 := lng_left (t3 (a ++ [x]) (b ++ [y]) c) (lng (t3 (a ++ [x]) b (c ++ [z])) (lng (t3 a (b ++ [y]) (c ++ [z])) []))
      have l2 := lng_right (t3 (a ++ [x]) (b ++ [y]) c) (lng (t3 (a ++ [x]) b (c ++ [z])) (lng (t3 a (b ++ [y]) (c ++ [z])) []))
      have l3 := lng_left (t3 (a ++ [x]) b (c ++ [z])) (lng (t3 a (b ++ [y]) (c ++ [z])) [])
      have l4 := lng_right (t3 (a ++ [x]) b (c ++ [z])) (lng (t3 a (b ++ [y]) (c ++ [z])) [])
      have l5 := lng_left (t3 a (b ++ [y]) (c ++ [z])) []
      by_cases hp : p = []
      · subst hp; simp
      · obtain ⟨q, u, rfl⟩ := last_split hp
        have cut : ∀ (l : List Nat) (v : Nat), v ≠ u → (q ++ [u]).Sublist (l ++ [v]) → (q ++ [u]).Sublist l := fun l v hv hl => by
          rcases sub_last hl with hl | ⟨q', e, hq⟩
          · exact hl
          · have := List.append_inj_right' e rfl
            simp at this
            exact absurd this.symm hv
        by_cases hx : x = u
        · by_cases hy : y = u
          · have hz : z ≠ u := fun hz => he (hx.trans hy.symm) (hy.trans hz.symm)
            have h1 := cut c z hz p3
            first
              | (have := m1 _ p1 p2 h1; omega)
              | (have := m3 _ p1 p2 h1; omega)
          · have := m2 _ p1 (cut b y hy p2) p3
            omega
        · have h1 := cut a x hx p1
          first
            | (have := m3 _ h1 p2 p3; omega)
            | (have := m1 _ h1 p2 p3; omega)
end

-- part Rec
section
open PySem PySem.W PySem.Calls PyProof.Rows PySem.Spec
def lastOf (x : Str) : Str := ⟨#[x.cps.getD (x.length - 1) 0]⟩
/-- an iterator over a tuple of the ledger -/
theorem tup_src {prog : Program} {w : World} {A : Around} {E : Value → Shared → Prop} {s : Shared} {h₀ : Heap} {L : Addr} {m : Str → Option Value} {news : List (Addr × Obj)} {Q : Value → Shared → Prop} {a : Addr} {vs : List Value} (hh : A.handled = none) (F : Fr h₀ L s.heap m) (N : News h₀ L s.heap news) (hm : (a, tupObj vs) ∈ news)
    (h : ∀ I St h', Fr h₀ L h' m → News h₀ L h' news → Src prog w A h₀ L news I [I, a] vs.length (fun i v => vs[i]? = some v) St h' → a ≠ I → Q (.ref I) { s with heap := h' }) :
    wpAny (model prog w) A (pyIter (.ref a)) Q E s := by
  have hl : s.heap.IsTuple a vs.toArray := ⟨_, (N _ hm).1, rfl, _, rfl⟩
  refine wpAny_pyIter_tuple hl ?_
  have hne : a ≠ s.heap.objs.size := Nat.ne_of_lt (nlt (N _ hm).1)
  have F1 := F.push (itT a 0)
  have N1 := N.push F (itT a 0)
  have W := Walks.tuple (prog := prog) (w := w) (A := A) hh s.heap.objs.size a hne vs.toArray
  have e : vs.toArray.size = vs.length := by simp
  have e2 : (fun (i : Nat) (v : Value) => vs.toArray[i]? = some v) = fun i v => vs[i]? = some v := by funext i v; simp
  rw [e, e2] at W
  refine h s.heap.objs.size _ _ F1 (fun q hq => N1 q (.tail _ hq)) ⟨W, ?_, ⟨⟨_, Heap.get?_push_size _ rfl, rfl, rfl⟩, hl.push _⟩, ?_, next_is_new F, fun q hq => Nat.ne_of_lt (nlt (N q hq).1)⟩ hne
  · intro b hb
    rw [Heap.size_push]
    rcases List.mem_cons.mp hb with rfl | hb
    · exact Nat.lt_succ_self _
    · rw [List.mem_singleton.mp hb]
      exact Nat.lt_succ_of_lt (nlt (N _ hm).1)
  · intro hb
    rcases List.mem_cons.mp hb with e | hb
    · exact Nat.ne_of_lt (nslt F.ns) e
    · exact (N _ hm).2.1 (List.mem_singleton.mp hb).symm
def cutL (q : Str) : Str := S q.cps.toList.dropLast
theorem getD_cut (l : List Str) (j : Nat) : cutL (l.getD j Str.empty) = (l.map cutL).getD j Str.empty := by
  rw [List.getD_eq_getElem?_getD, List.getD_eq_getElem?_getD, List.getElem?_map]
  cases l[j]? with
  | none => rfl
  | some a => rfl
def told3 (x y z : Str) : Str := S (t3 x.cps.toList y.cps.toList z.cps.toList)
theorem SelfAt.minus {h : Heap} {x C : Addr} {es : List DictEntry} {n : Nat} {ps : Array Value} (S : SelfAt h x C es n) (ht : h.get? 205 = some (tabO ps)) : SelfAt (minus h) x C es n := by
  obtain ⟨dx, h1, h2⟩ := S.dx
  have e1 : x ≠ 205 := fun e => by rw [e, ht] at h1; cases h1
  have e2 : dx ≠ 205 := fun e => by rw [e, ht] at h2; cases h2
  exact ⟨⟨dx, (minus_other h e1).trans h1, (minus_other h e2).trans h2⟩, S.q, S.f, S.no⟩
theorem offT {h₀ h : Heap} {L : Addr} {news : List (Addr × Obj)} {ps : Array Value} (N : News h₀ L h (news ++ [(205, tabO ps)])) (hc : ∀ p ∈ news, p.2.cls ≠ .none) : ∀ p ∈ news, p.1 ≠ 205 := fun p hp e => by
  have h1 := (N p (List.mem_append_left _ hp)).1
  have h2 := (N (205, tabO ps) (List.mem_append_right _ (.head _))).1
  rw [e, h2] at h1
  cases p with
  | mk a o =>
    have h1 : tabO ps = o := Option.some.inj h1
    exact hc _ hp (by rw [← h1])
/-- the table stands -/
abbrev HasT (h : Heap) : Prop := ∃ ps, h.get? 205 = some (tabO ps) ∧ TriplesOk ps.toList
def Rec3 (f : Addr) (k : Nat) (prog : Program) (w : World) (N : Nat) : Prop :=
  ∀ (A : Around) (s : Shared) (x y z : Str) (t u v : Tok) (me : Addr) (es : List DictEntry) (n : Nat), OkT w s.heap → Calm A (2 * N + k) → x.length + y.length + z.length ≤ N → N ≤ 100 → HasT s.heap → AllBare s.gens → SelfAt s.heap me 225 es n →
    GivesT prog w A (.ref f) [.ref me, .str x t, .str y u, .str z v] (fun r => ∃ t', r = .str (told3 x y z) t') s
theorem codes_len (x : Str) : x.cps.toList.length = x.length := by show _ = x.cps.size; simp
theorem last_code {x : Str} (h : x.length ≠ 0) : x.cps.toList.getLast? = some (x.cps.getD (x.length - 1) 0) := by
  have hl : x.length = x.cps.size := rfl
  rw [List.getLast?_eq_getElem?, codes_len, Array.getElem?_toList, Array.getD_eq_getD_getElem?, Array.getElem?_eq_getElem (by omega)]
  simp
theorem last_eq {x y : Str} (hx : x.length ≠ 0) (hy : y.length ≠ 0) : lastOf x = lastOf y ↔ x.cps.toList.getLast? = y.cps.toList.getLast? := by
  rw [last_code hx, last_code hy]
  unfold lastOf
  simp
theorem told3_len (x y z : Str) : (told3 x y z).length ≤ x.length := by
  have := (t3_spec x.cps.toList y.cps.toList z.cps.toList).1.1.length_le
  rw [codes_len] at this
  unfold told3
  rw [S_len]
  exact this
theorem codes_ne {x : Str} (h : x.length ≠ 0) : x.cps.toList ≠ [] := fun e => h (by rw [← codes_len, e]; rfl)
theorem told3_same {x y z : Str} (hx : x.length ≠ 0) (hy : y.length ≠ 0) (hz : z.length ≠ 0) (h : lastOf x = lastOf y ∧ lastOf y = lastOf z) : told3 (cutL x) (cutL y) (cutL z) ++ lastOf x = told3 x y z := by
  have e : t3 x.cps.toList y.cps.toList z.cps.toList = t3 x.cps.toList.dropLast y.cps.toList.dropLast z.cps.toList.dropLast ++ [x.cps.getD (x.length - 1) 0] := by
    rw [t3, dif_neg (fun q => by
      rcases q with q | q | q
      · exact codes_ne hx q
      · exact codes_ne hy q
      · exact codes_ne hz q), if_pos ⟨(last_eq hx hy).mp h.1, (last_eq hy hz).mp h.2⟩, last_code hx]
    rfl
  unfold told3
  rw [e]
  exact S_snoc _ _
theorem told3_diff {x y z : Str} (hx : x.length ≠ 0) (hy : y.length ≠ 0) (hz : z.length ≠ 0) (h : ¬ (lastOf x = lastOf y ∧ lastOf y = lastOf z)) :
    t3 x.cps.toList y.cps.toList z.cps.toList = lng (t3 x.cps.toList y.cps.toList z.cps.toList.dropLast) (lng (t3 x.cps.toList y.cps.toList.dropLast z.cps.toList) (lng (t3 x.cps.toList.dropLast y.cps.toList z.cps.toList) [])) := by
  rw [t3, dif_neg (fun q => by
      rcases q with q | q | q
      · exact codes_ne hx q
      · exact codes_ne hy q
      · exact codes_ne hz q), if_neg (fun q => h ⟨(last_eq hx hy).mpr q.1, (last_eq hy hz).mpr q.2⟩)]
/-- two tuples of the ledger, added -/
theorem add_tup {prog : Program} {w : World} {A : Around} {E : Value → Shared → Prop} {s : Shared} {h₀ : Heap} {L : Addr} {m : Str → Option Value} {news : List (Addr × Obj)} {t b : Addr} {vs ws : List Value} {Q : Value → Shared → Prop} (F : Fr h₀ L s.heap m) (N : News h₀ L s.heap news) (ht : (t, tupObj vs) ∈ news) (hb : (b, tupObj ws) ∈ news) (hsz : vs.length + ws.length ≤ 1000)
    (h : ∀ T h', Fr h₀ L h' m → News h₀ L h' ((T, tupObj (vs ++ ws)) :: news) → Q (.ref T) { s with heap := h' }) : wpAny (model prog w) A (binaryOp .Add (.ref t) (.ref b)) Q E s := by
  refine add_tuples F N (N.isTup ht) (N.isTup hb) (fun e => ?_) (fun _ e => ?_) (fun _ _ h' F' N' => h _ h' F' N') (by rw [sizeLine_eq]; omega)
  · subst e
    exact h b s.heap F fun q hq => by
      rcases List.mem_cons.mp hq with rfl | hq
      · exact N _ hb
      · exact N q hq
  · subst e
    refine h t s.heap F fun q hq => ?_
    rcases List.mem_cons.mp hq with rfl | hq
    · rw [List.append_nil]; exact N _ ht
    · exact N q hq
theorem Call_kw {M : Model} {A : Around} {E : Value → Shared → Prop} {s : Shared} {env : Env} {func : Expr} {args : List Expr} {kws : List Keyword} {pos : Pos} {Q : Value → Shared → Prop}
    (h : wpAny M A (eval func env) (fun f s₁ => wpAny M A (callWith pos f [] (backTo pos (starEach args env)) (backToKw pos (keywordEach kws env))) Q E s₁) E s)
    (he : eval (.Call func args kws pos) env = (do callWith pos (← eval func env) [] (backTo pos (starEach args env)) (backToKw pos (keywordEach kws env))) := by rfl) :
    wpAny M A (eval (.Call func args kws pos) env) Q E s := by
  rw [he]; exact wpAny_bind h
theorem ne205 {h₀ h : Heap} {L : Addr} {news : List (Addr × Obj)} {ps : Array Value} {p : Addr × Obj} (N : News h₀ L h news) (ht : (205, tabO ps) ∈ news) (hp : p ∈ news) (hc : p.2.cls ≠ .none) : p.1 ≠ 205 := fun e => by
  have h1 := (N p hp).1
  rw [e, (N _ ht).1] at h1
  cases p with
  | mk a o =>
    have h1 : tabO ps = o := Option.some.inj h1
    exact hc (by rw [← h1])
theorem call_as {M : Model} {A : Around} {E : Value → Shared → Prop} {s : Shared} {f : Value} {args : List Value} {kw kw' : List (Str × Value)} {Q : Value → Shared → Prop} (e : kw = kw') (h : wpAny M A (call f args kw') Q E s) : wpAny M A (call f args kw) Q E s := e ▸ h
/-- the best of the first i turns -/
def best (a b c : List Nat) : Nat → List Nat
  | 0 => []
  | 1 => lng (t3 a.dropLast b c) []
  | 2 => lng (t3 a b.dropLast c) (lng (t3 a.dropLast b c) [])
  | _ => lng (t3 a b c.dropLast) (lng (t3 a b.dropLast c) (lng (t3 a.dropLast b c) []))
theorem call_step {prog : Program} {w : World} {N : Nat} (H : Rec3 208 3 prog w N) : Rec3 215 4 prog w N := by
  intro A s x y z t u v me es n O C hN hN1 ⟨ps, ht, htr⟩ G S
  refine GivesT.mk ?_
  refine' enterV (n := 2 * N + 3) (vs := [.str x t, .str y u, .str z v]) (binds := fun D => [("self", .ref me), ("sequences", .ref D)]) O.ok C ?ho ?hcd ?hp ?hg ?hl ?_ ?hc ?hco ?hgen ?hk
  case ho => k_is
  case hcd => k_is
  case hp => exact rfl
  case hg => intro D; exact rfl
  case hl => intro D; exact locs rfl
  case hc => decide
  case hco => rfl
  case hgen => rfl
  case hk => rfl
  intro D L h₁ tk hDL F N1 O1 C1
  have hh := C1.hh
  have X := frame_minus F N1 ht
  clear F N1
  obtain ⟨F, N1, hnT⟩ := X
  dsimp only [List.cons_append, List.nil_append] at N1
  have O0 := (O.minus ht).ok
  have S0 := S.minus ht
  repeat boot_fact
  refine callWith_SM (w := w) (g := 108) (self := .ref me) (by k_is) ?_ (by with_unfolding_all rfl)
  repeat boot_fact
  rename Fr _ _ _ _ => F2
  rename News _ _ _ _ => N2
  refine ⟨⟨(N2 _ (.head _)).1, (O0.keeps F2.keep).k⟩, ?_⟩
  refine' Gives.useM ?gq ?g ?gF ?gN ?_
  case gF => exact F2
  case gN => exact N2
  case gq => exact .head _
  case g => exact getseq3 (O0.keeps F2.keep) (C1.le (by omega)) (S0.keeps F2.keep) (.inl rfl)
  intro v h3 tk3 hR F3 N3
  obtain ⟨a, k, rfl, N4⟩ := newsOfRet F2 hR
  have N5 : News (minus s.heap) L h3 [(a, listOf [Value.str x t, .str y u, .str z _].toArray k), (205, tabO ps)] := fun q hq => by
    rcases List.mem_cons.mp hq with rfl | hq
    · exact N4 _ (.head _)
    · exact N3 q (by simp only [List.mem_singleton] at hq; rw [hq]; simp)
  clear N3 N2 N4 F2 F
  repeat boot_fact
  rename Fr _ _ _ _ => F5
  rename News _ _ _ _ => N5
  refine PyProof.Rows.len_list (N5.isList (.head _)) (by simp) ?_
  repeat boot_fact
  refine callWith_SM (w := w) (g := 208) (self := .ref me) (by k_is) ?_ (by with_unfolding_all rfl)
  repeat boot_fact
  rename Fr _ _ _ _ => F2
  rename News _ _ _ _ => N2
  refine ⟨⟨(N2 _ (.head _)).1, (O0.keeps F2.keep).k⟩, ?_⟩
  have O2 : OkT w _ := (O.minus ht).keeps F2.keep
  refine' GivesT.useM (news := [(_, methodObj (.ref 208) (.ref me)), (a, listOf [Value.str x t, .str y u, .str z _].toArray k)]) ?gq3 ?g3 ?gF3 ?gN3 htr G ?gn3 ?_
  case gF3 => exact F2
  case gN3 => exact N2
  case gq3 => exact .head _
  case gn3 => exact offT N2 (by simp)
  case g3 => exact H _ _ x y z _ _ _ me es n O2 (C1.le (by omega)) hN hN1 ⟨ps, (N2 _ (.tail _ (.tail _ (.head _)))).1, htr⟩ G (S0.keeps F2.keep)
  rintro v s6 ps6 ⟨t', rfl⟩ hm6 tr6 G6 os6 F6 N6
  repeat boot_fact
  exact ⟨⟨_, rfl⟩, KeptT.of F6 N6 os6 (fun _ => G6) ht hm6 tr6⟩
theorem rec_step {prog : Program} {w : World} {N : Nat} (H : ∀ M, M < N → Rec3 215 4 prog w M) : Rec3 208 3 prog w N := by
  intro A s x y z t u v me es n O C hN hN1 ⟨ps, ht, htr⟩ G S
  refine GivesT.mk ?_
  refine' enterV (n := 2 * N + 2) (vs := [.str x t, .str y u, .str z v]) (binds := fun D => [("self", .ref me), ("sequences", .ref D)]) O.ok C ?ho ?hcd ?hp ?hg ?hl ?_ ?hc ?hco ?hgen ?hk
  case ho => k_is
  case hcd => k_is
  case hp => exact rfl
  case hg => intro D; exact rfl
  case hl => intro D; exact locs rfl
  case hc => decide
  case hco => rfl
  case hgen => rfl
  case hk => rfl
  intro D L h₁ tk hDL F N1 O1 C1
  have hh := C1.hh
  have X := frame_minus F N1 ht
  clear F N1
  obtain ⟨F, N1, hnT⟩ := X
  dsimp only [List.cons_append, List.nil_append] at N1
  have O0 := (O.minus ht).ok
  have S0 := S.minus ht
  repeat boot_fact
  refine all_tup (o := tupObj [.str x t, .str y u, .str z v]) hh F N1 (.head _) (.inl rfl) (.cons x t (.cons y u (.cons z v .nil))) (by simp; omega) fun h2 tk2 F2 N2 => ?_
  clear F N1
  repeat boot_fact
  refine PyProof.Rows.split_bool (fun c1 => ?_) (fun c1 => ?_)
  · have c1 : x.length = 0 ∨ y.length = 0 ∨ z.length = 0 := by
      simp at c1
      omega
    repeat boot_fact
    refine' read_tup N2 (.head _) (k := 0) rfl (by omega) rfl ?_ ?v1 ?v2
    case v1 => with_unfolding_all rfl
    case v2 => intro _; with_unfolding_all rfl
    repeat boot_fact
    refine' slice_strN_ns ?s1 ?s2 ?_ ?s3 ?s4 ?s5
    case s1 => exact F2
    case s2 => exact N2
    case s3 => with_unfolding_all rfl
    case s4 => intro _; with_unfolding_all rfl
    case s5 => rw [sizeLine_eq]; omega
    intro h4 t4 tk4 F4 N4
    rw [cut_none]
    repeat boot_fact
    refine ⟨⟨t4, ?_⟩, KeptT.of (news := [(D, tupObj [.str x t, .str y u, .str z v])]) F4 N4 rfl (fun g => g) ht ⟨#[], by simp⟩ htr⟩
    have : t3 x.cps.toList y.cps.toList z.cps.toList = [] := by
      rw [t3, dif_pos]
      have e : ∀ q : Str, q.length = 0 → q.cps.toList = [] := fun q hq => by
        have : q.cps.size = 0 := hq
        simpa using this
      rcases c1 with c1 | c1 | c1
      · exact .inl (e _ c1)
      · exact .inr (.inl (e _ c1))
      · exact .inr (.inr (e _ c1))
    unfold told3
    rw [this]
  · have c1 : x.length ≠ 0 ∧ y.length ≠ 0 ∧ z.length ≠ 0 := by
      simp at c1
      omega
    repeat boot_fact
    refine' listcomp (h₀ := minus s.heap) (L := L) 3 (fun _ => true) (fun _ i q _ => ∃ t, q = Value.str (lastOf ([x, y, z].getD i Str.empty)) t) ?l1 ?l2 ?l3 ?l4 ?l5 ?l6 ?l7 ?_ ?l9
    case l1 => rfl
    case l2 => decide
    case l3 => rfl
    case l4 => decide
    case l5 => rfl
    case l6 => exact fun _ _ _ _ _ g _ => g
    case l7 => rintro _ _ _ _ ⟨t, rfl⟩ b hb; cases hb
    case l9 => intro _; rfl
    repeat boot_fact
    refine' tup_src hh ?k1 ?k2 (.head _) ?_
    case k1 => exact F2
    case k2 => exact N2
    intro I St h3 F3 N3 S3 hDI
    refine ⟨_, _, F3, N3, S3.newL, ⟨⟨I, [I, D], _, St, rfl, S3.walks, S3.low, by rw [sizeLine_eq]; decide, S3.st, ?_, ?_⟩⟩, ?_⟩
    · intro i q s₃ m₃ hi hq hn hm hk
      exact tests_none ⟨rfl, (Kept.rfl' _).toC hn⟩
    · intro i q s₃ m₃ hi hq _ hn hm hk
      obtain ⟨r, tr, rfl, hr, hr0⟩ : ∃ r tr, q = Value.str r tr ∧ [x, y, z].getD i Str.empty = r ∧ r.length ≠ 0 ∧ r.length ≤ 100 := by
        have : i = 0 ∨ i = 1 ∨ i = 2 := by omega
        rcases this with rfl | rfl | rfl
        · exact ⟨x, t, (Option.some.inj hq).symm, rfl, c1.1, by omega⟩
        · exact ⟨y, u, (Option.some.inj hq).symm, rfl, c1.2.1, by omega⟩
        · exact ⟨z, v, (Option.some.inj hq).symm, rfl, c1.2.2, by omega⟩
      rw [hr]
      obtain ⟨all, F6, N6, hk0, hall⟩ := comp_frame (cells := []) F3 N3 S3.base (fun q hq => nomatch hq) (fun q hq => nomatch hq) hn hk
      clear F3 N3 F2 N2
      repeat boot_fact
      refine' PyProof.Rows.item_str (by decide) (by omega) (by omega) (fun _ => ?_) ?w1 ?w2
      case w1 => with_unfolding_all rfl
      case w2 => intro _; with_unfolding_all rfl
      rw [item_last (by omega)]
      exact ⟨⟨_, rfl⟩, ⟨_, _, rfl, fun b o _ e => e, hn⟩, fun b hb => by cases hb⟩
    · intro h8 tk8 ys k8 F8 N8 hap hP
      obtain ⟨ta, tb, tc, rfl⟩ : ∃ ta tb tc, ys = #[.str (lastOf x) ta, .str (lastOf y) tb, .str (lastOf z) tc] := by
        have hys := strs_paired hP
        have e : ((List.range 3).filter (fun _ => true)).map (fun i => lastOf ([x, y, z].getD i Str.empty)) = [lastOf x, lastOf y, lastOf z] := rfl
        rw [e] at hys
        obtain ⟨l⟩ := ys
        replace hys : StrsAre l [lastOf x, lastOf y, lastOf z] := hys
        cases hys with
        | cons _ ta r => cases r with
          | cons _ tb r => cases r with
            | cons _ tc r => cases r; exact ⟨ta, tb, tc, rfl⟩
      clear F2 N2 F3 N3 hP hap S3
      repeat boot_fact
      rename Fr _ _ _ _ => F9
      rename News _ _ _ _ => N9
      refine' Gives.use ?g1 ?g2 ?g3 ?_
      case g2 => exact F9
      case g3 => exact N9
      case g1 => exact ident3 (O0.keeps F9.keep) (C1.le (by omega))
      rintro vb h10 tk10 rfl F10 N10
      replace N10 : News (minus s.heap) L h10 [(D, tupObj [.str x t, .str y u, .str z v]), (205, tabO ps)] := fun q hq => N10 q (.tail _ hq)
      clear F9 N9 F8 N8
      repeat boot_fact
      refine PyProof.Rows.split_bool (fun c2 => ?_) (fun c2 => ?_)
      · have c2 := of_decide_eq_true c2
        repeat boot_fact
        refine' read_tup N10 (.head _) (k := 0) rfl (by omega) rfl ?_ ?e1 ?e2
        case e1 => with_unfolding_all rfl
        case e2 => intro _; with_unfolding_all rfl
        repeat boot_fact
        refine' PyProof.Rows.item_str (by decide) (by omega) (by omega) (fun _ => ?_) ?e3 ?e4
        case e3 => with_unfolding_all rfl
        case e4 => intro _; with_unfolding_all rfl
        rw [item_last (by omega)]
        repeat boot_fact
        rename Fr _ _ _ _ => F11
        rename News _ _ _ _ => N11
        obtain ⟨mg, bm, ob, BM⟩ := ((O.minus ht).keeps F11.keep).b
        obtain ⟨hcode, hcc⟩ := code208 (O0.keeps F11.keep) (N11 _ (.tail _ (.head _))).1 htr
        have lo1 := nlt (N11 (D, tupObj [.str x t, .str y u, .str z v]) (.head _)).1
        have lo2 := nlt (N11 (205, tabO ps) (.tail _ (.head _))).1
        have lo3 := nslt F11.ns
        have lo4 := Nat.le_trans F11.above (Nat.le_of_lt lo3)
        refine' gen_texts (news := [(D, tupObj [.str x t, .str y u, .str z v])]) (ps := ps) (ks := [x, y, z]) (cl := []) (P := 205) (c := 207) cutL ?j1 ?j2 G ?j3 hcode hcc (by decide) BM ?j4 (.head _) ?j5 ?j6 ?j7 hh ?j8 ?j9 ?j10 ?j11 ?j12 ?j13 ?j14 ?j15 ?j16 ?_ ?j17
        case j1 => exact F11
        case j2 => exact N11
        case j3 => exact (O0.keeps F11.keep).lim
        case j4 => rfl
        case j5 => exact .cons x t (.cons y u (.cons z v .nil))
        case j6 => simp; omega
        case j7 => exact offT N11 (by simp)
        case j8 => rfl
        case j9 => rfl
        case j10 => decide
        case j11 => rfl
        case j12 => rfl
        case j13 => rfl
        case j14 => have := C1.hd; omega
        case j15 => intro Q' hQ'; exact nmE_L (by with_unfolding_all rfl) (by with_unfolding_all rfl) (by decide) F11 (by with_unfolding_all rfl) (by with_unfolding_all rfl) hQ'
        case j17 => intro _; rfl
        case j16 =>
          intro A' E' C code u₂ m₂ q tq Q' hn hmx hql hQ'
          refine Subscript_ ?_
          refine wpAny_Name (wpAny_loadName_local (by with_unfolding_all rfl) (by with_unfolding_all rfl) hn hmx ?_) (by decide)
          repeat boot_fact
          refine tail_of_ItemOn (SBH.sliceItem_ns (P := fun h => ∀ b o, u₂.heap.get? b = some o → h.get? b = some o) (fun h ob k b o e => Heap.get?_push_of_some _ (k b o e)) (fun b o e => e) (fun h' t' k hk => ?_) (by rw [sizeLine_eq]; omega)) (by with_unfolding_all rfl) (by intro _; with_unfolding_all rfl)
          rw [cut_last]
          exact hQ' h' t' k hk
        intro a s12 ps12 hm12 tr12 F12 N12 G12 os12 X12
        clear F11 N11 F10 N10
        dsimp only [List.cons_append, List.nil_append] at N12
        repeat boot_fact
        have e12 : (fun (j : Nat) (q : Value) => ∃ t, q = Value.str (cutL ([x, y, z].getD j Str.empty)) t) = fun j q => ∃ t, q = Value.str (([x, y, z].map cutL).getD j Str.empty) t := by
          funext j q
          rw [getD_cut]
        rw [e12] at X12
        refine' tuple_texts (ks := [cutL x, cutL y, cutL z]) F12 N12 G12 X12 rfl ?i1 lo3 lo4 (by simp) ?_
        case i1 =>
          intro p hp
          rcases List.mem_cons.mp hp with rfl | hp
          · exact lo1
          · rw [List.mem_singleton.mp hp]; exact lo2
        intro T s13 ys F13 N13 hys G13 os13
        obtain ⟨ta, tb, tc, rfl⟩ : ∃ ta tb tc, ys = [.str (cutL x) ta, .str (cutL y) tb, .str (cutL z) tc] := by
          cases hys with
          | cons _ ta r => cases r with
            | cons _ tb r => cases r with
              | cons _ tc r => cases r; exact ⟨ta, tb, tc, rfl⟩
        clear F12 N12 X12 e12
        repeat boot_fact
        refine s_star (x := me) (C := 225) (es := es) (n := n) ?_ (by with_unfolding_all rfl)
        repeat boot_fact
        rename Fr _ _ _ _ => F14
        rename News _ _ _ _ => N14
        refine ⟨S0.keeps F14.keep, ?_⟩
        dsimp only [List.nil_append]
        have hcl : ∀ q : Str, q.length ≠ 0 → (cutL q).length + 1 = q.length := fun q hq => by
          have e : q.cps.toList.length = q.length := by show _ = q.cps.size; simp
          show q.cps.toList.dropLast.toArray.size + 1 = _
          rw [List.size_toArray, List.length_dropLast, e]
          omega
        have l1 := hcl x c1.1
        have l2 := hcl y c1.2.1
        have l3 := hcl z c1.2.2
        have O14 : OkT w _ := (O.minus ht).keeps F14.keep
        refine' GivesT.use (news := [(T, tupObj [.str (cutL x) ta, .str (cutL y) tb, .str (cutL z) tc]), (D, tupObj [.str x t, .str y u, .str z v])]) ?h1 ?h2 ?h3 tr12 G13 ?h4 ?_
        case h2 => exact F14
        case h3 => exact N14
        case h4 => exact offT N14 (by simp)
        case h1 => exact GivesT.self O14.ok (S0.keeps F14.keep) (H (N - 3) (by omega) _ _ (cutL x) (cutL y) (cutL z) _ _ _ me es n O14 (C1.le (by omega)) (by omega) (by omega) ⟨ps12, (N14 _ (.tail _ (.tail _ (.head _)))).1, tr12⟩ G13 (S0.keeps F14.keep)) (by k_is) (by k_is) (by k_is)
        rintro vr s15 ps15 ⟨t15, rfl⟩ hm15 tr15 G15 os15 F15 N15
        repeat boot_fact
        have htl := told3_len (cutL x) (cutL y) (cutL z)
        refine PyProof.Rows.add_str (fun t7 tk7 => ?_) (by rw [sizeLine_eq]; show _ + 1 ≤ _; omega)
        refine ⟨⟨t7, congrArg (fun q => Value.str q t7) (told3_same c1.1 c1.2.1 c1.2.2 c2)⟩, KeptT.of F15 N15 (os15.trans (os13.trans os12)) (fun _ => G15) ht ?_ tr15⟩
        obtain ⟨m1, rfl⟩ := hm15
        obtain ⟨m2, rfl⟩ := hm12
        exact ⟨m2 ++ m1, by simp⟩
      · have c2 := of_decide_eq_false c2
        repeat boot_fact
        refine' read_tup N10 (.head _) (k := 0) rfl (by omega) rfl ?_ ?e5 ?e6
        case e5 => with_unfolding_all rfl
        case e6 => intro _; with_unfolding_all rfl
        repeat boot_fact
        refine' slice_strN_ns ?s11 ?s12 ?_ ?s13 ?s14 ?s15
        case s11 => exact F10
        case s12 => exact N10
        case s13 => with_unfolding_all rfl
        case s14 => intro _; with_unfolding_all rfl
        case s15 => rw [sizeLine_eq]; omega
        intro h11 t11 tk11 F11 N11
        rw [cut_none]
        repeat boot_fact
        refine wpAny_For ?_ (by intro _; rfl)
        repeat boot_fact
        rename Fr _ _ _ _ => F12
        rename News _ _ _ _ => N12
        refine call_enum_tuple F12 N12 (.head _) fun e it h13 F13 N13 he hit hTT hne heL hiL he0 hi0 hoff => ?_
        repeat boot_fact
        refine wpAny_pyIter_enum he ?_
        clear F12 N12 F11 N11 F10 N10
        have hoffD := hoff _ (.head _)
        have hoffT := hoff (205, tabO ps) (.tail _ (.head _))
        have hDT := offT (news := [(D, tupObj [.str x t, .str y u, .str z v])]) N13 (by simp) _ (.head _)
        refine enum_loop (ps₀ := ps) hh (by with_unfolding_all rfl) (by with_unfolding_all rfl) (by with_unfolding_all rfl) (fun i m => m "self" = some (.ref me) ∧ m "sequences" = some (.ref D) ∧ ∃ tm, m "m" = some (.str (Mine.S (best x.cps.toList y.cps.toList z.cps.toList i)) tm))
          ⟨F13, G, rfl, ps, ⟨#[], by simp⟩, htr, N13⟩ he hit hne heL hiL he0 hi0 hoffD.1 hoffD.2 hoffT.1.symm hoffT.2.symm (offT (news := [(D, tupObj [.str x t, .str y u, .str z v])]) N13 (by simp) _ (.head _)) ⟨rfl, rfl, _, rfl⟩ ?turn ?done
        case turn =>
          clear F13 N13 he hit hTT
          rintro i q ti m₁ s₁ own E' hi hq ⟨e1, e2, tm, e3⟩ hown ⟨F, Gs, oss, ps1, hm1, tr1, N1⟩
          have hi3 : i = 0 ∨ i = 1 ∨ i = 2 := by simp at hi; omega
          have hcl : ∀ q : Str, q.length ≠ 0 → (cutL q).length + 1 = q.length := fun q hq => by
            show q.cps.toList.dropLast.toArray.size + 1 = _
            rw [List.size_toArray, List.length_dropLast, codes_len]
            omega
          have l1 := hcl x c1.1
          have l2 := hcl y c1.2.1
          have l3 := hcl z c1.2.2
          obtain ⟨r, tr', rfl, hr, hsub⟩ : ∃ r tr', q = .str r tr' ∧ r.length ≤ 100 ∧ ∀ tc : Tok, ∃ (a b c : Str) (ta tb td : Tok), ([Value.str x t, .str y u, .str z v].take i ++ [.str (cutL r) tc]) ++ [Value.str x t, .str y u, .str z v].drop (i + 1) = [.str a ta, .str b tb, .str c td] ∧
              a.length + b.length + c.length + 1 = x.length + y.length + z.length ∧ lng (t3 a.cps.toList b.cps.toList c.cps.toList) (best x.cps.toList y.cps.toList z.cps.toList i) = best x.cps.toList y.cps.toList z.cps.toList (i + 1) := by
            rcases hi3 with rfl | rfl | rfl
            · exact ⟨x, t, (Option.some.inj hq).symm, by omega, fun tc => ⟨cutL x, y, z, tc, u, v, rfl, by omega, rfl⟩⟩
            · exact ⟨y, u, (Option.some.inj hq).symm, by omega, fun tc => ⟨x, cutL y, z, t, tc, v, rfl, by omega, rfl⟩⟩
            · exact ⟨z, v, (Option.some.inj hq).symm, by omega, fun tc => ⟨x, y, cutL z, t, u, tc, rfl, by omega, rfl⟩⟩
          replace F : Fr (minus s.heap) L s₁.heap _ := F
          replace N1 : News (minus s.heap) L s₁.heap _ := N1
          have hmD : (D, tupObj [.str x t, .str y u, .str z v]) ∈ (own ++ [(D, tupObj [.str x t, .str y u, .str z v])]) ++ [(205, tabO ps1)] := List.mem_append_left _ (List.mem_append_right _ (.head _))
          repeat boot_fact
          refine' slice_tuple_upto (a := i) rfl ?k1 ?k2 (N1.isTup hmD) (by omega) (by simp) ?_ ?k3 ?k4
          case k1 => exact F
          case k2 => exact N1
          case k3 => with_unfolding_all rfl
          case k4 => intro _; with_unfolding_all rfl
          intro h2 F2 N2
          repeat boot_fact
          refine' slice_strN_ns ?k5 ?k6 ?_ ?k7 ?k8 ?k9
          case k5 => exact F2
          case k6 => exact N2
          case k7 => with_unfolding_all rfl
          case k8 => intro _; with_unfolding_all rfl
          case k9 => rw [sizeLine_eq]; omega
          intro h3 t3' tk3 F3 N3
          rw [cut_last]
          clear F2 N2
          repeat boot_fact
          rename Fr _ _ _ _ => F4
          rename News _ _ _ _ => N4
          refine' add_tup ?k10 ?k11 (.tail _ (.head _)) (.head _) ?k19 ?_
          case k10 => exact F4
          case k11 => exact N4
          case k19 => simp; omega
          intro T1 h5 F5 N5
          clear F4 N4
          repeat boot_fact
          refine' slice_tuple_after (a := i + 1) ?k12 ?k13 ?k14 (N5.isTup (.tail _ (.tail _ (.tail _ hmD)))) (by omega) (by simp; omega) (by simp) ?_ ?k15 ?k16
          case k12 => omega
          case k13 => exact F5
          case k14 => exact N5
          case k15 => with_unfolding_all rfl
          case k16 => intro _; with_unfolding_all rfl
          intro h6 F6 N6
          clear F5 N5
          refine' add_tup ?k17 ?k18 (.tail _ (.head _)) (.head _) ?k20 ?_
          case k17 => exact F6
          case k18 => exact N6
          case k20 => simp; omega
          intro T2 h7 F7 N7
          obtain ⟨a, b, c, ta, tb, td, hlist, hsum, hbest⟩ := hsub t3'
          rw [show cutL r = Mine.S r.cps.toList.dropLast from rfl] at hlist
          rw [hlist] at N7
          clear F6 N6
          replace N7 : News (minus s.heap) L h7 ((T2, tupObj [.str a ta, .str b tb, .str c td]) :: ((own ++ [(D, tupObj [.str x t, .str y u, .str z v])]) ++ [(205, tabO ps1)])) := fun p hp => by
            rcases List.mem_cons.mp hp with rfl | hp
            · exact N7 _ (.head _)
            · exact N7 p (.tail _ (.tail _ (.tail _ (.tail _ (.tail _ hp)))))
          repeat boot_fact
          refine Call_kw ?_ (by with_unfolding_all rfl)
          repeat boot_fact
          refine callWith_kw ?_ (by with_unfolding_all rfl) (by with_unfolding_all rfl) (by with_unfolding_all rfl) (by with_unfolding_all rfl)
          repeat boot_fact
          refine s_star (x := me) (C := 225) (es := es) (n := n) ?_ (by with_unfolding_all rfl)
          repeat boot_fact
          rename Fr _ _ _ _ => F14
          rename News _ _ _ _ => N14
          clear F7 N7
          refine ⟨S0.keeps F14.keep, ?_⟩
          dsimp only [List.nil_append]
          have O14 : OkT w _ := (O.minus ht).keeps F14.keep
          have hT2 : T2 ≠ 205 := ne205 N14 (.tail _ (List.mem_append_right _ (.head _))) (.head _) (by simp)
          refine' GivesT.use (news := (T2, tupObj [.str a ta, .str b tb, .str c td]) :: (own ++ [(D, tupObj [.str x t, .str y u, .str z v])])) ?h1 ?h2 ?h3 tr1 Gs ?h4 ?_
          case h2 => exact F14
          case h3 => exact N14
          case h4 =>
            intro p hp
            rcases List.mem_cons.mp hp with rfl | hp
            · exact hT2
            · rcases List.mem_append.mp hp with hp | hp
              · exact hown p hp
              · rw [List.mem_singleton.mp hp]; exact hDT
          case h1 => exact GivesT.self O14.ok (S0.keeps F14.keep) (H (N - 1) (by omega) _ _ a b c _ _ _ me es n O14 (C1.le (by omega)) (by omega) (by omega) ⟨ps1, (N14 _ (.tail _ (List.mem_append_right _ (.head _)))).1, tr1⟩ Gs (S0.keeps F14.keep)) (by k_is) (by k_is) (by k_is)
          rintro vr s15 ps15 ⟨t15, rfl⟩ hm15 tr15 G15 os15 F15 N15
          clear F14 N14
          repeat boot_fact
          refine kwAll_cons ?_
          repeat boot_fact
          refine kwAll_nil ?_
          refine call_as (kw' := [(Str.ofString "key", .builtin "len")]) (by with_unfolding_all rfl) ?_
          rename Fr _ _ _ _ => F16
          rename News _ _ _ _ => N16
          have htl := told3_len a b c
          have hbl : (best x.cps.toList y.cps.toList z.cps.toList i).length ≤ 1000 := by
            have h1 := (t3_spec x.cps.toList.dropLast y.cps.toList z.cps.toList).1.1.length_le
            have h2 := (t3_spec x.cps.toList y.cps.toList.dropLast z.cps.toList).1.1.length_le
            rw [List.length_dropLast, codes_len] at h1
            rw [codes_len] at h2
            rcases hi3 with rfl | rfl | rfl
            · show 0 ≤ 1000; omega
            · show (lng _ _).length ≤ 1000
              rcases lng_is (t3 x.cps.toList.dropLast y.cps.toList z.cps.toList) [] with e | e <;> rw [e]
              · omega
              · show 0 ≤ 1000; omega
            · show (lng _ (lng _ _)).length ≤ 1000
              rcases lng_is (t3 x.cps.toList y.cps.toList.dropLast z.cps.toList) (lng (t3 x.cps.toList.dropLast y.cps.toList z.cps.toList) []) with e | e <;> rw [e]
              · omega
              · rcases lng_is (t3 x.cps.toList.dropLast y.cps.toList z.cps.toList) [] with e | e <;> rw [e]
                · omega
                · show 0 ≤ 1000; omega
          have hSb : (Mine.S (best x.cps.toList y.cps.toList z.cps.toList i)).length = (best x.cps.toList y.cps.toList z.cps.toList i).length := S_len _
          refine' kmb_max_two ((told3 a b c).length : Int) ((best x.cps.toList y.cps.toList z.cps.toList i).length : Int) hh ?q1 ?q2 ?q7 ?q3 ?q4 ?q5 ?q6
          case q1 => exact F16
          case q2 => exact N16
          case q7 => exact fun h' F' N' => N'.isList (.head _)
          case q3 =>
            intro h' tk' own' F' N'
            refine PyProof.Rows.len_str (by omega) ?_
            exact ⟨_, _, _, rfl, rfl, F', N'⟩
          case q4 =>
            intro h' tk' own' F' N'
            refine PyProof.Rows.len_str (by omega) ?_
            rw [hSb]
            exact ⟨_, _, _, rfl, rfl, F', N'⟩
          case q5 =>
            intro hk h' tk' F' N'
            have e15 : told3 a b c = Mine.S (best x.cps.toList y.cps.toList z.cps.toList (i + 1)) := by
              rw [← hbest]
              have h1 : (told3 a b c).length = (t3 a.cps.toList b.cps.toList c.cps.toList).length := S_len _
              unfold lng
              rw [if_neg (by omega)]
              rfl
            rw [e15]
            clear F16 N16
            repeat boot_fact
            rename Fr _ _ _ _ => F17
            rename News _ _ _ _ => N17
            refine ⟨rfl, _, ⟨F17, G15, os15.trans oss, ps15, ?_, tr15, fun p hp => N17 p (.tail _ (.tail _ hp))⟩, e1, e2, _, rfl⟩
            obtain ⟨m1, rfl⟩ := hm15
            obtain ⟨m2, rfl⟩ := hm1
            exact ⟨m2 ++ m1, by simp⟩
          case q6 =>
            intro hk h' tk' F' N'
            have e15 : best x.cps.toList y.cps.toList z.cps.toList i = best x.cps.toList y.cps.toList z.cps.toList (i + 1) := by
              rw [← hbest]
              have h1 : (told3 a b c).length = (t3 a.cps.toList b.cps.toList c.cps.toList).length := S_len _
              unfold lng
              rw [if_pos (by omega)]
            rw [e15]
            clear F16 N16
            repeat boot_fact
            rename Fr _ _ _ _ => F17
            rename News _ _ _ _ => N17
            refine ⟨rfl, _, ⟨F17, G15, os15.trans oss, ps15, ?_, tr15, fun p hp => N17 p (.tail _ (.tail _ hp))⟩, e1, e2, _, rfl⟩
            obtain ⟨m1, rfl⟩ := hm15
            obtain ⟨m2, rfl⟩ := hm1
            exact ⟨m2 ++ m1, by simp⟩
        case done =>
          rintro m₁ s₁ ⟨F, Gs, oss, ps1, hm1, tr1, N1⟩ ⟨e1, e2, tm, e3⟩
          repeat boot_fact
          refine ⟨⟨tm, ?_⟩, KeptT.of F N1 oss (fun _ => Gs) ht hm1 tr1⟩
          unfold told3
          rw [told3_diff c1.1 c1.2.1 c1.2.2 c2]
          rfl
theorem rec_all {prog : Program} {w : World} (N : Nat) : Rec3 215 4 prog w N := by
  induction N using Nat.strongRecOn with
  | ind N ih => exact call_step (rec_step ih)
end

-- part Sim3
section
open PySem PySem.W PySem.Calls PyProof.Rows PySem.Spec
theorem sim_three {prog : Program} {w : World} {A : Around} {s : Shared} {x y z : Str} {t u v : Tok} {me : Addr} {es : List DictEntry} {n : Nat} (O : OkT w s.heap) (C : Calm A 50) (hN : x.length + y.length + z.length ≤ 20) (T : HasT s.heap) (G : AllBare s.gens) (S : SelfAt s.heap me 225 es n) :
    GivesT prog w A (.ref 222) [.ref me, .str x t, .str y u, .str z v] (fun r => ∃ t', r = .int ((told3 x y z).length : Int) t') s := by
  obtain ⟨ps, ht, htr⟩ := T
  refine GivesT.mk ?_
  refine' enterV (n := 49) (vs := [.str x t, .str y u, .str z v]) (binds := fun D => [("self", .ref me), ("sequences", .ref D)]) O.ok C ?ho ?hcd ?hp ?hg ?hl ?_ ?hc ?hco ?hgen ?hk
  case ho => k_is
  case hcd => k_is
  case hp => exact rfl
  case hg => intro D; exact rfl
  case hl => intro D; exact locs rfl
  case hc => decide
  case hco => rfl
  case hgen => rfl
  case hk => rfl
  intro D L h₁ tk hDL F N1 O1 C1
  have hh := C1.hh
  have X := frame_minus F N1 ht
  clear F N1
  obtain ⟨F, N1, hnT⟩ := X
  dsimp only [List.cons_append, List.nil_append] at N1
  have O0 := (O.minus ht).ok
  have S0 := S.minus ht
  repeat boot_fact
  refine s_star (x := me) (C := 225) (es := es) (n := n) ?_ (by with_unfolding_all rfl)
  repeat boot_fact
  rename Fr _ _ _ _ => F2
  rename News _ _ _ _ => N2
  refine ⟨S0.keeps F2.keep, ?_⟩
  dsimp only [List.nil_append]
  have O2 : OkT w _ := (O.minus ht).keeps F2.keep
  refine' GivesT.use (news := [(D, tupObj [.str x t, .str y u, .str z v])]) ?g ?gF ?gN htr G ?gn ?_
  case gF => exact F2
  case gN => exact N2
  case gn => exact hnT
  case g => exact GivesT.self O2.ok (S0.keeps F2.keep) (rec_all 20 _ _ x y z _ _ _ me es n O2 (C1.le (by omega)) hN (by omega) ⟨ps, (N2 _ (.tail _ (.head _))).1, htr⟩ G (S0.keeps F2.keep)) (by k_is) (by k_is) (by k_is)
  rintro v s6 ps6 ⟨t', rfl⟩ hm6 tr6 G6 os6 F6 N6
  have htl := told3_len x y z
  repeat boot_fact
  refine ⟨⟨_, rfl⟩, KeptT.of F6 N6 os6 (fun _ => G6) ht hm6 tr6⟩
end

-- part CompCell
section
open PySem PySem.W PySem.Calls PyProof.Rows PySem.Spec
/-! a comprehension whose target is captured by one within; its elements are texts -/
section
variable {prog : Program} {w : World} {A : Around} {env : Env}
abbrev CellIs (h : Heap) (K : Addr) (v : Option Value) : Prop := ∃ o, h.get? K = some o ∧ o.data = .cell v
theorem comp_loopC {R : Result → Shared → Prop} {s : Shared} {elt iter : Expr} {x : Str} {px : Pos} {scope : Scope} {pos : Pos} {I D K : Addr} {fp wr : List Addr} {n : Nat} {P : Nat → Value → Prop} {St : Nat → Heap → Prop}
    {cenv : Env} {m : Str → Option Value} (W : Walks prog w A I fp wr n P St) (g : Nat → Str)
    (hx : cenv.kindOf x = some .cell) (hkf : cenv.scope.kind = .function) (hc : cenv.cells.lookup x = some K)
    (hDl : D < cenv.locals) (hDf : D ∉ fp) (hfl : ∀ b ∈ fp, b < cenv.locals) (hK : cenv.locals < K)
    (hst : St 0 s.heap) (hacc : s.heap.PlainList D #[]) (hn : s.heap.Ns cenv.locals m) (hcell : ∃ v₀, CellIs s.heap K v₀)
    (helt : ∀ i v s₂, i < n → P i v → s₂.heap.Ns cenv.locals m → CellIs s₂.heap K (some v) → (∀ b o, b ≠ cenv.locals → b ∉ wr → b ≠ D → b ≠ K → s.heap.get? b = some o → s₂.heap.get? b = some o) →
      wpAny (model prog w) A (eval elt cenv) (fun y s₃ => (∃ t, y = .str (g i) t) ∧ KeptC cenv.locals m s₂ s₃) (fun _ _ => False) s₂)
    (hR : ∀ h' tk ys, h'.Ns cenv.locals m → h'.PlainList D ys → Paired (fun i y => ∃ t, y = Value.str (g i) t) (List.range n) ys.toList →
      (∀ b o, b ≠ cenv.locals → b ∉ wr → b ≠ D → b ≠ K → s.heap.get? b = some o → h'.get? b = some o) → R (.ok .next) { s with heap := h', toks := tk })
    (hsz : n ≤ sizeLine) :
    codeAny (model prog w) A (.compLoop (.ListComp elt [⟨.Name x px, iter, [], 0⟩] scope pos) 0 (.ref I) (.ref D) cenv) R s := by
  have hDC : D ≠ cenv.locals := Nat.ne_of_lt hDl
  have hCf : cenv.locals ∉ fp := fun h => Nat.lt_irrefl _ (hfl _ h)
  have hCw : cenv.locals ∉ wr := fun h => hCf (W.sub _ h)
  have hDw : D ∉ wr := fun h => hDf (W.sub _ h)
  have hKC : K ≠ cenv.locals := Nat.ne_of_gt hK
  have hDK : D ≠ K := Nat.ne_of_lt (Nat.lt_trans hDl hK)
  have hKf : K ∉ fp := fun h => Nat.lt_asymm (hfl _ h) hK
  have hKw : K ∉ wr := fun h => hKf (W.sub _ h)
  refine codeAny_compLoop_tests
    (fun k s' => ∃ h' tk ys, ∃ i : Nat, s' = { s with heap := h', toks := tk } ∧ St i h' ∧ h'.PlainList D ys ∧ h'.Ns cenv.locals m ∧ (∃ v₀, CellIs h' K v₀) ∧ Paired (fun i y => ∃ t, y = Value.str (g i) t) (List.range i) ys.toList ∧ i ≤ n ∧ k = n + 1 - i ∧
      (∀ b o, b ≠ cenv.locals → b ∉ wr → b ≠ D → b ≠ K → s.heap.get? b = some o → h'.get? b = some o)) ?_ (n + 1)
    ⟨s.heap, s.toks, #[], 0, rfl, hst, hacc, hn, hcell, Paired.nil, Nat.zero_le _, rfl, fun _ _ _ _ _ _ e => e⟩
  rintro k s' ⟨H, tk, ys, i, rfl, hst', hacc', hn', ⟨v₀, oK, hoK, hdK⟩, hF, hi, rfl, hk⟩
  by_cases hlt : i < n
  · refine W.item i _ _ _ hlt hst' fun v h₁ tk₁ hPv hst₁ hk₁ => ?_
    refine wpAny_assign_Name (wpAny_storeName_cell hkf hx hc ⟨oK, hk₁ _ _ hKw hoK, hdK⟩ fun h₂ hc₂ hs₂ => ?_)
    replace hs₂ : Heap.SameBut K h₁ h₂ := hs₂
    have up₂ : ∀ b o, b ≠ K → b ∉ wr → H.get? b = some o → h₂.get? b = some o := fun b o hbK hbf e => hs₂.extBut b o hbK (hk₁ b o hbf e)
    have hn₂ : h₂.Ns cenv.locals m := hn'.at' fun o e => up₂ _ o (Ne.symm hKC) hCw e
    have hst₂ : St (i + 1) h₂ := W.frame _ _ _ hst₁ fun b hb o e => hs₂.extBut b o (fun h => hKf (h ▸ hb)) e
    have hacc₂ : h₂.PlainList D ys := hacc'.at fun o e => up₂ _ o hDK hDw e
    refine wpAny_pure ?_
    simp only [if_true]
    refine wpAny_mono (helt i v { s with heap := h₂, toks := tk₁ } hlt hPv hn₂ hc₂ (fun b o hbC hbf hbD hbK e => up₂ b o hbK hbf (hk b o hbC hbf hbD hbK e))) (fun y s₄ h₄ => ?_) fun _ _ e => e.elim
    obtain ⟨hGy, h₄, tk₄, rfl, hk₄, hn₄⟩ := h₄
    replace hk₄ : ∀ b o, b ≠ cenv.locals → h₂.get? b = some o → h₄.get? b = some o := hk₄
    have hys : ys.size ≤ sizeLine := by
      have e1 := hF.length
      have e3 : (List.range i).length = i := List.length_range
      have e4 : ys.toList.length = ys.size := by simp
      omega
    refine wpAny_list_append_plain (hsz := hys) (hacc₂.at fun o e => hk₄ _ o hDC e) fun h₅ hl₅ hs₅ => ?_
    obtain ⟨oK', hoK', hdK'⟩ := hc₂
    refine ⟨n + 1 - (i + 1), by omega, h₅, tk₄, ys.push y, i + 1, rfl, ?_, hl₅, Heap.Ns.sameBut hn₄ hs₅ (Ne.symm hDC), ⟨_, oK', hs₅.extBut K oK' (Ne.symm hDK) (hk₄ K oK' hKC hoK'), hdK'⟩, ?_, hlt, rfl,
        fun b o hbC hbf hbD hbK e => hs₅.extBut b o hbD (hk₄ b o hbC (up₂ b o hbK hbf (hk b o hbC hbf hbD hbK e)))⟩
    · exact W.frame _ _ h₅ hst₂ fun b hb o e => hs₅.extBut b o (fun h => hDf (h ▸ hb)) (hk₄ b o (fun h => hCf (h ▸ hb)) e)
    · rw [Array.toList_push, List.range_succ]
      exact Paired.snoc hF hGy
  · have hin : i = n := by omega
    subst hin
    refine W.done _ _ _ hst' fun h₁ tk₁ hk₁ => ?_
    exact hR h₁ tk₁ ys (hn'.at' fun o e => hk₁ _ o hCw e) (hacc'.at fun o e => hk₁ _ o hDw e) hF fun b o hbC hbf hbD hbK e => hk₁ b o hbf (hk b o hbC hbf hbD hbK e)
/-- the block's environment: the target's cell ahead of the captured ones -/
theorem listcompC_store {s : Shared} {h₀ : Heap} {elt iter : Expr} {x y : Str} {px py : Pos} {scope : Scope} {cl : List (Str × Addr)} {pos spos : Pos} {Q : Flow → Shared → Prop} (n : Nat) (g : Nat → Str)
    (hsw : swapsWith (.ListComp elt [⟨.Name x px, iter, [], 0⟩] scope pos) (some (.Name y py)) spos.line env = pure true) (hy : env.kindOf y = some .local) (hp : (env.scope.kind == .class || (env.scope.kind == .module && env.locals != env.globals)) = false)
    (hclos : closureFor scope env = pure cl) (hone : ∀ (k : Nat) (acc : List (Str × Addr)), cellsFrom k scope.names acc = (x, k) :: acc) (hpush : ∀ h, pushCells h scope.names = h.push { cls := .type "cell", data := .cell none }) (hkind : scope.kind = .function)
    (hnames : ∀ y ∈ scope.names, y.2 = .local → scope.names.lookup y.1 = some .local) (hx : ∀ C, (compEnvC scope ((x, C + 1) :: cl) C env).kindOf x = some .cell)
    (h : wpAny (model prog w) A (eval iter env) (fun xv s₁ => wpAny (model prog w) A (pyIter xv) (fun it s₂ => ∃ m news I P St, Fr h₀ env.locals s₂.heap m ∧ News h₀ env.locals s₂.heap news ∧ it = .ref I ∧ Src prog w A h₀ env.locals news I [I] n P St s₂.heap ∧ n ≤ sizeLine ∧
      (∀ i v s₃ m₃, i < n → P i v → s₃.heap.Ns (s₂.heap.objs.size + 1) m₃ → CellIs s₃.heap (s₂.heap.objs.size + 2) (some v) → (∀ b o, b ≠ I → s₂.heap.get? b = some o → s₃.heap.get? b = some o) →
        wpAny (model prog w) A (eval elt (compEnvC scope ((x, s₂.heap.objs.size + 2) :: cl) (s₂.heap.objs.size + 1) env)) (fun y s₄ => (∃ t, y = .str (g i) t) ∧ KeptC (s₂.heap.objs.size + 1) m₃ s₃ s₄) (fun _ _ => False) s₃) ∧
      (∀ h' tk ys k, Fr h₀ env.locals h' (fun z => if z = y then some (.ref s₂.heap.objs.size) else m z) → News h₀ env.locals h' ((s₂.heap.objs.size, listOf ys k) :: news) → Paired (fun i y => ∃ t, y = Value.str (g i) t) (List.range n) ys.toList →
        Q .next { s₂ with heap := h', toks := tk })) (fun _ _ => False) s₁) (fun _ _ => False) s)
    (hs : ∀ x, foldedSetIterable iter env x = pure x) :
    wpAny (model prog w) A (exec (.Assign [.Name y py] (.ListComp elt [⟨.Name x px, iter, [], 0⟩] scope pos) spos) env) Q (fun _ _ => False) s := by
  rw [exec_Assign_Name_used _ _ _ _ hsw]
  refine wpAny_bind (wpAny_standAt (wpAny_bind ?_))
  show wpAny _ A (do let _ ← comprehension (.ListComp elt [⟨.Name x px, iter, [], 0⟩] scope pos) scope env _ (newList []) false (eval iter env) (some (assign (.Name y py) env))) _ _ s
  refine wpAny_bind (wpAny_mono (wpAny_comprehension_free (use := some (assign (.Name y py) env)) (Q := fun _ s' => Q .next s') rfl hs hclos hkind hnames
    (wpAny_mono h (fun xv s₁ h₁ => wpAny_mono h₁ (fun it s₂ h₂ => ?_) fun _ _ e => e) fun _ _ e => e)) (fun _ s' hq => wpAny_pure (wpAny_pure hq)) fun _ _ e => e)
  obtain ⟨m, news, I, P, St, F, N, rfl, S, hsz, helt, hQ⟩ := h₂
  refine wpAny_newObj_type ?_
  simp only [newFunctionEnv, Option.isSome_some, if_true]
  refine wpAny_bind (wpAny_alloc ?_)
  refine wpAny_bind (wpAny_layCells _ (fun name kind cells => by cases hkc : kind == NameKind.cell <;> simp [hkc]) _ _ _ _ ?_)
  dsimp only
  generalize hH1 : s₂.heap.push { cls := .type "list", dict := none, data := .seq ([] : List Value).toArray } = H1
  have z1 : H1.objs.size = s₂.heap.objs.size + 1 := by rw [← hH1, Heap.size_push]
  generalize hH2 : H1.push { cls := .type "dict", data := .dict #[] } = H2
  have z2 : H2.objs.size = s₂.heap.objs.size + 2 := by rw [← hH2, Heap.size_push, z1]
  rw [hone, hpush, z1, z2]
  generalize hH3 : H2.push { cls := .type "cell", data := .cell none } = H3
  have k1 : ∀ b o, s₂.heap.get? b = some o → H1.get? b = some o := fun b o e => hH1 ▸ Heap.get?_push_of_some _ e
  have k2 : ∀ b o, H1.get? b = some o → H2.get? b = some o := fun b o e => hH2 ▸ Heap.get?_push_of_some _ e
  have k3 : ∀ b o, H2.get? b = some o → H3.get? b = some o := fun b o e => hH3 ▸ Heap.get?_push_of_some _ e
  have old : ∀ b o, s₂.heap.get? b = some o → H3.get? b = some o := fun b o e => k3 b o (k2 b o (k1 b o e))
  have hacc : H3.PlainList s₂.heap.objs.size #[] := ⟨_, k3 _ _ (k2 _ _ (hH1 ▸ Heap.get?_push_size _ rfl))⟩
  have hns : H3.Ns (s₂.heap.objs.size + 1) fun _ => none := by
    have := Heap.Ns.new H1 (.type "dict")
    rw [hH2, z1] at this
    exact this.keeps k3
  have hcell : CellIs H3 (s₂.heap.objs.size + 2) none := ⟨{ cls := .type "cell", data := .cell none }, by rw [← hH3, ← z2]; exact Heap.get?_push_size _ rfl, rfl⟩
  have hst₁ := S.walks.frame _ _ _ S.st fun b _ o e => old b o e
  have nlo : ∀ b o, s₂.heap.get? b = some o → b ≠ s₂.heap.objs.size + 1 ∧ b ≠ s₂.heap.objs.size ∧ b ≠ s₂.heap.objs.size + 2 := fun b o e =>
    ⟨Nat.ne_of_lt (Nat.lt_succ_of_lt (nlt e)), Nat.ne_of_lt (nlt e), Nat.ne_of_lt (Nat.lt_succ_of_lt (Nat.lt_succ_of_lt (nlt e)))⟩
  have loop : ∀ tk : Nat, codeAny (model prog w) A (.compLoop (.ListComp elt [⟨.Name x px, iter, [], 0⟩] scope pos) 0 (.ref I) (.ref s₂.heap.objs.size) (compEnvC scope ((x, s₂.heap.objs.size + 2) :: cl) (s₂.heap.objs.size + 1) env))
        (compPost (model prog w) A (fun _ _ => False) (some (assign (.Name y py) env)) (fun _ s' => Q .next s') (.ref s₂.heap.objs.size) (s₂.heap.objs.size + 1)) { s₂ with heap := H3, toks := tk } := by
    intro tk
    refine comp_loopC (K := s₂.heap.objs.size + 2) S.walks g (hx _) (by simp [compEnvC, relabel, hkind]) (by simp [compEnvC]) (Nat.lt_succ_self _) (fun hm => Nat.lt_irrefl _ (S.low _ hm)) (fun b hb => Nat.lt_succ_of_lt (S.low b hb)) (Nat.lt_succ_self _) hst₁ hacc hns ⟨_, hcell⟩ ?_ ?_ hsz
    · intro i v s₃ hi hv hn hc hk
      exact helt i v s₃ _ hi hv hn hc fun b o hbI e => hk b o (nlo b o e).1 (fun hm => hbI (List.mem_singleton.mp hm)) (nlo b o e).2.1 (nlo b o e).2.2 (old b o e)
    · intro h' tk' ys hn hpl hF hk
      obtain ⟨k, hpl⟩ := hpl
      have hL := F.ns.lt
      have hIL : I ≠ env.locals := fun e => S.off (by rw [← e]; exact .head _)
      have up1 : ∀ b o, b ≠ I → s₂.heap.get? b = some o → h'.get? b = some o := fun b o hb e => hk b o (nlo b o e).1 (fun q => hb (List.mem_singleton.mp q)) (nlo b o e).2.1 (nlo b o e).2.2 (old b o e)
      show wpAny _ A (assign (.Name y py) env (.ref s₂.heap.objs.size)) _ _ _
      refine wpAny_assign_Name (wpAny_storeName_local hy (F.ns.at' fun o e => up1 _ o (Ne.symm hIL) e) (fun h2 hn2 hs2 => ?_) hp)
      have hCL : s₂.heap.objs.size + 1 ≠ env.locals := Nat.ne_of_gt (Nat.lt_succ_of_lt (nslt F.ns))
      refine ⟨_, hn.sameBut hs2 hCL, fun h'' hs'' => ?_⟩
      replace hs'' : Heap.SameBut (s₂.heap.objs.size + 1) h2 h'' := hs''
      have up : ∀ b o, b ≠ I → b ≠ env.locals → s₂.heap.get? b = some o → h''.get? b = some o := fun b o hb hbL e => hs''.extBut b o (nlo b o e).1 (hs2.extBut b o hbL (up1 b o hb e))
      refine hQ h'' _ ys k ⟨hn2.sameBut hs'' (Ne.symm hCL), fun b o e => up b o (fun q => by rw [q, S.base] at e; cases e) (Nat.ne_of_lt (Nat.lt_of_lt_of_le (Heap.lt_size e) F.above)) (F.keep b o e), F.above⟩ ?_ hF
      intro q hq
      rcases List.mem_cons.mp hq with rfl | hq
      · exact ⟨hs''.extBut _ _ (Nat.ne_of_lt (Nat.lt_succ_self _)) (hs2.extBut _ _ (Nat.ne_of_gt (nslt F.ns)) hpl), Nat.ne_of_gt (nslt F.ns), next_is_new F⟩
      · exact ⟨up q.1 q.2 (S.apart q hq) (N q hq).2.1 (N q hq).1, (N q hq).2⟩
  refine wpAny_bind (wpAny_pure (wpAny_pure ?_))
  exact codeAny_compStart_list (loop _) (S.walks.self 0 _ _ _ hst₁ (loop _))
end
end

-- part Picks
section
open PySem PySem.W PySem.Calls PyProof.Rows PySem.Spec
/-! all rows of letters of a short text, by the bits of a number -/
def bitOf (n k : Nat) : Bool := n / 2 ^ k % 2 == 1
def picks (l : List Nat) (n : Nat) : List Nat := ((List.range l.length).filter (bitOf n)).map fun k => l.getD k 0
theorem short_cases {l : List Nat} (h : l.length ≤ 2) : l = [] ∨ (∃ u, l = [u]) ∨ ∃ u v, l = [u, v] := by
  match l, h with
  | [], _ => exact .inl rfl
  | [u], _ => exact .inr (.inl ⟨u, rfl⟩)
  | [u, v], _ => exact .inr (.inr ⟨u, v, rfl⟩)
theorem picks_sub {l : List Nat} (h : l.length ≤ 2) {n : Nat} (hn : n < 2 ^ l.length) : (picks l n).Sublist l := by
  rcases short_cases h with rfl | ⟨u, rfl⟩ | ⟨u, v, rfl⟩
  · simp [picks]
  · have : n = 0 ∨ n = 1 := by simp at hn; omega
    rcases this with rfl | rfl <;> simp [picks, bitOf, List.range_succ]
  · have : n = 0 ∨ n = 1 ∨ n = 2 ∨ n = 3 := by simp at hn; omega
    rcases this with rfl | rfl | rfl | rfl <;> simp [picks, bitOf, List.range_succ]
theorem picks_all {l : List Nat} (h : l.length ≤ 2) {p : List Nat} (hp : p.Sublist l) : ∃ n, n < 2 ^ l.length ∧ picks l n = p := by
  have nil_of : ∀ {q : List Nat}, q.Sublist [] → q = [] := fun hq => by simpa using hq
  rcases short_cases h with rfl | ⟨u, rfl⟩ | ⟨u, v, rfl⟩
  · obtain rfl := nil_of hp
    exact ⟨0, by simp, by simp [picks]⟩
  · cases hp with
    | cons _ hp =>
      obtain rfl := nil_of hp
      exact ⟨0, by simp, by simp [picks, bitOf, List.range_succ]⟩
    | cons_cons _ hp =>
      obtain rfl := nil_of hp
      exact ⟨1, by simp, by simp [picks, bitOf, List.range_succ]⟩
  · cases hp with
    | cons _ hp =>
      cases hp with
      | cons _ hp =>
        obtain rfl := nil_of hp
        exact ⟨0, by simp, by simp [picks, bitOf, List.range_succ]⟩
      | cons_cons _ hp =>
        obtain rfl := nil_of hp
        exact ⟨2, by simp, by simp [picks, bitOf, List.range_succ]⟩
    | cons_cons _ hp =>
      cases hp with
      | cons _ hp =>
        obtain rfl := nil_of hp
        exact ⟨1, by simp, by simp [picks, bitOf, List.range_succ]⟩
      | cons_cons _ hp =>
        obtain rfl := nil_of hp
        exact ⟨3, by simp, by simp [picks, bitOf, List.range_succ]⟩
/-- the rows of the third text that both others have: the longest is as long as the row of three -/
theorem picks_most (a b l : List Nat) (h : l.length ≤ 2) :
    (∀ p ∈ ((List.range (2 ^ l.length)).map (picks l)).filter (fun p => withins a p && withins b p), p.length ≤ (t3 a b l).length) ∧ ∃ p ∈ ((List.range (2 ^ l.length)).map (picks l)).filter (fun p => withins a p && withins b p), p.length = (t3 a b l).length := by
  obtain ⟨⟨s1, s2, s3⟩, hm⟩ := t3_spec a b l
  refine ⟨fun p hp => ?_, t3 a b l, List.mem_filter.mpr ⟨?_, ?_⟩, rfl⟩
  · obtain ⟨hp, hw⟩ := List.mem_filter.mp hp
    obtain ⟨n, hn, rfl⟩ := List.mem_map.mp hp
    simp only [Bool.and_eq_true, withins_iff] at hw
    exact hm _ hw.1 hw.2 (picks_sub h (List.mem_range.mp hn))
  · obtain ⟨n, hn, e⟩ := picks_all h s3
    exact List.mem_map.mpr ⟨n, List.mem_range.mpr hn, e⟩
  · simp only [Bool.and_eq_true, withins_iff]
    exact ⟨s1, s2⟩
theorem eqg_bool (b : Bool) : MeetsSeq.EqGives (.bool b) (.bool b) true := fun prog w A E s Q h => by
  unfold eqBool
  show wpAny _ _ (if (Value.bool b == Value.bool b) = true then _ else _) Q E s
  rw [if_pos (by simp)]
  exact wpAny_bind (wpAny_rule (wpAny_pure h))
/-- [True, True, True] == [True, True, True] -/
theorem eq_trues {prog : Program} {w : World} {A : Around} {E : Value → Shared → Prop} {s : Shared} {h₀ : Heap} {L : Addr} {news : List (Addr × Obj)} {a b : Addr} {k1 k2 : Nat} {Q : Value → Shared → Prop} (N : News h₀ L s.heap news)
    (ha : (a, listOf #[.bool true, .bool true, .bool true] k1) ∈ news) (hb : (b, listOf #[.bool true, .bool true, .bool true] k2) ∈ news) (hu : A.units < cLine) (h : Q (.bool true) s) : wpAny (model prog w) A (compareOp .Eq (.ref a) (.ref b)) Q E s := by
  refine PySem.P.eq_list (e := fun _ => true) (N _ ha).1 (N _ hb).1 rfl (fun j h1 h2 => ?_) hu ?_
  · have : j = 0 ∨ j = 1 ∨ j = 2 := by simp at h1; omega
    rcases this with rfl | rfl | rfl <;> exact eqg_bool true
  · have e : (List.range (#[Value.bool true, .bool true, .bool true] : Array Value).size).all (fun _ => true) = true := by decide
    rw [e]; exact h
theorem cellNe {h₀ h : Heap} {L : Addr} {news : List (Addr × Obj)} {p : Addr × Obj} {c : Addr} {o : Obj} {v : Option Value} (N : News h₀ L h news) (hc : (c, o) ∈ news) (hp : p ∈ news) (ho : o.data = .cell v) (hne : ∀ v, p.2.data ≠ .cell v) : p.1 ≠ c := fun e => by
  have h1 := (N p hp).1
  rw [e, (N _ hc).1] at h1
  cases p with
  | mk a q =>
    have h1 : o = q := Option.some.inj h1
    subst h1
    exact hne _ ho
theorem pow_two {prog : Program} {w : World} {A : Around} {E : Value → Shared → Prop} {s : Shared} {n : Nat} {t u : Tok} {Q : Value → Shared → Prop} (hn : n ≤ 100) (h : Q (.int ((2 ^ n : Nat) : Int) s.toks) { s with toks := s.toks + 1 }) :
    wpAny (model prog w) A (binaryOp .Pow (.int 2 t) (.int (n : Int) u)) Q E s := by
  have b : Builtin.Int.intBits 2 ≤ 64 := PySem.intBits_le_64 (by omega) (by omega)
  refine pow_int (by omega) (Int.le_trans (Int.mul_le_mul_of_nonneg_right (Int.ofNat_le.mpr b) (by omega)) (by omega)) ?_
  have e : (2 : Int) ^ ((n : Int)).toNat = ((2 ^ n : Nat) : Int) := by simp
  rw [e]
  exact h
theorem bit_of (i k : Nat) : ((Int.fdiv (i : Int) ((2 ^ k : Nat) : Int)).fmod 2 == 1) = bitOf i k := by
  have h1 : Int.fdiv (i : Int) ((2 ^ k : Nat) : Int) = ((i / 2 ^ k : Nat) : Int) := by
    rw [Int.fdiv_eq_ediv_of_nonneg _ (Int.natCast_nonneg _)]
    exact (Int.natCast_ediv i (2 ^ k)).symm
  rw [h1, Int.fmod_eq_emod_of_nonneg _ (by decide)]
  unfold bitOf
  rw [Bool.eq_iff_iff]
  simp only [beq_iff_eq]
  omega
end

-- part End01
section
open PySem PySem.W PySem.Calls PyProof.Rows PySem.Spec
theorem oldK_of {w : World} {h h' : Heap} {L : Addr} {m : Str → Option Value} {ps : Array Value} (O : Ok w h) (h205 : h.get? 205 = some (tabO #[])) (F : Fr (minus h) L h' m) (ht : h'.get? 205 = some (tabO ps)) : OldK h h' := by
  have tr : TriplesOk (#[] : Array Value).toList := by first | trivial | simp [TriplesOk]
  obtain ⟨o, vs, g1, g2, g3, g4⟩ := (code208 O h205 tr).2
  have g1' : h'.get? 207 = some o := F.keep 207 o ((minus_other h (by decide)).trans g1)
  refine (OldK.refl h).step_table (c₀ := 207) (c := 207) (P := 205) (ps₀ := #[]) (ps := #[]) (more := ps) ⟨⟨o, vs, g1, g2, g3, g4⟩, h205⟩ ⟨⟨o, vs, g1, g2, g3, g4⟩, h205⟩ ⟨⟨o, vs, g1', g2, g3, g4⟩, by simpa using ht⟩ (fun b o hb e => F.keep b o ((minus_other h hb).trans e)) (by decide)
/-- `x[:2]`, with a name of its own for the piece -/
theorem slice_two {prog : Program} {w : World} {A : Around} {E : Value → Shared → Prop} {s : Shared} {value slice : Expr} {x : Str} {t : Tok} {h₀ : Heap} {L : Addr} {m : Str → Option Value} {news : List (Addr × Obj)} {Q : Value → Shared → Prop} {uj : Tok} (hF : Fr h₀ L s.heap m) (hN : News h₀ L s.heap news)
    (h : ∀ X : Str, Mine.S (x.cps.toList.take 2) = X → X.length ≤ 2 → ∀ h' t' k, Fr h₀ L h' m → News h₀ L h' news → Q (.str X t') { s with heap := h', toks := k })
    (hs : subscripted slice false (.str x t) (.ref s.heap.objs.size) = operate [.ref s.heap.objs.size, .str x t] (getItem (.str x t) (.ref s.heap.objs.size)))
    (ht : ∀ r, letTemporaryGo value (.str x t) r = pure ()) (hsz : x.length ≤ sizeLine) :
    wpAny (model prog w) A (subscriptTail value slice (.str x t) (.ref s.heap.objs.size)) Q E { s with heap := s.heap.push { cls := .type "slice", data := .fields #[.none, .int 2 uj, .none] } } :=
  slice_strN_ns hF hN (fun h' t' k a b => by rw [cut_two]; exact h _ rfl (by rw [S_len, List.length_take]; omega) h' t' k a b) hs ht hsz
theorem fdiv_two {prog : Program} {w : World} {A : Around} {E : Value → Shared → Prop} {s : Shared} {a : Int} {k : Nat} {t u : Tok} {Q : Value → Shared → Prop} (hk : k ≤ 10) (h : Q (.int (Int.fdiv a ((2 ^ k : Nat) : Int)) s.toks) { s with toks := s.toks + 1 }) :
    wpAny (model prog w) A (binaryOp .FloorDiv (.int a t) (.int ((2 ^ k : Nat) : Int) u)) Q E s := by
  have h1 : 0 < 2 ^ k := Nat.two_pow_pos k
  have h2 : 2 ^ k ≤ 2 ^ 10 := Nat.pow_le_pow_right (by decide) hk
  generalize 2 ^ k = p at *
  exact floordiv_int (by omega) h (Or.inl (PyProof.noPylong_small (by omega)))
theorem picks_len (l : List Nat) (n : Nat) : (picks l n).length ≤ l.length := by
  unfold picks
  rw [List.length_map]
  have := List.length_filter_le (bitOf n) (List.range l.length)
  simpa using this
theorem picks_ones (z : Str) (n : Nat) : ((List.range z.length).filter (bitOf n)).map (fun k => (⟨#[z.cps.toList.getD k 0]⟩ : Str)) = (picks z.cps.toList n).map fun c => (⟨#[c]⟩ : Str) := by
  unfold picks
  rw [codes_len, List.map_map]
  rfl
/-- the greatest of the lengths is the length of the row of three -/
theorem due_is {X Y z : Str} {N : Nat} {M : Int} (hz : z.length ≤ 2) (hN : N = 2 ^ z.length) (h1 : M ∈ ((List.range N).filter fun j => withins X.cps.toList (picks z.cps.toList j) && withins Y.cps.toList (picks z.cps.toList j)).map fun j => ((picks z.cps.toList j).length : Int))
    (h2 : ∀ a ∈ ((List.range N).filter fun j => withins X.cps.toList (picks z.cps.toList j) && withins Y.cps.toList (picks z.cps.toList j)).map fun j => ((picks z.cps.toList j).length : Int), a ≤ M) : M = ((told3 X Y z).length : Int) := by
  have hl : (told3 X Y z).length = (t3 X.cps.toList Y.cps.toList z.cps.toList).length := S_len _
  have hzl : z.cps.toList.length = z.length := codes_len z
  obtain ⟨p1, p2⟩ := picks_most X.cps.toList Y.cps.toList z.cps.toList (by omega)
  rw [hzl, ← hN] at p1 p2
  obtain ⟨j, hj, rfl⟩ := List.mem_map.mp h1
  obtain ⟨hj1, hj2⟩ := List.mem_filter.mp hj
  have a1 := p1 _ (List.mem_filter.mpr ⟨List.mem_map.mpr ⟨j, hj1, rfl⟩, hj2⟩)
  obtain ⟨p, hp, hpl⟩ := p2
  obtain ⟨hp1, hp2⟩ := List.mem_filter.mp hp
  obtain ⟨j', hj', rfl⟩ := List.mem_map.mp hp1
  have a2 := h2 _ (List.mem_map.mpr ⟨j', List.mem_filter.mpr ⟨hj', hp2⟩, rfl⟩)
  omega
theorem due_pos {X Y z : Str} {N : Nat} (hz : z.length ≤ 2) (hN : N = 2 ^ z.length) : 0 < (((List.range N).filter fun j => withins X.cps.toList (picks z.cps.toList j) && withins Y.cps.toList (picks z.cps.toList j)).map fun j => ((picks z.cps.toList j).length : Int)).length := by
  have hzl : z.cps.toList.length = z.length := codes_len z
  obtain ⟨_, p, hp, _⟩ := picks_most X.cps.toList Y.cps.toList z.cps.toList (by omega)
  rw [hzl, ← hN] at hp
  obtain ⟨hp1, hp2⟩ := List.mem_filter.mp hp
  obtain ⟨j', hj', rfl⟩ := List.mem_map.mp hp1
  exact List.length_pos_of_mem (List.mem_map.mpr ⟨j', List.mem_filter.mpr ⟨hj', hp2⟩, rfl⟩)
theorem told3_within (X Y z : Str) : within (told3 X Y z) X = true ∧ within (told3 X Y z) Y = true ∧ within (told3 X Y z) z = true := by
  obtain ⟨⟨s1, s2, s3⟩, _⟩ := t3_spec X.cps.toList Y.cps.toList z.cps.toList
  unfold told3
  rw [within_S, within_S, within_S, withins_iff, withins_iff, withins_iff]
  exact ⟨s1, s2, s3⟩
theorem getD_codes (z : Str) (k : Nat) : z.cps.getD k 0 = z.cps.toList.getD k 0 := by
  simp [Array.getD_eq_getD_getElem?, List.getD_eq_getElem?_getD]
end

-- part Head01
section
open PySem PySem.W PySem.Calls PyProof.Rows PySem.Spec
/-! the heap's fragment, with the table of _recursive's code as well -/
noncomputable def heapT (P : Params) : Frag := (205, { cls := .none, data := .fields #[] }) :: hd.heap_1 P
def addrsT : List Addr := [205, 2, 3, 15, 17, 18, 20, 21, 22, 25, 26, 34, 35, 37, 38, 40, 41, 42, 44, 45, 47, 48, 49, 51, 52, 54, 55, 56, 57, 58, 59, 61, 62, 64, 65, 66, 68, 69, 71, 72, 73, 75, 76, 78, 79, 80, 82, 83, 85, 86, 87, 89, 90, 92, 93, 94, 96, 97, 99, 100, 101, 102, 103, 104, 107, 108, 109, 111, 112, 114, 115, 116, 118, 119, 121, 122, 123, 125, 126, 128, 129, 130, 132, 133, 135, 136, 137, 139, 140, 142, 143, 144, 145, 146, 147, 148, 151, 158, 160, 161, 163, 164, 165, 167, 168, 170, 171, 172, 174, 175, 177, 178, 179, 180, 181, 184, 191, 192, 194, 195, 197, 198, 199, 202, 203, 204, 207, 208, 209, 211, 212, 214, 215, 216, 218, 219, 221, 222, 223, 224, 225, 228, 235, 236, 238, 239, 241, 242, 243, 245, 246, 248, 249, 250, 252, 253, 255, 256, 257, 259, 260, 262, 263, 264, 265, 266, 269, 271, 272, 274, 275, 276, 279, 280, 281, 283, 284, 286, 287, 288, 291, 292, 293, 296, 297]
theorem inT {w : World} {h : Heap} (X : (heapT w.params).In h) : (hd.heap_1 w.params).In h := fun a o e => X a o (by
  have ha : a ≠ 205 := fun q => by rw [q, no205] at e; cases e
  show List.lookup a ((205, _) :: hd.heap_1 w.params) = some o
  rw [List.lookup_cons]
  have hb : (a == 205) = false := by simpa using ha
  rw [hb]
  exact e)
theorem atT {w : World} {h : Heap} (X : (heapT w.params).In h) : h.get? 205 = some (tabO #[]) := X 205 _ rfl
end

-- part Law01F
section
open PySem PySem.W PySem.Calls PyProof.Rows PySem.Spec
theorem post_true (as : List WData) : PySem.Challenge.rw_br0037_01.row.claim.post as (.bool true) as = true := by with_unfolding_all rfl
theorem law01 : PySem.Challenge.rw_br0037_01.Holds := by
  w_on
  o_law
  o_head (kHook heapT addrsT (fun _ => by kernel_rfl))
  (case hw => w_witness2)
  intro w s₀ s₁ mg mb G Y fa o pm cd doc dV kV ho hfd hcd hD hmg hgens args vals as hpre hlay hrd hwl hlo
  have K2 := kIn_of Y
  have h205 := atT K2
  have KX := inT K2
  clear K2
  refine Ground.open G ?_
  intro T B D TE TW
  try (refine guard_noD D (by decide +kernel) ?_; clear D)
  obtain ⟨bm, ob, BM⟩ := bmod_of_top T
  clear hmg
  wrow_args hpre hlay hrd hwl hlo
  all_goals (
    first | refine callC_kw (enter_call ?_) | refine enter_call ?_ | refine callC_kw (enter_callW ?_) | refine enter_callW ?_ | w_how
    w_top on
    have K0 := below_caller (Top.heap T)
    w_call any ho hfd hcd hD T F
    clear hfd
    k_drop)
  rename_i ns hs1 hlay0 hLy hr1 hl2 wA wB a vs wC hL ra w1 r0 hI hr2 hc63 hc64 h₁ tk₁ o1 o2 o3 hc1 hc2 hc3 N0 X0
  clear X0 K0 hD hr2 hc64 r0 w1 ra wC hl2 hr1 hlay0 hs1 hLy TE TW B wA wB
  refine wpAny_mono (E := fun _ _ => False) ?_ (fun _ _ h => h) (fun _ _ h => h.elim)
  have O : Ok w s₁.heap := ⟨KX, _, _, _, _, topRead_of T⟩
  have OT : OkT w s₁.heap := ⟨O, _, _, _, BM⟩
  clear G Y T BM KX ho hcd
  have X := frame_minus F N0 h205
  clear F N0
  obtain ⟨F, N, hnT⟩ := X
  have OTm := OT.minus h205
  have Om : Ok w (minus s₁.heap) := OTm.ok
  have hLm : (minus s₁.heap).IsList a vs.toArray := by
    obtain ⟨ob, hob, hcls, r⟩ := id hL
    have hne : a ≠ 205 := fun e => by
      rw [e, h205] at hob
      cases hob
      exact absurd hcls (by simp)
    exact ⟨ob, (minus_other _ hne).trans hob, hcls, r⟩
  have hn63 : ns.length ≤ 63 := by omega
  dsimp only [List.cons_append, List.nil_append] at N
  clear O
  have CC : ∀ e, Calm (callerA.deeper e) 60 := fun e => ⟨rfl, Nat.le_of_ble_eq_true rfl, Nat.le_of_ble_eq_true rfl⟩
  have hh : ∀ e, (callerA.deeper e).handled = none := fun e => rfl
  dsimp only
  replace hc1 : o1.data = .cell none := hc1
  replace hc2 : o2.data = .cell none := hc2
  replace hc3 : o3.data = .cell none := hc3
  obtain ⟨m0, hm0, F⟩ : ∃ m : Str → Option Value, m "script" = some (.ref a) ∧ Fr (minus s₁.heap) s₁.heap.objs.size h₁ m := ⟨_, rfl, F⟩
  boot_fact
  refine Assign_Tuple ?_ (by rfl) (by rfl)
  repeat boot_fact
  refine' Gives.use ?a1 ?a2 ?a3 ?_
  case a2 => exact F
  case a3 => exact N
  case a1 => exact law_word (st := 0) (most := 6) (o := 5) (Om.keeps F.keep) ((CC _).le (by omega)) (hLm.at fun o e => F.keep _ o e) hI hn63 (by omega) (by omega) (by omega) (by decide +kernel) (by decide +kernel)
  rintro v h2 tk2 ⟨x, tx, rfl, hx6⟩ F2 N2
  clear F N
  repeat boot_fact
  refine' Gives.use ?a4 ?a5 ?a6 ?_
  case a5 => exact F2
  case a6 => exact N2
  case a4 => exact law_word (st := 7) (most := 6) (o := 4) (Om.keeps F2.keep) ((CC _).le (by omega)) (hLm.at fun o e => F2.keep _ o e) hI hn63 (by omega) (by omega) (by omega) (by decide +kernel) (by decide +kernel)
  rintro v h3 tk3 ⟨y, ty, rfl, hy6⟩ F3 N3
  clear F2 N2
  repeat boot_fact
  refine' Gives.use ?a7 ?a8 ?a9 ?_
  case a8 => exact F3
  case a9 => exact N3
  case a7 => exact law_word (st := 14) (most := 2) (o := 2) (Om.keeps F3.keep) ((CC _).le (by omega)) (hLm.at fun o e => F3.keep _ o e) hI hn63 (by omega) (by omega) (by omega) (by decide +kernel) (by decide +kernel)
  rintro v h4 tk4 ⟨z, tz, rfl, hz2⟩ F4 N4
  clear F3 N3
  repeat boot_fact
  rename Fr _ _ _ _ => F5
  rename News _ _ _ _ => N5
  refine' unpackN_ ?b1 ?b2 ?b3 (hh _) ?b4 ?b5 ?_
  case b1 => exact F5
  case b2 => exact N5
  case b3 => exact N5.isTup (.head _)
  case b4 => rfl
  case b5 => rfl
  intro h6 F6 N6
  clear F5 N5 F4 N4
  dsimp only [assignEach, List.map]
  repeat boot_fact
  rename Fr _ _ _ _ => F7
  rename News _ _ _ _ => N7
  clear F6 N6
  have N8 : News (minus s₁.heap) s₁.heap.objs.size _ ([(s₁.heap.objs.size + 1 + 1 + 1, o1), (s₁.heap.objs.size + 1 + 1, o2)] ++ (s₁.heap.objs.size + 1, o3) :: [(205, tabO #[])]) := fun q hq => N7 q (.tail _ hq)
  have off3 : ∀ p ∈ [(s₁.heap.objs.size + 1 + 1 + 1, o1), (s₁.heap.objs.size + 1 + 1, o2)], p.1 ≠ s₁.heap.objs.size + 1 := fun p hp => by
    rcases List.mem_cons.mp hp with rfl | hp
    · exact Nat.ne_of_gt (Nat.lt_succ_of_lt (Nat.lt_succ_self _))
    · rw [List.mem_singleton.mp hp]; exact Nat.succ_ne_self _
  have hT3 : (205 : Addr) ≠ s₁.heap.objs.size + 1 := Nat.ne_of_lt (Nat.lt_succ_of_lt (nlt h205))
  refine stE_C (c := s₁.heap.objs.size + 1) (by with_unfolding_all rfl) (by with_unfolding_all rfl) (by with_unfolding_all rfl) F7 N8 off3 (fun p hp => by rw [List.mem_singleton.mp hp]; exact hT3) hc3 fun h9 o3' hc3' F9 N9 => ?_
  dsimp only [List.cons_append, List.nil_append] at N9
  clear F7 N7 N8 hc3
  repeat boot_fact
  refine Call_kw ?_ (by with_unfolding_all rfl)
  repeat boot_fact
  refine callWith_KW0 (Om.keeps F9.keep).k (by k_is) (by with_unfolding_all rfl) ?_ (by with_unfolding_all rfl)
  refine kwAll_cons ?_
  repeat boot_fact
  refine kwAll_nil ?_
  refine ⟨(Om.keeps F9.keep).k, ?_⟩
  refine call_as (kw' := [("external", .bool false)]) (by with_unfolding_all rfl) ?_
  dsimp only [List.nil_append]
  have CU : ∀ e C, Calm ((callerA.deeper e).under (.builtin "type.__call__" ⟨[.ref C], [("external", .bool false)]⟩)) 5 := fun e C => ⟨rfl, Nat.le_of_ble_eq_true rfl, Nat.le_of_ble_eq_true rfl⟩
  refine make225 F9 N9 Om ((CU _ _).le (by omega)) fun ms dx h10 tk10 es n F10 N10 S10 => ?_
  clear F9 N9
  repeat boot_fact
  rename Fr _ _ _ _ => F11
  rename News _ _ _ _ => N11
  clear F10 N10
  obtain ⟨m11, hpl, hone, hoth, F11⟩ : ∃ m : Str → Option Value, m "plain" = some (.ref ms) ∧ m "one" = some (.str x tx) ∧ m "other" = some (.str y ty) ∧ Fr (minus s₁.heap) s₁.heap.objs.size _ m := ⟨_, rfl, rfl, rfl, F11⟩
  obtain ⟨htl, htx, hty⟩ := told_spec x y
  obtain ⟨htl2, _, _⟩ := told_spec y x
  rw [common_comm y x] at htl2
  have hcl := common_le x y
  have hlc : lc x.cps.toList y.cps.toList x.length y.length = common x y := rfl
  refine Assign_Tuple_swapped (names := ["told", "length"]) ?_ (by rfl) (by rfl)
  repeat boot_fact
  refine kco_callWith (K := hd.heap_1 w.params) (f := 215) ((Om.keeps F11.keep).k) (InstAt.of_news N11 (.head _) (.tail _ (.head _))) rfl (by k_is) ?_ (by with_unfolding_all rfl) (by with_unfolding_all rfl)
  repeat boot_fact
  refine ⟨⟨(Om.keeps F11.keep).k, InstAt.of_news N11 (.head _) (.tail _ (.head _))⟩, ?_⟩
  dsimp only [List.nil_append]
  have S11 := selfNews S10 N11 (.head _) (.tail _ (.head _))
  refine' Gives.use ?d1 ?d2 ?d3 ?_
  case d2 => exact F11
  case d3 => exact N11
  case d1 => exact Gives.self (Om.keeps F11.keep) S11 (lcs_call (Om.keeps F11.keep) ((CC _).le (by omega)) (by omega) (by omega) S11) (by k_is) (by k_is) (by k_is)
  rintro v h12 tk12 ⟨tt, rfl⟩ F12 N12
  clear F11 N11
  repeat boot_fact
  refine' Gives.use ?d4 ?d5 ?d6 ?_
  case d5 => exact F12
  case d6 => exact N12
  case d4 => exact law_longest (Om.keeps F12.keep) ((CC _).le (by omega)) (by omega) (by omega)
  rintro v h13 tk13 ⟨t13, rfl⟩ F13 N13
  rw [hlc]
  clear F12 N12
  repeat boot_fact
  rename Fr _ _ _ _ => F14
  rename News _ _ _ _ => N14
  refine unpackItemsN_ F14 N14 (News.isTup N14 List.mem_cons_self) (hh _) (by with_unfolding_all rfl) ?_
  intro h15 F15 N15
  dsimp only [List.reverse, List.reverseAux, List.map]
  clear F14 N14 F13 N13
  repeat boot_fact
  rename Fr _ _ _ _ => F16
  rename News _ _ _ _ => N16
  clear F15 N15
  obtain ⟨m16, F16, htold, hlen, hpl, hone, hoth⟩ : ∃ m : Str → Option Value, Fr (minus s₁.heap) s₁.heap.objs.size _ m ∧ m "told" = some (.str (told x y) tt) ∧ m "length" = some (.int (common x y : Nat) t13) ∧ m "plain" = some (.ref ms) ∧ m "one" = some (.str x tx) ∧ m "other" = some (.str y ty) := ⟨_, F16, rfl, rfl, hpl, hone, hoth⟩
  replace N16 : News (minus s₁.heap) s₁.heap.objs.size _ [(ms, instObj 225 dx), (dx, dictOf es n), (s₁.heap.objs.size + 1 + 1 + 1, o1), (s₁.heap.objs.size + 1 + 1, o2), (s₁.heap.objs.size + 1, o3'), (205, tabO #[])] := fun q hq => N16 q (.tail _ hq)
  clear S11
  repeat boot_fact
  refine if_is_F (by rw [htl]; simp) ?_
  repeat boot_fact
  refine' Gives.use ?e1 ?e2 ?e3 ?_
  case e2 => exact F16
  case e3 => exact N16
  case e1 => exact within_pure (Om.keeps F16.keep) ((CC _).le (by omega)) (by rw [htl]; omega)
  rintro v h17 tk17 rfl F17 N17
  rw [htx]
  clear F16 N16
  repeat boot_fact
  refine' Gives.use ?e4 ?e5 ?e6 ?_
  case e5 => exact F17
  case e6 => exact N17
  case e4 => exact within_pure (Om.keeps F17.keep) ((CC _).le (by omega)) (by rw [htl]; omega)
  rintro v h18 tk18 rfl F18 N18
  rw [hty]
  clear F17 N17
  repeat boot_fact
  have S18 := selfNews S10 N18 (.head _) (.tail _ (.head _))
  obtain ⟨dI18, I18⟩ := S18.inst
  refine method_inst F18 Om.k I18 (by k_is) (by k_is) (by k_is) (S18.no "similarity" (by simp [clsNames])) ?_
  repeat boot_fact
  refine' Gives.use ?e7 ?e8 ?e9 ?_
  case e8 => exact F18
  case e9 => exact N18
  case e7 => exact lcs_sim (Om.keeps F18.keep) ((CC _).le (by omega)) (by omega) (by omega) S18 (by rw [htl]; omega)
  rintro v h19 tk19 ⟨t19, rfl⟩ F19 N19
  rw [htl]
  clear F18 N18
  repeat boot_fact
  refine if_is_F (by simp) ?_
  repeat boot_fact
  have S19 := selfNews S10 N19 (.head _) (.tail _ (.head _))
  obtain ⟨dI19, I19⟩ := S19.inst
  refine method_inst F19 Om.k I19 (by k_is) (by k_is) (by k_is) (S19.no "distance" (by simp [clsNames])) ?_
  repeat boot_fact
  refine' Gives.use ?f1 ?f2 ?f3 ?_
  case f2 => exact F19
  case f3 => exact N19
  case f1 => exact lcs_dist (Om.keeps F19.keep) ((CC _).le (by omega)) (by omega) (by omega) S19 (by rw [htl]; omega)
  rintro v h20 tk20 ⟨t20, rfl⟩ F20 N20
  rw [htl]
  clear F19 N19
  repeat boot_fact
  rename Fr _ _ _ _ => F21
  rename News _ _ _ _ => N21
  have hmx : ∀ p q : Nat, (if (q : Int) > (p : Int) then (q : Int) else (p : Int)) = ((max p q : Nat) : Int) := fun p q => by split <;> omega
  refine max_two_N (hh _) F21 N21 fun h22 tk22 F22 N22 => ?_
  rw [hmx]
  clear F21 N21
  repeat boot_fact
  refine if_is_F (by simp) ?_
  repeat boot_fact
  refine PySem.IsiPair.str_str ?_
  repeat boot_fact
  rename Fr _ _ _ _ => F23
  rename News _ _ _ _ => N23
  refine kco_callWith (K := hd.heap_1 w.params) (f := 215) ((Om.keeps F23.keep).k) (InstAt.of_news N23 (.head _) (.tail _ (.head _))) rfl (by k_is) ?_ (by with_unfolding_all rfl) (by with_unfolding_all rfl)
  repeat boot_fact
  refine ⟨⟨(Om.keeps F23.keep).k, InstAt.of_news N23 (.head _) (.tail _ (.head _))⟩, ?_⟩
  dsimp only [List.nil_append]
  have S23 := selfNews S10 N23 (.head _) (.tail _ (.head _))
  refine' Gives.use ?f4 ?f5 ?f6 ?_
  case f5 => exact F23
  case f6 => exact N23
  case f4 => exact Gives.self (Om.keeps F23.keep) S23 (lcs_call (Om.keeps F23.keep) ((CC _).le (by omega)) (by omega) (by omega) S23) (by k_is) (by k_is) (by k_is)
  rintro v h24 tk24 ⟨t24, rfl⟩ F24 N24
  clear F23 N23
  repeat boot_fact
  refine if_is_F (by rw [htl2]; simp) ?_
  repeat boot_fact
  refine isTrue_chain ?_ (by with_unfolding_all rfl)
  repeat boot_fact
  rename Fr _ _ _ _ => F25
  rename News _ _ _ _ => N25
  refine max_two_N (hh _) F25 N25 fun h26 tk26 F26 N26 => ?_
  rw [hmx]
  clear F25 N25
  repeat boot_fact
  refine test_link ?_
  repeat boot_fact
  rename Fr _ _ _ _ => F27
  rename News _ _ _ _ => N27
  refine Call_kw ?_ (by with_unfolding_all rfl)
  repeat boot_fact
  refine callWith_KW0 (Om.keeps F27.keep).k (by k_is) (by with_unfolding_all rfl) ?_ (by with_unfolding_all rfl)
  refine kwAll_cons ?_
  repeat boot_fact
  refine kwAll_nil ?_
  refine ⟨(Om.keeps F27.keep).k, ?_⟩
  refine call_as (kw' := [("external", .bool false)]) (by with_unfolding_all rfl) ?_
  dsimp only [List.nil_append]
  refine make266 F27 N27 Om ((CU _ _).le (by omega)) fun mz dz h28 tk28 es2 n2 F28 N28 S28 => ?_
  have S28' := selfNews S28 N28 (.head _) (.tail _ (.head _))
  obtain ⟨dI28, I28⟩ := S28'.inst
  refine method_inst F28 Om.k I28 (by k_is) (by k_is) (by k_is) (S28'.no "distance" (by simp [clsNames])) ?_
  clear F27 N27
  repeat boot_fact
  refine' Gives.use ?g1 ?g2 ?g3 ?_
  case g2 => exact F28
  case g3 => exact N28
  case g1 => exact lev_dist (Om.keeps F28.keep) ((CC _).le (by omega)) (by omega) (by omega) S28'
  rintro v h29 tk29 ⟨far, t29, rfl, hfar⟩ F29 N29
  have hb := levD_bounds hfar
  clear F28 N28
  replace N29 : News (minus s₁.heap) s₁.heap.objs.size h29 [(ms, instObj 225 dx), (dx, dictOf es n), (s₁.heap.objs.size + 1 + 1 + 1, o1), (s₁.heap.objs.size + 1 + 1, o2), (s₁.heap.objs.size + 1, o3'), (205, tabO #[])] := fun q hq => N29 q (.tail _ (.tail _ hq))
  repeat boot_fact
  refine PyProof.Rows.le_int ?_
  rw [decide_eq_true (by omega)]
  repeat boot_fact
  refine test_last ?_
  repeat boot_fact
  refine PyProof.Rows.mul_int ?_ (IntMulOk.of_left (PySem.intBits_le_64 (by omega) (by omega)))
  repeat boot_fact
  refine PyProof.Rows.le_int ?_
  rw [decide_eq_true (by omega)]
  repeat boot_fact
  rename Fr _ _ _ _ => F30
  rename News _ _ _ _ => N30
  refine' slice_two ?g4 ?g5 ?_ ?g6 ?g7 ?g8
  case g4 => exact F30
  case g5 => exact N30
  case g6 => with_unfolding_all rfl
  case g7 => intro _; with_unfolding_all rfl
  case g8 => rw [sizeLine_eq]; omega
  intro X hX hXl h31 t31 tk31 F31 N31
  clear F30 N30
  repeat boot_fact
  rename Fr _ _ _ _ => F32
  rename News _ _ _ _ => N32
  refine' slice_two ?g9 ?g10 ?_ ?g11 ?g12 ?g13
  case g9 => exact F32
  case g10 => exact N32
  case g11 => with_unfolding_all rfl
  case g12 => intro _; with_unfolding_all rfl
  case g13 => rw [sizeLine_eq]; omega
  intro Y hY hYl h33 t33 tk33 F33 N33
  clear F32 N32
  repeat boot_fact
  refine nmE_C (c := s₁.heap.objs.size + 1) (o := o3') (by with_unfolding_all rfl) (by with_unfolding_all rfl) (by with_unfolding_all rfl) (by decide) N33 (by first | exact .head _ | exact .tail _ (.head _) | exact .tail _ (.tail _ (.head _)) | exact .tail _ (.tail _ (.tail _ (.head _))) | exact .tail _ (.tail _ (.tail _ (.tail _ (.head _)))) | exact .tail _ (.tail _ (.tail _ (.tail _ (.tail _ (.head _))))) | exact .tail _ (.tail _ (.tail _ (.tail _ (.tail _ (.tail _ (.head _)))))) | exact .tail _ (.tail _ (.tail _ (.tail _ (.tail _ (.tail _ (.tail _ (.head _))))))) | exact .tail _ (.tail _ (.tail _ (.tail _ (.tail _ (.tail _ (.tail _ (.tail _ (.head _))))))))) hc3' ?_
  repeat boot_fact
  rename Fr _ _ _ _ => F34
  rename News _ _ _ _ => N34
  clear F33 N33
  obtain ⟨W, N34, hWv⟩ : ∃ W : Addr, News (minus s₁.heap) s₁.heap.objs.size _ [(W, listOf #[.str X t31, .str Y t33, .str z tz] 0), (ms, instObj 225 dx), (dx, dictOf es n), (s₁.heap.objs.size + 1 + 1 + 1, o1), (s₁.heap.objs.size + 1 + 1, o2), (s₁.heap.objs.size + 1, o3'), (205, tabO #[])] ∧ h33.objs.size = W := ⟨_, N34, rfl⟩
  rw [hWv]
  have N35 : News (minus s₁.heap) s₁.heap.objs.size _ ([(W, listOf #[.str X t31, .str Y t33, .str z tz] 0), (ms, instObj 225 dx), (dx, dictOf es n), (s₁.heap.objs.size + 1 + 1 + 1, o1)] ++ (s₁.heap.objs.size + 1 + 1, o2) :: [(s₁.heap.objs.size + 1, o3'), (205, tabO #[])]) := N34
  have hT2 : (205 : Addr) ≠ s₁.heap.objs.size + 1 + 1 := Nat.ne_of_lt (Nat.lt_succ_of_lt (Nat.lt_succ_of_lt (nlt h205)))
  have hT1 : (205 : Addr) ≠ s₁.heap.objs.size + 1 + 1 + 1 := Nat.ne_of_lt (Nat.lt_succ_of_lt (Nat.lt_succ_of_lt (Nat.lt_succ_of_lt (nlt h205))))
  have pre2 : ∀ p ∈ [(W, listOf #[.str X t31, .str Y t33, .str z tz] 0), (ms, instObj 225 dx), (dx, dictOf es n), (s₁.heap.objs.size + 1 + 1 + 1, o1)], p.1 ≠ s₁.heap.objs.size + 1 + 1 := fun p hp => by
    rcases List.mem_cons.mp hp with rfl | hp
    · exact cellNe N34 (by first | exact .head _ | exact .tail _ (.head _) | exact .tail _ (.tail _ (.head _)) | exact .tail _ (.tail _ (.tail _ (.head _))) | exact .tail _ (.tail _ (.tail _ (.tail _ (.head _)))) | exact .tail _ (.tail _ (.tail _ (.tail _ (.tail _ (.head _))))) | exact .tail _ (.tail _ (.tail _ (.tail _ (.tail _ (.tail _ (.head _)))))) | exact .tail _ (.tail _ (.tail _ (.tail _ (.tail _ (.tail _ (.tail _ (.head _))))))) | exact .tail _ (.tail _ (.tail _ (.tail _ (.tail _ (.tail _ (.tail _ (.tail _ (.head _)))))))) | exact .tail _ (.tail _ (.tail _ (.tail _ (.tail _ (.tail _ (.tail _ (.tail _ (.tail _ (.head _)))))))))) (by first | exact .head _ | exact .tail _ (.head _) | exact .tail _ (.tail _ (.head _)) | exact .tail _ (.tail _ (.tail _ (.head _))) | exact .tail _ (.tail _ (.tail _ (.tail _ (.head _)))) | exact .tail _ (.tail _ (.tail _ (.tail _ (.tail _ (.head _))))) | exact .tail _ (.tail _ (.tail _ (.tail _ (.tail _ (.tail _ (.head _)))))) | exact .tail _ (.tail _ (.tail _ (.tail _ (.tail _ (.tail _ (.tail _ (.head _))))))) | exact .tail _ (.tail _ (.tail _ (.tail _ (.tail _ (.tail _ (.tail _ (.tail _ (.head _)))))))) | exact .tail _ (.tail _ (.tail _ (.tail _ (.tail _ (.tail _ (.tail _ (.tail _ (.tail _ (.head _)))))))))) hc2 (fun v h => by cases h)
    · rcases List.mem_cons.mp hp with rfl | hp
      · exact cellNe N34 (by first | exact .head _ | exact .tail _ (.head _) | exact .tail _ (.tail _ (.head _)) | exact .tail _ (.tail _ (.tail _ (.head _))) | exact .tail _ (.tail _ (.tail _ (.tail _ (.head _)))) | exact .tail _ (.tail _ (.tail _ (.tail _ (.tail _ (.head _))))) | exact .tail _ (.tail _ (.tail _ (.tail _ (.tail _ (.tail _ (.head _)))))) | exact .tail _ (.tail _ (.tail _ (.tail _ (.tail _ (.tail _ (.tail _ (.head _))))))) | exact .tail _ (.tail _ (.tail _ (.tail _ (.tail _ (.tail _ (.tail _ (.tail _ (.head _)))))))) | exact .tail _ (.tail _ (.tail _ (.tail _ (.tail _ (.tail _ (.tail _ (.tail _ (.tail _ (.head _)))))))))) (by first | exact .head _ | exact .tail _ (.head _) | exact .tail _ (.tail _ (.head _)) | exact .tail _ (.tail _ (.tail _ (.head _))) | exact .tail _ (.tail _ (.tail _ (.tail _ (.head _)))) | exact .tail _ (.tail _ (.tail _ (.tail _ (.tail _ (.head _))))) | exact .tail _ (.tail _ (.tail _ (.tail _ (.tail _ (.tail _ (.head _)))))) | exact .tail _ (.tail _ (.tail _ (.tail _ (.tail _ (.tail _ (.tail _ (.head _))))))) | exact .tail _ (.tail _ (.tail _ (.tail _ (.tail _ (.tail _ (.tail _ (.tail _ (.head _)))))))) | exact .tail _ (.tail _ (.tail _ (.tail _ (.tail _ (.tail _ (.tail _ (.tail _ (.tail _ (.head _)))))))))) hc2 (fun v h => by cases h)
      · rcases List.mem_cons.mp hp with rfl | hp
        · exact cellNe N34 (by first | exact .head _ | exact .tail _ (.head _) | exact .tail _ (.tail _ (.head _)) | exact .tail _ (.tail _ (.tail _ (.head _))) | exact .tail _ (.tail _ (.tail _ (.tail _ (.head _)))) | exact .tail _ (.tail _ (.tail _ (.tail _ (.tail _ (.head _))))) | exact .tail _ (.tail _ (.tail _ (.tail _ (.tail _ (.tail _ (.head _)))))) | exact .tail _ (.tail _ (.tail _ (.tail _ (.tail _ (.tail _ (.tail _ (.head _))))))) | exact .tail _ (.tail _ (.tail _ (.tail _ (.tail _ (.tail _ (.tail _ (.tail _ (.head _)))))))) | exact .tail _ (.tail _ (.tail _ (.tail _ (.tail _ (.tail _ (.tail _ (.tail _ (.tail _ (.head _)))))))))) (by first | exact .head _ | exact .tail _ (.head _) | exact .tail _ (.tail _ (.head _)) | exact .tail _ (.tail _ (.tail _ (.head _))) | exact .tail _ (.tail _ (.tail _ (.tail _ (.head _)))) | exact .tail _ (.tail _ (.tail _ (.tail _ (.tail _ (.head _))))) | exact .tail _ (.tail _ (.tail _ (.tail _ (.tail _ (.tail _ (.head _)))))) | exact .tail _ (.tail _ (.tail _ (.tail _ (.tail _ (.tail _ (.tail _ (.head _))))))) | exact .tail _ (.tail _ (.tail _ (.tail _ (.tail _ (.tail _ (.tail _ (.tail _ (.head _)))))))) | exact .tail _ (.tail _ (.tail _ (.tail _ (.tail _ (.tail _ (.tail _ (.tail _ (.tail _ (.head _)))))))))) hc2 (fun v h => by cases h)
        · rw [List.mem_singleton.mp hp]; exact Nat.succ_ne_self _
  have post2 : ∀ p ∈ [(s₁.heap.objs.size + 1, o3'), ((205 : Addr), tabO #[])], p.1 ≠ s₁.heap.objs.size + 1 + 1 := fun p hp => by
    rcases List.mem_cons.mp hp with rfl | hp
    · exact Nat.ne_of_lt (Nat.lt_succ_self _)
    · rw [List.mem_singleton.mp hp]; exact hT2
  refine stE_C (c := s₁.heap.objs.size + 1 + 1) (by with_unfolding_all rfl) (by with_unfolding_all rfl) (by with_unfolding_all rfl) F34 N35 pre2 post2 hc2 fun h36 o2' hc2' F36 N36 => ?_
  dsimp only [List.cons_append, List.nil_append] at N36
  clear F34 N34 N35 pre2 post2 hc2
  repeat boot_fact
  refine kco_callWith (K := hd.heap_1 w.params) (f := 215) ((Om.keeps F36.keep).k) (InstAt.of_news N36 (.tail _ (.head _)) (.tail _ (.tail _ (.head _)))) rfl (by k_is) ?_ (by with_unfolding_all rfl) (by with_unfolding_all rfl)
  repeat boot_fact
  refine nmE_C (c := s₁.heap.objs.size + 1 + 1) (o := o2') (by with_unfolding_all rfl) (by with_unfolding_all rfl) (by with_unfolding_all rfl) (by decide) N36 (by first | exact .head _ | exact .tail _ (.head _) | exact .tail _ (.tail _ (.head _)) | exact .tail _ (.tail _ (.tail _ (.head _))) | exact .tail _ (.tail _ (.tail _ (.tail _ (.head _)))) | exact .tail _ (.tail _ (.tail _ (.tail _ (.tail _ (.head _))))) | exact .tail _ (.tail _ (.tail _ (.tail _ (.tail _ (.tail _ (.head _)))))) | exact .tail _ (.tail _ (.tail _ (.tail _ (.tail _ (.tail _ (.tail _ (.head _))))))) | exact .tail _ (.tail _ (.tail _ (.tail _ (.tail _ (.tail _ (.tail _ (.tail _ (.head _)))))))) | exact .tail _ (.tail _ (.tail _ (.tail _ (.tail _ (.tail _ (.tail _ (.tail _ (.tail _ (.head _)))))))))) hc2' ?_
  repeat boot_fact
  refine' read_ref (k := 0) N36 (by first | exact .head _ | exact .tail _ (.head _) | exact .tail _ (.tail _ (.head _)) | exact .tail _ (.tail _ (.tail _ (.head _))) | exact .tail _ (.tail _ (.tail _ (.tail _ (.head _)))) | exact .tail _ (.tail _ (.tail _ (.tail _ (.tail _ (.head _))))) | exact .tail _ (.tail _ (.tail _ (.tail _ (.tail _ (.tail _ (.head _)))))) | exact .tail _ (.tail _ (.tail _ (.tail _ (.tail _ (.tail _ (.tail _ (.head _))))))) | exact .tail _ (.tail _ (.tail _ (.tail _ (.tail _ (.tail _ (.tail _ (.tail _ (.head _)))))))) | exact .tail _ (.tail _ (.tail _ (.tail _ (.tail _ (.tail _ (.tail _ (.tail _ (.tail _ (.head _)))))))))) rfl (by omega) rfl ?_ ?r01 ?r02
  case r01 => with_unfolding_all rfl
  case r02 => intro _; with_unfolding_all rfl
  repeat boot_fact
  repeat boot_fact
  refine nmE_C (c := s₁.heap.objs.size + 1 + 1) (o := o2') (by with_unfolding_all rfl) (by with_unfolding_all rfl) (by with_unfolding_all rfl) (by decide) N36 (by first | exact .head _ | exact .tail _ (.head _) | exact .tail _ (.tail _ (.head _)) | exact .tail _ (.tail _ (.tail _ (.head _))) | exact .tail _ (.tail _ (.tail _ (.tail _ (.head _)))) | exact .tail _ (.tail _ (.tail _ (.tail _ (.tail _ (.head _))))) | exact .tail _ (.tail _ (.tail _ (.tail _ (.tail _ (.tail _ (.head _)))))) | exact .tail _ (.tail _ (.tail _ (.tail _ (.tail _ (.tail _ (.tail _ (.head _))))))) | exact .tail _ (.tail _ (.tail _ (.tail _ (.tail _ (.tail _ (.tail _ (.tail _ (.head _)))))))) | exact .tail _ (.tail _ (.tail _ (.tail _ (.tail _ (.tail _ (.tail _ (.tail _ (.tail _ (.head _)))))))))) hc2' ?_
  repeat boot_fact
  refine' read_ref (k := 1) N36 (by first | exact .head _ | exact .tail _ (.head _) | exact .tail _ (.tail _ (.head _)) | exact .tail _ (.tail _ (.tail _ (.head _))) | exact .tail _ (.tail _ (.tail _ (.tail _ (.head _)))) | exact .tail _ (.tail _ (.tail _ (.tail _ (.tail _ (.head _))))) | exact .tail _ (.tail _ (.tail _ (.tail _ (.tail _ (.tail _ (.head _)))))) | exact .tail _ (.tail _ (.tail _ (.tail _ (.tail _ (.tail _ (.tail _ (.head _))))))) | exact .tail _ (.tail _ (.tail _ (.tail _ (.tail _ (.tail _ (.tail _ (.tail _ (.head _)))))))) | exact .tail _ (.tail _ (.tail _ (.tail _ (.tail _ (.tail _ (.tail _ (.tail _ (.tail _ (.head _)))))))))) rfl (by omega) rfl ?_ ?r11 ?r12
  case r11 => with_unfolding_all rfl
  case r12 => intro _; with_unfolding_all rfl
  repeat boot_fact
  repeat boot_fact
  refine nmE_C (c := s₁.heap.objs.size + 1 + 1) (o := o2') (by with_unfolding_all rfl) (by with_unfolding_all rfl) (by with_unfolding_all rfl) (by decide) N36 (by first | exact .head _ | exact .tail _ (.head _) | exact .tail _ (.tail _ (.head _)) | exact .tail _ (.tail _ (.tail _ (.head _))) | exact .tail _ (.tail _ (.tail _ (.tail _ (.head _)))) | exact .tail _ (.tail _ (.tail _ (.tail _ (.tail _ (.head _))))) | exact .tail _ (.tail _ (.tail _ (.tail _ (.tail _ (.tail _ (.head _)))))) | exact .tail _ (.tail _ (.tail _ (.tail _ (.tail _ (.tail _ (.tail _ (.head _))))))) | exact .tail _ (.tail _ (.tail _ (.tail _ (.tail _ (.tail _ (.tail _ (.tail _ (.head _)))))))) | exact .tail _ (.tail _ (.tail _ (.tail _ (.tail _ (.tail _ (.tail _ (.tail _ (.tail _ (.head _)))))))))) hc2' ?_
  repeat boot_fact
  refine' read_ref (k := 2) N36 (by first | exact .head _ | exact .tail _ (.head _) | exact .tail _ (.tail _ (.head _)) | exact .tail _ (.tail _ (.tail _ (.head _))) | exact .tail _ (.tail _ (.tail _ (.tail _ (.head _)))) | exact .tail _ (.tail _ (.tail _ (.tail _ (.tail _ (.head _))))) | exact .tail _ (.tail _ (.tail _ (.tail _ (.tail _ (.tail _ (.head _)))))) | exact .tail _ (.tail _ (.tail _ (.tail _ (.tail _ (.tail _ (.tail _ (.head _))))))) | exact .tail _ (.tail _ (.tail _ (.tail _ (.tail _ (.tail _ (.tail _ (.tail _ (.head _)))))))) | exact .tail _ (.tail _ (.tail _ (.tail _ (.tail _ (.tail _ (.tail _ (.tail _ (.tail _ (.head _)))))))))) rfl (by omega) rfl ?_ ?r21 ?r22
  case r21 => with_unfolding_all rfl
  case r22 => intro _; with_unfolding_all rfl
  repeat boot_fact
  refine ⟨⟨(Om.keeps F36.keep).k, InstAt.of_news N36 (.tail _ (.head _)) (.tail _ (.tail _ (.head _)))⟩, ?_⟩
  dsimp only [List.nil_append]
  have S36 := selfNews S10 N36 (.tail _ (.head _)) (.tail _ (.tail _ (.head _)))
  have htr0 : TriplesOk (#[] : Array Value).toList := by first | trivial | simp [TriplesOk]
  have G0 : AllBare s₁.gens := AllBare.of_eq hgens
  have O36 : OkT w _ := OTm.keeps F36.keep
  refine' GivesT.use (news := [(W, listOf #[.str X t31, .str Y t33, .str z tz] 0), (ms, instObj 225 dx), (dx, dictOf es n), (s₁.heap.objs.size + 1 + 1 + 1, o1), (s₁.heap.objs.size + 1 + 1, o2'), (s₁.heap.objs.size + 1, o3')]) ?k1 ?k2 ?k3 htr0 G0 ?k4 ?_
  case k2 => exact F36
  case k3 => exact N36
  case k4 =>
    intro p hp
    rcases List.mem_cons.mp hp with rfl | hp
    · exact ne205 N36 (by first | exact .head _ | exact .tail _ (.head _) | exact .tail _ (.tail _ (.head _)) | exact .tail _ (.tail _ (.tail _ (.head _))) | exact .tail _ (.tail _ (.tail _ (.tail _ (.head _)))) | exact .tail _ (.tail _ (.tail _ (.tail _ (.tail _ (.head _))))) | exact .tail _ (.tail _ (.tail _ (.tail _ (.tail _ (.tail _ (.head _)))))) | exact .tail _ (.tail _ (.tail _ (.tail _ (.tail _ (.tail _ (.tail _ (.head _))))))) | exact .tail _ (.tail _ (.tail _ (.tail _ (.tail _ (.tail _ (.tail _ (.tail _ (.head _)))))))) | exact .tail _ (.tail _ (.tail _ (.tail _ (.tail _ (.tail _ (.tail _ (.tail _ (.tail _ (.head _)))))))))) (.head _) (by simp)
    · rcases List.mem_cons.mp hp with rfl | hp
      · exact ne205 N36 (by first | exact .head _ | exact .tail _ (.head _) | exact .tail _ (.tail _ (.head _)) | exact .tail _ (.tail _ (.tail _ (.head _))) | exact .tail _ (.tail _ (.tail _ (.tail _ (.head _)))) | exact .tail _ (.tail _ (.tail _ (.tail _ (.tail _ (.head _))))) | exact .tail _ (.tail _ (.tail _ (.tail _ (.tail _ (.tail _ (.head _)))))) | exact .tail _ (.tail _ (.tail _ (.tail _ (.tail _ (.tail _ (.tail _ (.head _))))))) | exact .tail _ (.tail _ (.tail _ (.tail _ (.tail _ (.tail _ (.tail _ (.tail _ (.head _)))))))) | exact .tail _ (.tail _ (.tail _ (.tail _ (.tail _ (.tail _ (.tail _ (.tail _ (.tail _ (.head _)))))))))) (.tail _ (.head _)) (by simp)
      · rcases List.mem_cons.mp hp with rfl | hp
        · exact ne205 N36 (by first | exact .head _ | exact .tail _ (.head _) | exact .tail _ (.tail _ (.head _)) | exact .tail _ (.tail _ (.tail _ (.head _))) | exact .tail _ (.tail _ (.tail _ (.tail _ (.head _)))) | exact .tail _ (.tail _ (.tail _ (.tail _ (.tail _ (.head _))))) | exact .tail _ (.tail _ (.tail _ (.tail _ (.tail _ (.tail _ (.head _)))))) | exact .tail _ (.tail _ (.tail _ (.tail _ (.tail _ (.tail _ (.tail _ (.head _))))))) | exact .tail _ (.tail _ (.tail _ (.tail _ (.tail _ (.tail _ (.tail _ (.tail _ (.head _)))))))) | exact .tail _ (.tail _ (.tail _ (.tail _ (.tail _ (.tail _ (.tail _ (.tail _ (.tail _ (.head _)))))))))) (.tail _ (.tail _ (.head _))) (by simp)
        · rcases List.mem_cons.mp hp with rfl | hp
          · exact hT1.symm
          · rcases List.mem_cons.mp hp with rfl | hp
            · exact hT2.symm
            · rw [List.mem_singleton.mp hp]; exact hT3.symm
  case k1 => exact GivesT.self O36.ok S36 (rec_all 20 _ _ X Y z _ _ _ ms es n O36 ((CC _).le (by omega)) (by omega) (by omega) ⟨#[], (N36 (205, tabO #[]) (by first | exact .head _ | exact .tail _ (.head _) | exact .tail _ (.tail _ (.head _)) | exact .tail _ (.tail _ (.tail _ (.head _))) | exact .tail _ (.tail _ (.tail _ (.tail _ (.head _)))) | exact .tail _ (.tail _ (.tail _ (.tail _ (.tail _ (.head _))))) | exact .tail _ (.tail _ (.tail _ (.tail _ (.tail _ (.tail _ (.head _)))))) | exact .tail _ (.tail _ (.tail _ (.tail _ (.tail _ (.tail _ (.tail _ (.head _))))))) | exact .tail _ (.tail _ (.tail _ (.tail _ (.tail _ (.tail _ (.tail _ (.tail _ (.head _)))))))) | exact .tail _ (.tail _ (.tail _ (.tail _ (.tail _ (.tail _ (.tail _ (.tail _ (.tail _ (.head _))))))))))).1, htr0⟩ G0 S36) (by k_is) (by k_is) (by k_is)
  rintro vr s37 ps37 ⟨t37, rfl⟩ hm37 tr37 G37 os37 F37 N37
  dsimp only [List.cons_append, List.nil_append] at N37
  clear F36 N36 S36 O36
  repeat boot_fact
  have N38 : News (minus s₁.heap) s₁.heap.objs.size s37.heap ([(W, listOf #[.str X t31, .str Y t33, .str z tz] 0), (ms, instObj 225 dx), (dx, dictOf es n)] ++ (s₁.heap.objs.size + 1 + 1 + 1, o1) :: [(s₁.heap.objs.size + 1 + 1, o2'), (s₁.heap.objs.size + 1, o3'), (205, tabO ps37)]) := N37
  have pre1 : ∀ p ∈ [(W, listOf #[.str X t31, .str Y t33, .str z tz] 0), (ms, instObj 225 dx), (dx, dictOf es n)], p.1 ≠ s₁.heap.objs.size + 1 + 1 + 1 := fun p hp => by
    rcases List.mem_cons.mp hp with rfl | hp
    · exact cellNe N37 (by first | exact .head _ | exact .tail _ (.head _) | exact .tail _ (.tail _ (.head _)) | exact .tail _ (.tail _ (.tail _ (.head _))) | exact .tail _ (.tail _ (.tail _ (.tail _ (.head _)))) | exact .tail _ (.tail _ (.tail _ (.tail _ (.tail _ (.head _))))) | exact .tail _ (.tail _ (.tail _ (.tail _ (.tail _ (.tail _ (.head _)))))) | exact .tail _ (.tail _ (.tail _ (.tail _ (.tail _ (.tail _ (.tail _ (.head _))))))) | exact .tail _ (.tail _ (.tail _ (.tail _ (.tail _ (.tail _ (.tail _ (.tail _ (.head _)))))))) | exact .tail _ (.tail _ (.tail _ (.tail _ (.tail _ (.tail _ (.tail _ (.tail _ (.tail _ (.head _)))))))))) (by first | exact .head _ | exact .tail _ (.head _) | exact .tail _ (.tail _ (.head _)) | exact .tail _ (.tail _ (.tail _ (.head _))) | exact .tail _ (.tail _ (.tail _ (.tail _ (.head _)))) | exact .tail _ (.tail _ (.tail _ (.tail _ (.tail _ (.head _))))) | exact .tail _ (.tail _ (.tail _ (.tail _ (.tail _ (.tail _ (.head _)))))) | exact .tail _ (.tail _ (.tail _ (.tail _ (.tail _ (.tail _ (.tail _ (.head _))))))) | exact .tail _ (.tail _ (.tail _ (.tail _ (.tail _ (.tail _ (.tail _ (.tail _ (.head _)))))))) | exact .tail _ (.tail _ (.tail _ (.tail _ (.tail _ (.tail _ (.tail _ (.tail _ (.tail _ (.head _)))))))))) hc1 (fun v h => by cases h)
    · rcases List.mem_cons.mp hp with rfl | hp
      · exact cellNe N37 (by first | exact .head _ | exact .tail _ (.head _) | exact .tail _ (.tail _ (.head _)) | exact .tail _ (.tail _ (.tail _ (.head _))) | exact .tail _ (.tail _ (.tail _ (.tail _ (.head _)))) | exact .tail _ (.tail _ (.tail _ (.tail _ (.tail _ (.head _))))) | exact .tail _ (.tail _ (.tail _ (.tail _ (.tail _ (.tail _ (.head _)))))) | exact .tail _ (.tail _ (.tail _ (.tail _ (.tail _ (.tail _ (.tail _ (.head _))))))) | exact .tail _ (.tail _ (.tail _ (.tail _ (.tail _ (.tail _ (.tail _ (.tail _ (.head _)))))))) | exact .tail _ (.tail _ (.tail _ (.tail _ (.tail _ (.tail _ (.tail _ (.tail _ (.tail _ (.head _)))))))))) (by first | exact .head _ | exact .tail _ (.head _) | exact .tail _ (.tail _ (.head _)) | exact .tail _ (.tail _ (.tail _ (.head _))) | exact .tail _ (.tail _ (.tail _ (.tail _ (.head _)))) | exact .tail _ (.tail _ (.tail _ (.tail _ (.tail _ (.head _))))) | exact .tail _ (.tail _ (.tail _ (.tail _ (.tail _ (.tail _ (.head _)))))) | exact .tail _ (.tail _ (.tail _ (.tail _ (.tail _ (.tail _ (.tail _ (.head _))))))) | exact .tail _ (.tail _ (.tail _ (.tail _ (.tail _ (.tail _ (.tail _ (.tail _ (.head _)))))))) | exact .tail _ (.tail _ (.tail _ (.tail _ (.tail _ (.tail _ (.tail _ (.tail _ (.tail _ (.head _)))))))))) hc1 (fun v h => by cases h)
      · rw [List.mem_singleton.mp hp]
        exact cellNe N37 (by first | exact .head _ | exact .tail _ (.head _) | exact .tail _ (.tail _ (.head _)) | exact .tail _ (.tail _ (.tail _ (.head _))) | exact .tail _ (.tail _ (.tail _ (.tail _ (.head _)))) | exact .tail _ (.tail _ (.tail _ (.tail _ (.tail _ (.head _))))) | exact .tail _ (.tail _ (.tail _ (.tail _ (.tail _ (.tail _ (.head _)))))) | exact .tail _ (.tail _ (.tail _ (.tail _ (.tail _ (.tail _ (.tail _ (.head _))))))) | exact .tail _ (.tail _ (.tail _ (.tail _ (.tail _ (.tail _ (.tail _ (.tail _ (.head _)))))))) | exact .tail _ (.tail _ (.tail _ (.tail _ (.tail _ (.tail _ (.tail _ (.tail _ (.tail _ (.head _)))))))))) (p := (dx, dictOf es n)) (by first | exact .head _ | exact .tail _ (.head _) | exact .tail _ (.tail _ (.head _)) | exact .tail _ (.tail _ (.tail _ (.head _))) | exact .tail _ (.tail _ (.tail _ (.tail _ (.head _)))) | exact .tail _ (.tail _ (.tail _ (.tail _ (.tail _ (.head _))))) | exact .tail _ (.tail _ (.tail _ (.tail _ (.tail _ (.tail _ (.head _)))))) | exact .tail _ (.tail _ (.tail _ (.tail _ (.tail _ (.tail _ (.tail _ (.head _))))))) | exact .tail _ (.tail _ (.tail _ (.tail _ (.tail _ (.tail _ (.tail _ (.tail _ (.head _)))))))) | exact .tail _ (.tail _ (.tail _ (.tail _ (.tail _ (.tail _ (.tail _ (.tail _ (.tail _ (.head _)))))))))) hc1 (fun v h => by cases h)
  have post1 : ∀ p ∈ [(s₁.heap.objs.size + 1 + 1, o2'), (s₁.heap.objs.size + 1, o3'), ((205 : Addr), tabO ps37)], p.1 ≠ s₁.heap.objs.size + 1 + 1 + 1 := fun p hp => by
    rcases List.mem_cons.mp hp with rfl | hp
    · exact Nat.ne_of_lt (Nat.lt_succ_self _)
    · rcases List.mem_cons.mp hp with rfl | hp
      · exact Nat.ne_of_lt (Nat.lt_succ_of_lt (Nat.lt_succ_self _))
      · rw [List.mem_singleton.mp hp]; exact hT1
  refine stE_C (c := s₁.heap.objs.size + 1 + 1 + 1) (by with_unfolding_all rfl) (by with_unfolding_all rfl) (by with_unfolding_all rfl) F37 N38 pre1 post1 hc1 fun h39 o1' hc1' F39 N39 => ?_
  dsimp only [List.cons_append, List.nil_append] at N39
  clear F37 N37 N38 pre1 post1 hc1
  have hp4 : 2 ^ z.length ≤ 4 := Nat.le_trans (Nat.pow_le_pow_right (by decide) hz2) (by decide)
  boot_fact
  refine' listcompC_store (h₀ := minus s₁.heap) (2 ^ z.length) (fun i => Mine.S (picks z.cps.toList i)) ?l1 ?l2 ?l3 ?l4 ?l5 ?l6 ?l7 ?l8 ?l9 ?_ ?l10
  case l1 => rfl
  case l2 => rfl
  case l3 => rfl
  case l4 => rfl
  case l5 => intro k acc; rfl
  case l6 => intro h; rfl
  case l7 => rfl
  case l8 => decide
  case l9 => intro C; rfl
  case l10 => intro _; rfl
  repeat boot_fact
  refine nmE_C (c := s₁.heap.objs.size + 1) (o := o3') (by with_unfolding_all rfl) (by with_unfolding_all rfl) (by with_unfolding_all rfl) (by decide) N39 (by first | exact .head _ | exact .tail _ (.head _) | exact .tail _ (.tail _ (.head _)) | exact .tail _ (.tail _ (.tail _ (.head _))) | exact .tail _ (.tail _ (.tail _ (.tail _ (.head _)))) | exact .tail _ (.tail _ (.tail _ (.tail _ (.tail _ (.head _))))) | exact .tail _ (.tail _ (.tail _ (.tail _ (.tail _ (.tail _ (.head _)))))) | exact .tail _ (.tail _ (.tail _ (.tail _ (.tail _ (.tail _ (.tail _ (.head _))))))) | exact .tail _ (.tail _ (.tail _ (.tail _ (.tail _ (.tail _ (.tail _ (.tail _ (.head _)))))))) | exact .tail _ (.tail _ (.tail _ (.tail _ (.tail _ (.tail _ (.tail _ (.tail _ (.tail _ (.head _)))))))))) hc3' ?_
  repeat boot_fact
  refine pow_two (by omega) ?_
  repeat boot_fact
  rename Fr _ _ _ _ => F40
  rename News _ _ _ _ => N40
  try clear F39
  try clear N39
  refine' range_it (n := 2 ^ z.length) (hh _) ?p1 ?p2 rfl (by omega) ?_
  case p1 => exact F40
  case p2 => exact N40
  intro I St h41 tk41 F41 N41 S41
  refine ⟨_, _, I, _, St, F41, N41, rfl, S41, by rw [sizeLine_eq]; omega, ?_, ?_⟩
  · intro i v s₃ m₃ hi hv hn hcK hk
    obtain ⟨tv, rfl⟩ := hv
    obtain ⟨oK, hoK, hdK⟩ := hcK
    have hi4 : i < 4 := by omega
    obtain ⟨all, F5, N5, hk0, hall⟩ := comp_frame (cells := [(s₁.heap.objs.size + 1, o3')]) F41 N41 S41.base (fun q hq => S41.apart q (by rw [List.mem_singleton.mp hq]; exact (by first | exact .head _ | exact .tail _ (.head _) | exact .tail _ (.tail _ (.head _)) | exact .tail _ (.tail _ (.tail _ (.head _))) | exact .tail _ (.tail _ (.tail _ (.tail _ (.head _)))) | exact .tail _ (.tail _ (.tail _ (.tail _ (.tail _ (.head _))))) | exact .tail _ (.tail _ (.tail _ (.tail _ (.tail _ (.tail _ (.head _)))))) | exact .tail _ (.tail _ (.tail _ (.tail _ (.tail _ (.tail _ (.tail _ (.head _))))))) | exact .tail _ (.tail _ (.tail _ (.tail _ (.tail _ (.tail _ (.tail _ (.tail _ (.head _)))))))) | exact .tail _ (.tail _ (.tail _ (.tail _ (.tail _ (.tail _ (.tail _ (.tail _ (.tail _ (.head _)))))))))))) (fun q hq => by rw [List.mem_singleton.mp hq]; exact (by first | exact .head _ | exact .tail _ (.head _) | exact .tail _ (.tail _ (.head _)) | exact .tail _ (.tail _ (.tail _ (.head _))) | exact .tail _ (.tail _ (.tail _ (.tail _ (.head _)))) | exact .tail _ (.tail _ (.tail _ (.tail _ (.tail _ (.head _))))) | exact .tail _ (.tail _ (.tail _ (.tail _ (.tail _ (.tail _ (.head _)))))) | exact .tail _ (.tail _ (.tail _ (.tail _ (.tail _ (.tail _ (.tail _ (.head _))))))) | exact .tail _ (.tail _ (.tail _ (.tail _ (.tail _ (.tail _ (.tail _ (.tail _ (.head _)))))))) | exact .tail _ (.tail _ (.tail _ (.tail _ (.tail _ (.tail _ (.tail _ (.tail _ (.tail _ (.head _))))))))))) hn hk
    dsimp only [List.cons_append, List.nil_append] at N5 hall
    have N6 : News (minus s₁.heap) (h41.objs.size + 1) s₃.heap ((h41.objs.size + 2, oK) :: (s₁.heap.objs.size + 1, o3') :: all) := fun q hq => by
      rcases List.mem_cons.mp hq with rfl | hq
      · exact ⟨hoK, Nat.succ_ne_self _, Heap.get?_none_of_le (Nat.le_trans F41.above (Nat.le_trans (Nat.le_of_lt (nslt F41.ns)) (Nat.le_add_right _ 2)))⟩
      · exact N5 q hq
    try clear F41
    try clear N41
    try clear F40
    try clear N40
    try clear S41
    try clear N5
    repeat boot_fact
    refine GM.join ?_
    repeat boot_fact
    refine callWith_method1 ?_ (by with_unfolding_all rfl) (by with_unfolding_all rfl)
    repeat boot_fact
    rename Fr _ _ _ _ => F7
    rename News _ _ _ _ => N7
    refine' listcomp (h₀ := minus s₁.heap) (L := h41.objs.size + 1) z.length (bitOf i) (fun _ k q _ => ∃ t, q = Value.str ⟨#[z.cps.toList.getD k 0]⟩ t) ?q1 ?q2 ?q3 ?q4 ?q5 ?q6 ?q7 ?_ ?q9
    case q1 => rfl
    case q2 => decide
    case q3 => rfl
    case q4 => decide
    case q5 => rfl
    case q6 => exact fun _ _ _ _ _ g _ => g
    case q7 => rintro _ _ _ _ ⟨t, rfl⟩ b hb; cases hb
    case q9 => intro _; rfl
    repeat boot_fact
    rename Fr _ _ _ _ => F8
    rename News _ _ _ _ => N8
    refine' range_it (n := z.length) (hh _) ?u1 ?u2 rfl (by omega) ?_
    case u1 => exact F8
    case u2 => exact N8
    intro I2 St2 h9 tk9 F9 N9 S9
    refine ⟨_, _, F9, N9, S9.newL, ⟨⟨I2, [I2], _, St2, rfl, S9.walks, S9.low, by rw [sizeLine_eq]; omega, S9.st, ?_, ?_⟩⟩, ?_⟩
    · intro k v s₄ m₄ hk1 hv hn hm hk
      obtain ⟨tv2, rfl⟩ := hv
      obtain ⟨all2, F10, N10, hk02, hall2⟩ := comp_frame (cells := [(h41.objs.size + 2, oK), (s₁.heap.objs.size + 1, o3')]) F9 N9 S9.base (fun q hq => S9.apart q (by simp only [List.mem_cons, List.not_mem_nil, or_false] at hq ⊢; rcases hq with hq | hq <;> simp [hq])) (fun q hq => by simp only [List.mem_cons, List.not_mem_nil, or_false] at hq ⊢; rcases hq with hq | hq <;> simp [hq]) hn hk
      dsimp only [List.cons_append, List.nil_append] at N10 hall2
      try clear F9
      try clear N9
      try clear F8
      try clear N8
      try clear F7
      try clear N7
      try clear F5
      try clear N6
      refine tests_one ?_
      repeat boot_fact
      refine pow_two (by omega) ?_
      repeat boot_fact
      refine fdiv_two (by omega) ?_
      repeat boot_fact
      exact ⟨bit_of i k, _, _, rfl, fun b o _ e => e, hn⟩
    · intro k v s₄ m₄ hk1 hv hpk hn hm hk
      obtain ⟨tv2, rfl⟩ := hv
      obtain ⟨all2, F10, N10, hk02, hall2⟩ := comp_frame (cells := [(s₁.heap.objs.size + 1, o3')]) F9 N9 S9.base (fun q hq => S9.apart q (by simp only [List.mem_cons, List.not_mem_nil, or_false] at hq ⊢; simp [hq])) (fun q hq => by simp only [List.mem_cons, List.not_mem_nil, or_false] at hq ⊢; simp [hq]) hn hk
      dsimp only [List.cons_append, List.nil_append] at N10 hall2
      try clear F9
      try clear N9
      try clear F8
      try clear N8
      try clear F7
      try clear N7
      try clear F5
      try clear N6
      repeat boot_fact
      refine' read_str (k := k) rfl hk1 (by omega) ?_ ?x1 ?x2
      case x1 => with_unfolding_all rfl
      case x2 => intro _; with_unfolding_all rfl
      exact ⟨⟨_, congrArg (fun c => Value.str ⟨#[c]⟩ _) (getD_codes z k)⟩, ⟨_, _, rfl, fun b o _ e => e, hn⟩, fun b hb => by cases hb⟩
    · intro h11 tk11 ys2 k11 F11 N11 hap2 hP2
      have hs2 := strs_paired hP2
      rw [picks_ones] at hs2
      have hpl := picks_len z.cps.toList i
      rw [codes_len] at hpl
      repeat boot_fact
      refine join_listW (N11.isList (.head _)) hs2 (by decide) ?_ ?_
      · rw [List.map_map]
        have : ((picks z.cps.toList i).map (PySem.Str.length ∘ fun c => (⟨#[c]⟩ : Str))) = (picks z.cps.toList i).map fun _ => 1 := List.map_congr_left fun _ _ => rfl
        rw [this, sum_ones, List.length_map]
        omega
      intro t12 k12
      rw [join_ones]
      repeat boot_fact
      exact ⟨⟨t12, rfl⟩, ⟨_, _, rfl, keptOf F11 N11 hk0 fun b o x y z => .tail _ (.tail _ (hall b o x y z)), F11.ns⟩⟩
  · intro h42 tk42 ys k42 F42 N42 hP
    have hys := strs_paired hP
    have hysz : ys.size = 2 ^ z.length := by
      have h := hys.len_eq
      simpa using h
    replace F42 : Fr (minus s₁.heap) s₁.heap.objs.size h42 _ := F42
    replace N42 : News (minus s₁.heap) s₁.heap.objs.size h42 [(h41.objs.size, listOf ys k42), (W, listOf #[.str X t31, .str Y t33, .str z tz] 0), (ms, instObj 225 dx), (dx, dictOf es n), (s₁.heap.objs.size + 1 + 1 + 1, o1'), (s₁.heap.objs.size + 1 + 1, o2'), (s₁.heap.objs.size + 1, o3'), (205, tabO ps37)] := N42
    try clear F40
    try clear N40
    try clear F41
    try clear N41
    try clear S41
    try clear hP
    repeat boot_fact
    refine' listcomp (h₀ := minus s₁.heap) (L := s₁.heap.objs.size) ys.size (fun j => withins X.cps.toList (picks z.cps.toList j) && withins Y.cps.toList (picks z.cps.toList j)) (fun _ j q _ => ∃ t, q = Value.int ((picks z.cps.toList j).length : Int) t) ?y1 ?y2 ?y3 ?y4 ?y5 ?y6 ?y7 ?_ ?y9
    case y1 => rfl
    case y2 => decide
    case y3 => rfl
    case y4 => decide
    case y5 => rfl
    case y6 => exact fun _ _ _ _ _ g _ => g
    case y7 => rintro _ _ _ _ ⟨t, rfl⟩ b hb; cases hb
    case y9 => intro _; rfl
    repeat boot_fact
    refine' list_src (hh _) ?y10 ?y11 ?y12 ?_
    case y10 => exact F42
    case y11 => exact N42
    case y12 => exact .head _
    intro I3 St3 h43 F43 N43 S43 hSt43 haI43
    have hitem : ∀ (j : Nat) (v : Value), ys[j]? = some v → ∃ t, v = Value.str (Mine.S (picks z.cps.toList j)) t ∧ (picks z.cps.toList j).length ≤ 2 := by
      intro j v hv
      obtain ⟨q, t, rfl, hq⟩ := hys.item j v (by rw [Array.getElem?_toList]; exact hv)
      have hj : j < 2 ^ z.length := by
        cases e : decide (j < 2 ^ z.length) with
        | true => exact of_decide_eq_true e
        | false => rw [List.getElem?_eq_none (by have := of_decide_eq_false e; simp; omega)] at hq; cases hq
      rw [List.getElem?_map, List.getElem?_range hj] at hq
      have := picks_len z.cps.toList j
      rw [codes_len] at this
      exact ⟨t, by rw [← Option.some.inj hq], by omega⟩
    refine ⟨_, _, F43, N43, S43.newL, ⟨⟨I3, [I3, h41.objs.size], _, St3, rfl, S43.walks, S43.low, by rw [sizeLine_eq]; omega, S43.st, ?_, ?_⟩⟩, ?_⟩
    · intro j v s₅ m₅ hj hv hn hm hk
      obtain ⟨tp, rfl, hp2⟩ := hitem j v hv
      obtain ⟨all, F50, N50, hk0, hall⟩ := comp_frame (cells := [(W, listOf #[.str X t31, .str Y t33, .str z tz] 0), (s₁.heap.objs.size + 1 + 1, o2')]) F43 N43 S43.base (fun q hq => S43.apart q (by simp only [List.mem_cons, List.not_mem_nil, or_false] at hq ⊢; rcases hq with hq | hq <;> simp [hq])) (fun q hq => by simp only [List.mem_cons, List.not_mem_nil, or_false] at hq ⊢; rcases hq with hq | hq <;> simp [hq]) hn hk
      dsimp only [List.cons_append, List.nil_append] at N50 hall
      try clear F43
      try clear N43
      try clear F42
      try clear N42
      refine tests_one ?_
      repeat boot_fact
      refine' read_ref (k := 0) N50 (by first | exact .head _ | exact .tail _ (.head _) | exact .tail _ (.tail _ (.head _)) | exact .tail _ (.tail _ (.tail _ (.head _))) | exact .tail _ (.tail _ (.tail _ (.tail _ (.head _)))) | exact .tail _ (.tail _ (.tail _ (.tail _ (.tail _ (.head _))))) | exact .tail _ (.tail _ (.tail _ (.tail _ (.tail _ (.tail _ (.head _)))))) | exact .tail _ (.tail _ (.tail _ (.tail _ (.tail _ (.tail _ (.tail _ (.head _))))))) | exact .tail _ (.tail _ (.tail _ (.tail _ (.tail _ (.tail _ (.tail _ (.tail _ (.head _)))))))) | exact .tail _ (.tail _ (.tail _ (.tail _ (.tail _ (.tail _ (.tail _ (.tail _ (.tail _ (.head _)))))))))) rfl (by omega) rfl ?_ ?rr01 ?rr02
      case rr01 => with_unfolding_all rfl
      case rr02 => intro _; with_unfolding_all rfl
      repeat boot_fact
      refine' Gives.use ?z1 ?z2 ?z3 ?_
      case z2 => exact F50
      case z3 => exact N50
      case z1 => exact within_pure (Om.keeps hk0) ((CC _).le (by omega)) (by rw [S_len]; omega)
      rintro v h51 tk51 rfl F51 N51
      rw [within_S]
      repeat boot_fact
      refine PyProof.Rows.split_bool (fun ca => ?_) (fun ca => ?_)
      · repeat boot_fact
        refine' read_ref (k := 1) N51 (by first | exact .head _ | exact .tail _ (.head _) | exact .tail _ (.tail _ (.head _)) | exact .tail _ (.tail _ (.tail _ (.head _))) | exact .tail _ (.tail _ (.tail _ (.tail _ (.head _)))) | exact .tail _ (.tail _ (.tail _ (.tail _ (.tail _ (.head _))))) | exact .tail _ (.tail _ (.tail _ (.tail _ (.tail _ (.tail _ (.head _)))))) | exact .tail _ (.tail _ (.tail _ (.tail _ (.tail _ (.tail _ (.tail _ (.head _))))))) | exact .tail _ (.tail _ (.tail _ (.tail _ (.tail _ (.tail _ (.tail _ (.tail _ (.head _)))))))) | exact .tail _ (.tail _ (.tail _ (.tail _ (.tail _ (.tail _ (.tail _ (.tail _ (.tail _ (.head _)))))))))) rfl (by omega) rfl ?_ ?rr11 ?rr12
        case rr11 => with_unfolding_all rfl
        case rr12 => intro _; with_unfolding_all rfl
        repeat boot_fact
        refine' Gives.use ?z4 ?z5 ?z6 ?_
        case z5 => exact F51
        case z6 => exact N51
        case z4 => exact within_pure (Om.keeps F51.keep) ((CC _).le (by omega)) (by rw [S_len]; omega)
        rintro v h52 tk52 rfl F52 N52
        rw [within_S]
        repeat boot_fact
        refine PyProof.Rows.split_bool (fun cb => ?_) (fun cb => ?_)
        · repeat boot_fact
          exact ⟨by rw [ca, cb]; rfl, _, _, rfl, keptOf F52 N52 hk0 hall, F52.ns⟩
        · repeat boot_fact
          exact ⟨by rw [ca, cb]; rfl, _, _, rfl, keptOf F52 N52 hk0 hall, F52.ns⟩
      · repeat boot_fact
        exact ⟨by rw [ca]; rfl, _, _, rfl, keptOf F51 N51 hk0 hall, F51.ns⟩
    · intro j v s₅ m₅ hj hv _ hn hm hk
      obtain ⟨tp, rfl, hp2⟩ := hitem j v hv
      obtain ⟨all, F50, N50, hk0, hall⟩ := comp_frame (cells := []) F43 N43 S43.base (fun q hq => nomatch hq) (fun q hq => nomatch hq) hn hk
      try clear F43
      try clear N43
      try clear F42
      try clear N42
      have hSl : (Mine.S (picks z.cps.toList j)).length = (picks z.cps.toList j).length := S_len _
      repeat boot_fact
      exact ⟨⟨_, congrArg (fun q : Nat => Value.int (q : Int) _) hSl⟩, ⟨_, _, rfl, fun b o _ e => e, hn⟩, fun b hb => by cases hb⟩
    · intro h53 tk53 ys3 k53 F53 N53 hap3 hP3
      have hys3 := ints_paired hP3
      try clear F43
      try clear N43
      try clear F42
      try clear N42
      repeat boot_fact
      refine' max_list_N (hh _) ?m1 ?m2 ?m3 hys3 ?m4 ?_
      case m1 => exact F53
      case m2 => exact N53
      case m3 => exact N53.isList (.head _)
      case m4 => exact due_pos hz2 hysz
      intro h54 M tM tk54 F54 N54 hM1 hM2
      obtain rfl := due_is hz2 hysz hM1 hM2
      try clear F53
      try clear N53
      repeat boot_fact
      rename Fr _ _ _ _ => F55
      rename News _ _ _ _ => N55
      replace N55 : News (minus s₁.heap) s₁.heap.objs.size _ [(W, listOf #[.str X t31, .str Y t33, .str z tz] 0), (ms, instObj 225 dx), (dx, dictOf es n), (s₁.heap.objs.size + 1 + 1 + 1, o1'), (s₁.heap.objs.size + 1 + 1, o2'), (s₁.heap.objs.size + 1, o3'), (205, tabO ps37)] := fun q hq => N55 q (.tail _ (.tail _ hq))
      obtain ⟨m55, F55, hpl5, hdue⟩ : ∃ m : Str → Option Value, Fr (minus s₁.heap) s₁.heap.objs.size _ m ∧ m "plain" = some (.ref ms) ∧ m "due" = some (.int ((told3 X Y z).length : Int) tM) := ⟨_, F55, hpl, rfl⟩
      have htl3 := told3_len X Y z
      obtain ⟨hw1, hw2, hw3⟩ := told3_within X Y z
      refine BoolOp_and ?_
      repeat boot_fact
      first | ((with_reducible show wpAny _ _ (eval (Expr.Name _ _) _) _ _ _); refine nmE_C (c := s₁.heap.objs.size + 1 + 1 + 1) (o := o1') (by with_unfolding_all rfl) (by with_unfolding_all rfl) (by with_unfolding_all rfl) (by decide) N55 (by first | exact .head _ | exact .tail _ (.head _) | exact .tail _ (.tail _ (.head _)) | exact .tail _ (.tail _ (.tail _ (.head _))) | exact .tail _ (.tail _ (.tail _ (.tail _ (.head _)))) | exact .tail _ (.tail _ (.tail _ (.tail _ (.tail _ (.head _))))) | exact .tail _ (.tail _ (.tail _ (.tail _ (.tail _ (.tail _ (.head _)))))) | exact .tail _ (.tail _ (.tail _ (.tail _ (.tail _ (.tail _ (.tail _ (.head _))))))) | exact .tail _ (.tail _ (.tail _ (.tail _ (.tail _ (.tail _ (.tail _ (.tail _ (.head _)))))))) | exact .tail _ (.tail _ (.tail _ (.tail _ (.tail _ (.tail _ (.tail _ (.tail _ (.tail _ (.head _))))))))) | exact .tail _ (.tail _ (.tail _ (.tail _ (.tail _ (.tail _ (.tail _ (.tail _ (.tail _ (.tail _ (.head _)))))))))) | exact .tail _ (.tail _ (.tail _ (.tail _ (.tail _ (.tail _ (.tail _ (.tail _ (.tail _ (.tail _ (.tail _ (.head _))))))))))) | exact .tail _ (.tail _ (.tail _ (.tail _ (.tail _ (.tail _ (.tail _ (.tail _ (.tail _ (.tail _ (.tail _ (.tail _ (.head _))))))))))))) hc1' ?_) | skip
      repeat boot_fact
      refine if_is_T (by simp) ?_
      refine BoolOp_and ?_
      repeat boot_fact
      refine' listcomp (h₀ := minus s₁.heap) (L := s₁.heap.objs.size) 3 (fun _ => true) (fun _ _ q _ => q = Value.bool true) ?aa1 ?aa2 ?aa3 ?aa4 ?aa5 ?aa6 ?aa7 ?_ ?aa9
      case aa1 => rfl
      case aa2 => decide
      case aa3 => rfl
      case aa4 => decide
      case aa5 => rfl
      case aa6 => exact fun _ _ _ _ _ g _ => g
      case aa7 => rintro _ _ _ _ rfl b hb; cases hb
      case aa9 => intro _; rfl
      repeat boot_fact
      first | ((with_reducible show wpAny _ _ (eval (Expr.Name _ _) _) _ _ _); refine nmE_C (c := s₁.heap.objs.size + 1 + 1) (o := o2') (by with_unfolding_all rfl) (by with_unfolding_all rfl) (by with_unfolding_all rfl) (by decide) N55 (by first | exact .head _ | exact .tail _ (.head _) | exact .tail _ (.tail _ (.head _)) | exact .tail _ (.tail _ (.tail _ (.head _))) | exact .tail _ (.tail _ (.tail _ (.tail _ (.head _)))) | exact .tail _ (.tail _ (.tail _ (.tail _ (.tail _ (.head _))))) | exact .tail _ (.tail _ (.tail _ (.tail _ (.tail _ (.tail _ (.head _)))))) | exact .tail _ (.tail _ (.tail _ (.tail _ (.tail _ (.tail _ (.tail _ (.head _))))))) | exact .tail _ (.tail _ (.tail _ (.tail _ (.tail _ (.tail _ (.tail _ (.tail _ (.head _)))))))) | exact .tail _ (.tail _ (.tail _ (.tail _ (.tail _ (.tail _ (.tail _ (.tail _ (.tail _ (.head _))))))))) | exact .tail _ (.tail _ (.tail _ (.tail _ (.tail _ (.tail _ (.tail _ (.tail _ (.tail _ (.tail _ (.head _)))))))))) | exact .tail _ (.tail _ (.tail _ (.tail _ (.tail _ (.tail _ (.tail _ (.tail _ (.tail _ (.tail _ (.tail _ (.head _))))))))))) | exact .tail _ (.tail _ (.tail _ (.tail _ (.tail _ (.tail _ (.tail _ (.tail _ (.tail _ (.tail _ (.tail _ (.tail _ (.head _))))))))))))) hc2' ?_) | skip
      refine' list_src (hh _) ?ab1 ?ab2 ?ab3 ?_
      case ab1 => exact F55
      case ab2 => exact N55
      case ab3 => exact .head _
      intro I4 St4 h56 F56 N56 S56 hSt56 haI56
      refine ⟨_, _, F56, N56, S56.newL, ⟨⟨I4, [I4, W], _, St4, rfl, S56.walks, S56.low, by rw [sizeLine_eq]; decide, S56.st, ?_, ?_⟩⟩, ?_⟩
      · intro j v s₅ m₅ hj hv hn hm hk
        exact tests_none ⟨rfl, (Kept.rfl' _).toC hn⟩
      · intro j v s₅ m₅ hj hv _ hn hm hk
        obtain ⟨q, tq, rfl, hq⟩ : ∃ q tq, v = Value.str q tq ∧ within (told3 X Y z) q = true := by
          have : j = 0 ∨ j = 1 ∨ j = 2 := by omega
          rcases this with rfl | rfl | rfl
          · exact ⟨X, t31, (Option.some.inj hv).symm, hw1⟩
          · exact ⟨Y, t33, (Option.some.inj hv).symm, hw2⟩
          · exact ⟨z, tz, (Option.some.inj hv).symm, hw3⟩
        obtain ⟨all, F57, N57, hk0, hall⟩ := comp_frame (cells := [(s₁.heap.objs.size + 1 + 1 + 1, o1')]) F56 N56 S56.base (fun q hq => S56.apart q (by rw [List.mem_singleton.mp hq]; exact (by first | exact .head _ | exact .tail _ (.head _) | exact .tail _ (.tail _ (.head _)) | exact .tail _ (.tail _ (.tail _ (.head _))) | exact .tail _ (.tail _ (.tail _ (.tail _ (.head _)))) | exact .tail _ (.tail _ (.tail _ (.tail _ (.tail _ (.head _))))) | exact .tail _ (.tail _ (.tail _ (.tail _ (.tail _ (.tail _ (.head _)))))) | exact .tail _ (.tail _ (.tail _ (.tail _ (.tail _ (.tail _ (.tail _ (.head _))))))) | exact .tail _ (.tail _ (.tail _ (.tail _ (.tail _ (.tail _ (.tail _ (.tail _ (.head _)))))))) | exact .tail _ (.tail _ (.tail _ (.tail _ (.tail _ (.tail _ (.tail _ (.tail _ (.tail _ (.head _))))))))) | exact .tail _ (.tail _ (.tail _ (.tail _ (.tail _ (.tail _ (.tail _ (.tail _ (.tail _ (.tail _ (.head _)))))))))) | exact .tail _ (.tail _ (.tail _ (.tail _ (.tail _ (.tail _ (.tail _ (.tail _ (.tail _ (.tail _ (.tail _ (.head _))))))))))) | exact .tail _ (.tail _ (.tail _ (.tail _ (.tail _ (.tail _ (.tail _ (.tail _ (.tail _ (.tail _ (.tail _ (.tail _ (.head _))))))))))))))) (fun q hq => by rw [List.mem_singleton.mp hq]; exact (by first | exact .head _ | exact .tail _ (.head _) | exact .tail _ (.tail _ (.head _)) | exact .tail _ (.tail _ (.tail _ (.head _))) | exact .tail _ (.tail _ (.tail _ (.tail _ (.head _)))) | exact .tail _ (.tail _ (.tail _ (.tail _ (.tail _ (.head _))))) | exact .tail _ (.tail _ (.tail _ (.tail _ (.tail _ (.tail _ (.head _)))))) | exact .tail _ (.tail _ (.tail _ (.tail _ (.tail _ (.tail _ (.tail _ (.head _))))))) | exact .tail _ (.tail _ (.tail _ (.tail _ (.tail _ (.tail _ (.tail _ (.tail _ (.head _)))))))) | exact .tail _ (.tail _ (.tail _ (.tail _ (.tail _ (.tail _ (.tail _ (.tail _ (.tail _ (.head _))))))))) | exact .tail _ (.tail _ (.tail _ (.tail _ (.tail _ (.tail _ (.tail _ (.tail _ (.tail _ (.tail _ (.head _)))))))))) | exact .tail _ (.tail _ (.tail _ (.tail _ (.tail _ (.tail _ (.tail _ (.tail _ (.tail _ (.tail _ (.tail _ (.head _))))))))))) | exact .tail _ (.tail _ (.tail _ (.tail _ (.tail _ (.tail _ (.tail _ (.tail _ (.tail _ (.tail _ (.tail _ (.tail _ (.head _)))))))))))))) hn hk
        dsimp only [List.cons_append, List.nil_append] at N57 hall
        try clear F56
        try clear N56
        try clear F55
        try clear N55
        repeat boot_fact
        refine' Gives.use ?ac1 ?ac2 ?ac3 ?_
        case ac2 => exact F57
        case ac3 => exact N57
        case ac1 => exact within_pure (Om.keeps hk0) ((CC _).le (by omega)) (by omega)
        rintro v h58 tk58 rfl F58 N58
        exact ⟨by rw [hq], ⟨_, _, rfl, keptOf F58 N58 hk0 hall, F58.ns⟩, fun b hb => by cases hb⟩
      · intro h59 tk59 ys4 k59 F59 N59 hap4 hP4
        obtain rfl : ys4 = #[.bool true, .bool true, .bool true] := by
          obtain ⟨l⟩ := ys4
          replace hP4 : Paired (fun _ q => q = Value.bool true) [0, 1, 2] l := hP4
          cases hP4 with
          | cons h1 r => cases r with
            | cons h2 r => cases r with
              | cons h3 r => cases r; subst h1 h2 h3; rfl
        try clear F56
        try clear N56
        try clear F55
        try clear N55
        repeat boot_fact
        rename Fr _ _ _ _ => F60
        rename News _ _ _ _ => N60
        refine eq_trues N60 (.tail _ (.head _)) (.head _) (Nat.lt_of_le_of_lt (Nat.le_add_right _ _) (CC _).hu) ?_
        have N61 : News (minus s₁.heap) s₁.heap.objs.size _ [(W, listOf #[.str X t31, .str Y t33, .str z tz] 0), (ms, instObj 225 dx), (dx, dictOf es n), (s₁.heap.objs.size + 1 + 1 + 1, o1'), (s₁.heap.objs.size + 1 + 1, o2'), (s₁.heap.objs.size + 1, o3'), (205, tabO ps37)] := fun q hq => N60 q (.tail _ (.tail _ hq))
        clear N60
        try clear F59
        try clear N59
        repeat boot_fact
        rename Fr _ _ _ _ => F61
        have S61 := selfNews S10 N61 (.tail _ (.head _)) (.tail _ (.tail _ (.head _)))
        obtain ⟨dI61, I61⟩ := S61.inst
        refine method_inst F61 Om.k I61 (by k_is) (by k_is) (by k_is) (S61.no "similarity" (by simp [clsNames])) ?_
        repeat boot_fact
        first | ((with_reducible show wpAny _ _ (eval (Expr.Name _ _) _) _ _ _); refine nmE_C (c := s₁.heap.objs.size + 1 + 1) (o := o2') (by with_unfolding_all rfl) (by with_unfolding_all rfl) (by with_unfolding_all rfl) (by decide) N61 (by first | exact .head _ | exact .tail _ (.head _) | exact .tail _ (.tail _ (.head _)) | exact .tail _ (.tail _ (.tail _ (.head _))) | exact .tail _ (.tail _ (.tail _ (.tail _ (.head _)))) | exact .tail _ (.tail _ (.tail _ (.tail _ (.tail _ (.head _))))) | exact .tail _ (.tail _ (.tail _ (.tail _ (.tail _ (.tail _ (.head _)))))) | exact .tail _ (.tail _ (.tail _ (.tail _ (.tail _ (.tail _ (.tail _ (.head _))))))) | exact .tail _ (.tail _ (.tail _ (.tail _ (.tail _ (.tail _ (.tail _ (.tail _ (.head _)))))))) | exact .tail _ (.tail _ (.tail _ (.tail _ (.tail _ (.tail _ (.tail _ (.tail _ (.tail _ (.head _))))))))) | exact .tail _ (.tail _ (.tail _ (.tail _ (.tail _ (.tail _ (.tail _ (.tail _ (.tail _ (.tail _ (.head _)))))))))) | exact .tail _ (.tail _ (.tail _ (.tail _ (.tail _ (.tail _ (.tail _ (.tail _ (.tail _ (.tail _ (.tail _ (.head _))))))))))) | exact .tail _ (.tail _ (.tail _ (.tail _ (.tail _ (.tail _ (.tail _ (.tail _ (.tail _ (.tail _ (.tail _ (.tail _ (.head _))))))))))))) hc2' ?_) | skip
        repeat boot_fact
        refine' read_ref (k := 0) N61 (by first | exact .head _ | exact .tail _ (.head _) | exact .tail _ (.tail _ (.head _)) | exact .tail _ (.tail _ (.tail _ (.head _))) | exact .tail _ (.tail _ (.tail _ (.tail _ (.head _)))) | exact .tail _ (.tail _ (.tail _ (.tail _ (.tail _ (.head _))))) | exact .tail _ (.tail _ (.tail _ (.tail _ (.tail _ (.tail _ (.head _)))))) | exact .tail _ (.tail _ (.tail _ (.tail _ (.tail _ (.tail _ (.tail _ (.head _))))))) | exact .tail _ (.tail _ (.tail _ (.tail _ (.tail _ (.tail _ (.tail _ (.tail _ (.head _)))))))) | exact .tail _ (.tail _ (.tail _ (.tail _ (.tail _ (.tail _ (.tail _ (.tail _ (.tail _ (.head _))))))))) | exact .tail _ (.tail _ (.tail _ (.tail _ (.tail _ (.tail _ (.tail _ (.tail _ (.tail _ (.tail _ (.head _)))))))))) | exact .tail _ (.tail _ (.tail _ (.tail _ (.tail _ (.tail _ (.tail _ (.tail _ (.tail _ (.tail _ (.tail _ (.head _))))))))))) | exact .tail _ (.tail _ (.tail _ (.tail _ (.tail _ (.tail _ (.tail _ (.tail _ (.tail _ (.tail _ (.tail _ (.tail _ (.head _))))))))))))) rfl (by omega) rfl ?_ ?rs01 ?rs02
        case rs01 => with_unfolding_all rfl
        case rs02 => intro _; with_unfolding_all rfl
        repeat boot_fact
        first | ((with_reducible show wpAny _ _ (eval (Expr.Name _ _) _) _ _ _); refine nmE_C (c := s₁.heap.objs.size + 1 + 1) (o := o2') (by with_unfolding_all rfl) (by with_unfolding_all rfl) (by with_unfolding_all rfl) (by decide) N61 (by first | exact .head _ | exact .tail _ (.head _) | exact .tail _ (.tail _ (.head _)) | exact .tail _ (.tail _ (.tail _ (.head _))) | exact .tail _ (.tail _ (.tail _ (.tail _ (.head _)))) | exact .tail _ (.tail _ (.tail _ (.tail _ (.tail _ (.head _))))) | exact .tail _ (.tail _ (.tail _ (.tail _ (.tail _ (.tail _ (.head _)))))) | exact .tail _ (.tail _ (.tail _ (.tail _ (.tail _ (.tail _ (.tail _ (.head _))))))) | exact .tail _ (.tail _ (.tail _ (.tail _ (.tail _ (.tail _ (.tail _ (.tail _ (.head _)))))))) | exact .tail _ (.tail _ (.tail _ (.tail _ (.tail _ (.tail _ (.tail _ (.tail _ (.tail _ (.head _))))))))) | exact .tail _ (.tail _ (.tail _ (.tail _ (.tail _ (.tail _ (.tail _ (.tail _ (.tail _ (.tail _ (.head _)))))))))) | exact .tail _ (.tail _ (.tail _ (.tail _ (.tail _ (.tail _ (.tail _ (.tail _ (.tail _ (.tail _ (.tail _ (.head _))))))))))) | exact .tail _ (.tail _ (.tail _ (.tail _ (.tail _ (.tail _ (.tail _ (.tail _ (.tail _ (.tail _ (.tail _ (.tail _ (.head _))))))))))))) hc2' ?_) | skip
        repeat boot_fact
        refine' read_ref (k := 1) N61 (by first | exact .head _ | exact .tail _ (.head _) | exact .tail _ (.tail _ (.head _)) | exact .tail _ (.tail _ (.tail _ (.head _))) | exact .tail _ (.tail _ (.tail _ (.tail _ (.head _)))) | exact .tail _ (.tail _ (.tail _ (.tail _ (.tail _ (.head _))))) | exact .tail _ (.tail _ (.tail _ (.tail _ (.tail _ (.tail _ (.head _)))))) | exact .tail _ (.tail _ (.tail _ (.tail _ (.tail _ (.tail _ (.tail _ (.head _))))))) | exact .tail _ (.tail _ (.tail _ (.tail _ (.tail _ (.tail _ (.tail _ (.tail _ (.head _)))))))) | exact .tail _ (.tail _ (.tail _ (.tail _ (.tail _ (.tail _ (.tail _ (.tail _ (.tail _ (.head _))))))))) | exact .tail _ (.tail _ (.tail _ (.tail _ (.tail _ (.tail _ (.tail _ (.tail _ (.tail _ (.tail _ (.head _)))))))))) | exact .tail _ (.tail _ (.tail _ (.tail _ (.tail _ (.tail _ (.tail _ (.tail _ (.tail _ (.tail _ (.tail _ (.head _))))))))))) | exact .tail _ (.tail _ (.tail _ (.tail _ (.tail _ (.tail _ (.tail _ (.tail _ (.tail _ (.tail _ (.tail _ (.tail _ (.head _))))))))))))) rfl (by omega) rfl ?_ ?rs11 ?rs12
        case rs11 => with_unfolding_all rfl
        case rs12 => intro _; with_unfolding_all rfl
        repeat boot_fact
        first | ((with_reducible show wpAny _ _ (eval (Expr.Name _ _) _) _ _ _); refine nmE_C (c := s₁.heap.objs.size + 1 + 1) (o := o2') (by with_unfolding_all rfl) (by with_unfolding_all rfl) (by with_unfolding_all rfl) (by decide) N61 (by first | exact .head _ | exact .tail _ (.head _) | exact .tail _ (.tail _ (.head _)) | exact .tail _ (.tail _ (.tail _ (.head _))) | exact .tail _ (.tail _ (.tail _ (.tail _ (.head _)))) | exact .tail _ (.tail _ (.tail _ (.tail _ (.tail _ (.head _))))) | exact .tail _ (.tail _ (.tail _ (.tail _ (.tail _ (.tail _ (.head _)))))) | exact .tail _ (.tail _ (.tail _ (.tail _ (.tail _ (.tail _ (.tail _ (.head _))))))) | exact .tail _ (.tail _ (.tail _ (.tail _ (.tail _ (.tail _ (.tail _ (.tail _ (.head _)))))))) | exact .tail _ (.tail _ (.tail _ (.tail _ (.tail _ (.tail _ (.tail _ (.tail _ (.tail _ (.head _))))))))) | exact .tail _ (.tail _ (.tail _ (.tail _ (.tail _ (.tail _ (.tail _ (.tail _ (.tail _ (.tail _ (.head _)))))))))) | exact .tail _ (.tail _ (.tail _ (.tail _ (.tail _ (.tail _ (.tail _ (.tail _ (.tail _ (.tail _ (.tail _ (.head _))))))))))) | exact .tail _ (.tail _ (.tail _ (.tail _ (.tail _ (.tail _ (.tail _ (.tail _ (.tail _ (.tail _ (.tail _ (.tail _ (.head _))))))))))))) hc2' ?_) | skip
        repeat boot_fact
        refine' read_ref (k := 2) N61 (by first | exact .head _ | exact .tail _ (.head _) | exact .tail _ (.tail _ (.head _)) | exact .tail _ (.tail _ (.tail _ (.head _))) | exact .tail _ (.tail _ (.tail _ (.tail _ (.head _)))) | exact .tail _ (.tail _ (.tail _ (.tail _ (.tail _ (.head _))))) | exact .tail _ (.tail _ (.tail _ (.tail _ (.tail _ (.tail _ (.head _)))))) | exact .tail _ (.tail _ (.tail _ (.tail _ (.tail _ (.tail _ (.tail _ (.head _))))))) | exact .tail _ (.tail _ (.tail _ (.tail _ (.tail _ (.tail _ (.tail _ (.tail _ (.head _)))))))) | exact .tail _ (.tail _ (.tail _ (.tail _ (.tail _ (.tail _ (.tail _ (.tail _ (.tail _ (.head _))))))))) | exact .tail _ (.tail _ (.tail _ (.tail _ (.tail _ (.tail _ (.tail _ (.tail _ (.tail _ (.tail _ (.head _)))))))))) | exact .tail _ (.tail _ (.tail _ (.tail _ (.tail _ (.tail _ (.tail _ (.tail _ (.tail _ (.tail _ (.tail _ (.head _))))))))))) | exact .tail _ (.tail _ (.tail _ (.tail _ (.tail _ (.tail _ (.tail _ (.tail _ (.tail _ (.tail _ (.tail _ (.tail _ (.head _))))))))))))) rfl (by omega) rfl ?_ ?rs21 ?rs22
        case rs21 => with_unfolding_all rfl
        case rs22 => intro _; with_unfolding_all rfl
        repeat boot_fact
        have O61 : OkT w _ := OTm.keeps F61.keep
        refine' GivesT.use (news := [(W, listOf #[.str X t31, .str Y t33, .str z tz] 0), (ms, instObj 225 dx), (dx, dictOf es n), (s₁.heap.objs.size + 1 + 1 + 1, o1'), (s₁.heap.objs.size + 1 + 1, o2'), (s₁.heap.objs.size + 1, o3')]) ?k11 ?k12 ?k13 tr37 G37 ?k14 ?_
        case k12 => exact F61
        case k13 => exact N61
        case k14 =>
          intro p hp
          rcases List.mem_cons.mp hp with rfl | hp
          · exact ne205 N61 (by first | exact .head _ | exact .tail _ (.head _) | exact .tail _ (.tail _ (.head _)) | exact .tail _ (.tail _ (.tail _ (.head _))) | exact .tail _ (.tail _ (.tail _ (.tail _ (.head _)))) | exact .tail _ (.tail _ (.tail _ (.tail _ (.tail _ (.head _))))) | exact .tail _ (.tail _ (.tail _ (.tail _ (.tail _ (.tail _ (.head _)))))) | exact .tail _ (.tail _ (.tail _ (.tail _ (.tail _ (.tail _ (.tail _ (.head _))))))) | exact .tail _ (.tail _ (.tail _ (.tail _ (.tail _ (.tail _ (.tail _ (.tail _ (.head _)))))))) | exact .tail _ (.tail _ (.tail _ (.tail _ (.tail _ (.tail _ (.tail _ (.tail _ (.tail _ (.head _))))))))) | exact .tail _ (.tail _ (.tail _ (.tail _ (.tail _ (.tail _ (.tail _ (.tail _ (.tail _ (.tail _ (.head _)))))))))) | exact .tail _ (.tail _ (.tail _ (.tail _ (.tail _ (.tail _ (.tail _ (.tail _ (.tail _ (.tail _ (.tail _ (.head _))))))))))) | exact .tail _ (.tail _ (.tail _ (.tail _ (.tail _ (.tail _ (.tail _ (.tail _ (.tail _ (.tail _ (.tail _ (.tail _ (.head _))))))))))))) (.head _) (by simp)
          · rcases List.mem_cons.mp hp with rfl | hp
            · exact ne205 N61 (by first | exact .head _ | exact .tail _ (.head _) | exact .tail _ (.tail _ (.head _)) | exact .tail _ (.tail _ (.tail _ (.head _))) | exact .tail _ (.tail _ (.tail _ (.tail _ (.head _)))) | exact .tail _ (.tail _ (.tail _ (.tail _ (.tail _ (.head _))))) | exact .tail _ (.tail _ (.tail _ (.tail _ (.tail _ (.tail _ (.head _)))))) | exact .tail _ (.tail _ (.tail _ (.tail _ (.tail _ (.tail _ (.tail _ (.head _))))))) | exact .tail _ (.tail _ (.tail _ (.tail _ (.tail _ (.tail _ (.tail _ (.tail _ (.head _)))))))) | exact .tail _ (.tail _ (.tail _ (.tail _ (.tail _ (.tail _ (.tail _ (.tail _ (.tail _ (.head _))))))))) | exact .tail _ (.tail _ (.tail _ (.tail _ (.tail _ (.tail _ (.tail _ (.tail _ (.tail _ (.tail _ (.head _)))))))))) | exact .tail _ (.tail _ (.tail _ (.tail _ (.tail _ (.tail _ (.tail _ (.tail _ (.tail _ (.tail _ (.tail _ (.head _))))))))))) | exact .tail _ (.tail _ (.tail _ (.tail _ (.tail _ (.tail _ (.tail _ (.tail _ (.tail _ (.tail _ (.tail _ (.tail _ (.head _))))))))))))) (.tail _ (.head _)) (by simp)
            · rcases List.mem_cons.mp hp with rfl | hp
              · exact ne205 N61 (by first | exact .head _ | exact .tail _ (.head _) | exact .tail _ (.tail _ (.head _)) | exact .tail _ (.tail _ (.tail _ (.head _))) | exact .tail _ (.tail _ (.tail _ (.tail _ (.head _)))) | exact .tail _ (.tail _ (.tail _ (.tail _ (.tail _ (.head _))))) | exact .tail _ (.tail _ (.tail _ (.tail _ (.tail _ (.tail _ (.head _)))))) | exact .tail _ (.tail _ (.tail _ (.tail _ (.tail _ (.tail _ (.tail _ (.head _))))))) | exact .tail _ (.tail _ (.tail _ (.tail _ (.tail _ (.tail _ (.tail _ (.tail _ (.head _)))))))) | exact .tail _ (.tail _ (.tail _ (.tail _ (.tail _ (.tail _ (.tail _ (.tail _ (.tail _ (.head _))))))))) | exact .tail _ (.tail _ (.tail _ (.tail _ (.tail _ (.tail _ (.tail _ (.tail _ (.tail _ (.tail _ (.head _)))))))))) | exact .tail _ (.tail _ (.tail _ (.tail _ (.tail _ (.tail _ (.tail _ (.tail _ (.tail _ (.tail _ (.tail _ (.head _))))))))))) | exact .tail _ (.tail _ (.tail _ (.tail _ (.tail _ (.tail _ (.tail _ (.tail _ (.tail _ (.tail _ (.tail _ (.tail _ (.head _))))))))))))) (.tail _ (.tail _ (.head _))) (by simp)
              · rcases List.mem_cons.mp hp with rfl | hp
                · exact hT1.symm
                · rcases List.mem_cons.mp hp with rfl | hp
                  · exact hT2.symm
                  · rw [List.mem_singleton.mp hp]; exact hT3.symm
        case k11 => exact sim_three O61 ((CC _).le (by omega)) (by omega) ⟨ps37, (N61 (205, tabO ps37) (by first | exact .head _ | exact .tail _ (.head _) | exact .tail _ (.tail _ (.head _)) | exact .tail _ (.tail _ (.tail _ (.head _))) | exact .tail _ (.tail _ (.tail _ (.tail _ (.head _)))) | exact .tail _ (.tail _ (.tail _ (.tail _ (.tail _ (.head _))))) | exact .tail _ (.tail _ (.tail _ (.tail _ (.tail _ (.tail _ (.head _)))))) | exact .tail _ (.tail _ (.tail _ (.tail _ (.tail _ (.tail _ (.tail _ (.head _))))))) | exact .tail _ (.tail _ (.tail _ (.tail _ (.tail _ (.tail _ (.tail _ (.tail _ (.head _)))))))) | exact .tail _ (.tail _ (.tail _ (.tail _ (.tail _ (.tail _ (.tail _ (.tail _ (.tail _ (.head _))))))))) | exact .tail _ (.tail _ (.tail _ (.tail _ (.tail _ (.tail _ (.tail _ (.tail _ (.tail _ (.tail _ (.head _)))))))))) | exact .tail _ (.tail _ (.tail _ (.tail _ (.tail _ (.tail _ (.tail _ (.tail _ (.tail _ (.tail _ (.tail _ (.head _))))))))))) | exact .tail _ (.tail _ (.tail _ (.tail _ (.tail _ (.tail _ (.tail _ (.tail _ (.tail _ (.tail _ (.tail _ (.tail _ (.head _)))))))))))))).1, tr37⟩ G37 S61
        rintro vr s62 ps62 ⟨t62, rfl⟩ hm62 tr62 G62 os62 F62 N62
        dsimp only [List.cons_append, List.nil_append] at N62
        try clear F61
        try clear N61
        repeat boot_fact
        try dsimp only
        rw [show (((told3 X Y z).length : Int) == ((told3 X Y z).length : Int)) = true from by simp]
        exact ⟨.inl ⟨_, .bool true, [], rfl, fun _ => rfl, .bool true, post_true _, fun _ => ⟨.nil, fun _ h => nomatch h⟩⟩, oldK_of OT.ok h205 F62 (N62 (205, tabO ps62) (by first | exact .head _ | exact .tail _ (.head _) | exact .tail _ (.tail _ (.head _)) | exact .tail _ (.tail _ (.tail _ (.head _))) | exact .tail _ (.tail _ (.tail _ (.tail _ (.head _)))) | exact .tail _ (.tail _ (.tail _ (.tail _ (.tail _ (.head _))))) | exact .tail _ (.tail _ (.tail _ (.tail _ (.tail _ (.tail _ (.head _)))))) | exact .tail _ (.tail _ (.tail _ (.tail _ (.tail _ (.tail _ (.tail _ (.head _))))))) | exact .tail _ (.tail _ (.tail _ (.tail _ (.tail _ (.tail _ (.tail _ (.tail _ (.head _)))))))) | exact .tail _ (.tail _ (.tail _ (.tail _ (.tail _ (.tail _ (.tail _ (.tail _ (.tail _ (.head _))))))))) | exact .tail _ (.tail _ (.tail _ (.tail _ (.tail _ (.tail _ (.tail _ (.tail _ (.tail _ (.tail _ (.head _)))))))))) | exact .tail _ (.tail _ (.tail _ (.tail _ (.tail _ (.tail _ (.tail _ (.tail _ (.tail _ (.tail _ (.tail _ (.head _))))))))))) | exact .tail _ (.tail _ (.tail _ (.tail _ (.tail _ (.tail _ (.tail _ (.tail _ (.tail _ (.tail _ (.tail _ (.tail _ (.head _)))))))))))))).1, os62.trans os37, G62⟩
end

end
end Mine
theorem PySem.Challenge.cw_br0037_01_holds : PySem.Challenge.rw_br0037_01.Holds :=
  Mine.law01
