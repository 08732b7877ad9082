import PyProof.Rows.All
import Wide.All
import OpenK.AllK
import Wide.FinOn
import KE.KPar
import KE.KItem
import KE.KMethU
import KE.KStar
import KE.KCallOwn
import KE.KTurns
import KE.KUnpack
import Lean
import PySem.Challenge.RW_br0037_02
set_option Elab.async false
set_option maxRecDepth 100000
set_option maxHeartbeats 8000000
set_option linter.unusedVariables false
-- part Top02
namespace Mine
section
open PySem PySem.W PyProof.Rows
open_top hd for PySem.Challenge.rw_br0037_02
end
end Mine

-- part Base
namespace Mine
section
open PySem PySem.W PySem.Calls PyProof.Rows PySem.Spec
theorem bt_len : bootBuiltins "len" = some (.builtin "len") := boot_len
theorem bt_max : bootBuiltins "max" = some (.builtin "max") := PyProof.Rows.boot_max
theorem bt_min : bootBuiltins "min" = some (.builtin "min") := PyProof.Rows.boot_min
theorem bt_all : bootBuiltins "all" = some (.builtin "all") := PyProof.Rows.boot_all
theorem bt_isinstance : bootBuiltins "isinstance" = some (.builtin "isinstance") := PyProof.Rows.boot_isinstance
theorem bt_int : bootBuiltins "int" = some (.type "int") := PyProof.Rows.boot_int
theorem bt_range : bootBuiltins "range" = some (.type "range") := PyProof.Rows.boot_range
theorem bt_enumerate : bootBuiltins "enumerate" = some (.type "enumerate") := PyProof.Rows.boot_enumerate
theorem bt_list : bootBuiltins "list" = some (.type "list") := PyProof.Rows.boot_list
theorem bt_set : bootBuiltins "set" = some (.type "set") := PyProof.Rows.boot_set
theorem bt_map : bootBuiltins "map" = some (.type "map") := PyProof.Rows.boot_map
theorem bt_zip : bootBuiltins "zip" = some (.type "zip") := PyProof.Rows.boot_zip
theorem bt_str : bootBuiltins "str" = some (.type "str") := PyProof.Rows.boot_str
theorem bt_tuple : bootBuiltins "tuple" = some (.type "tuple") := PyProof.Rows.boot_tuple

theorem item_nat {x : Str} {k : Nat} (h : k < x.length) : Txt.item x (k : Int) = ⟨#[x.cps.getD k 0]⟩ := by
  have hl : x.length = x.cps.size := rfl
  have h1 : ¬ ((k : Int) < 0) := by omega
  have h2 : (0 ≤ (k : Int) && decide ((k : Int) < x.length)) = true := by simp; omega
  have h3 : seqIndex? (k : Int) x.length = some k := by
    unfold seqIndex?
    simp only [h1, if_false]
    rw [h2]
    simp
  unfold Txt.item Txt.charAt
  rw [h3]
  simp [Array.getD_eq_getD_getElem?]
theorem one_beq (a b : Nat) : ((⟨#[a]⟩ : Str) == ⟨#[b]⟩) = decide (a = b) := by
  by_cases h : a = b
  · subst h; simp
  · have : (⟨#[a]⟩ : Str) ≠ ⟨#[b]⟩ := by simpa using h
    rw [decide_eq_false h]
    exact beq_false_of_ne this

theorem if_T {P Q : Prop} (h : P) : if true = true then P else Q := by simpa using h
theorem if_F {P Q : Prop} (h : Q) : if false = true then P else Q := by simpa using h
structure Ok (w : World) (h : Heap) : Prop where
  k : (hd.heap_39 w.params).In h
  top : ∃ p loose mg mb, TopRead p loose mg mb h
theorem Ok.keeps {w : World} {h h' : Heap} (O : Ok w h) (hk : ∀ b o, h.get? b = some o → h'.get? b = some o) : Ok w h' := by
  obtain ⟨p, loose, mg, mb, T⟩ := O.top
  exact ⟨O.k.keeps hk, p, loose, mg, mb, T.keeps hk⟩
theorem Ok.lim {w : World} {h : Heap} (O : Ok w h) : h.NoLimit := by
  obtain ⟨p, loose, mg, mb, T⟩ := O.top
  exact T.nolimit

structure Calm (A : Around) (k : Nat) : Prop where
  hh : A.handled = none
  hd : A.depth + k < recursionLimit
  hu : A.units + 16 * k < cLine
theorem Calm.deeper {A : Around} {k : Nat} (C : Calm A (k + 1)) (env : Env) : Calm (A.deeper env) k :=
  ⟨C.hh, by have := C.hd; simp only [Around.deeper]; omega, by have := C.hu; simp only [Around.deeper]; omega⟩
theorem Calm.le {A : Around} {k j : Nat} (C : Calm A k) (h : j ≤ k) : Calm A j := ⟨C.hh, by have := C.hd; omega, by have := C.hu; omega⟩

/-- the whole heap is kept -/
abbrev Kept (s s' : Shared) : Prop := ∃ h' tk, s' = { s with heap := h', toks := tk } ∧ ∀ b o, s.heap.get? b = some o → h'.get? b = some o
theorem Kept.rfl' (s : Shared) : Kept s s := ⟨s.heap, s.toks, rfl, fun _ _ e => e⟩

/-- what a pure call gives: a value that P says, the heap kept -/
def Gives (prog : Program) (w : World) (A : Around) (f : Value) (args : List Value) (P : Value → Heap → Prop) (s : Shared) : Prop :=
  codeAny (model prog w) A (.call f ⟨args, []⟩) (fun r s' => match r with | .ok (.ret v) => P v s'.heap ∧ Kept s s' | .ok _ => False | .error _ => False) s
theorem Gives.mk {prog : Program} {w : World} {A : Around} {f : Value} {args : List Value} {P : Value → Heap → Prop} {s : Shared}
    (h : codeAny (model prog w) A (.call f ⟨args, []⟩) (fun r s' => match r with | .ok (.ret v) => P v s'.heap ∧ Kept s s' | .ok _ => False | .error _ => False) s) : Gives prog w A f args P s := h

section
variable {prog : Program} {w : World} {A : Around} {s : Shared} {E : Value → Shared → Prop} {h₀ : Heap} {L : Addr} {m : Str → Option Value} {news : List (Addr × Obj)}
theorem Gives.code {f : Value} {args : List Value} {P : Value → Heap → Prop} {Q : Value → Shared → Prop} (G : Gives prog w A f args P s) (F : Fr h₀ L s.heap m) (N : News h₀ L s.heap news)
    (h : ∀ v h' tk, P v h' → Fr h₀ L h' m → News h₀ L h' news → Q v { s with heap := h', toks := tk }) : codeAny (model prog w) A (.call f ⟨args, []⟩) (fun r s' => match r with | .ok (.ret v) => Q v s' | .ok _ => False | .error e => E e s') s := by
  refine codeAny_mono G fun r s' h1 => ?_
  cases r with
  | error e => exact h1.elim
  | ok f =>
    cases f with
    | ret v =>
      obtain ⟨hP, h', tk, rfl, hk⟩ := h1
      exact h v h' tk hP (F.keeps hk) (N.keeps hk)
    | _ => exact h1.elim
theorem Gives.use {f : Value} {args : List Value} {P : Value → Heap → Prop} {Q : Value → Shared → Prop} (G : Gives prog w A f args P s) (F : Fr h₀ L s.heap m) (N : News h₀ L s.heap news)
    (h : ∀ v h' tk, P v h' → Fr h₀ L h' m → News h₀ L h' news → Q v { s with heap := h', toks := tk }) : wpAny (model prog w) A (call f args) Q E s := wpAny_call (G.code F N h)

theorem enter_raw {Q : Value → Shared → Prop} {name qual : Str} {params : Arguments} {body : List Stmt} {scope : Scope} {dV kV doc pm cdv ct oc : Value} {an od : Option Addr} {osl : Array (Option Value)} {f : Addr} {args : Args} {n : Nat}
    (O : Ok w s.heap) (C : Calm A (n + 1))
    (ho : (hd.heap_39 w.params).lookup f = some ⟨oc, od, .func (fnOf name qual params body scope dV kV doc pm an cdv ct), osl⟩) (hcd : codeIn (hd.heap_39 w.params) cdv qual = true)
    (h : wpAny (model prog w) A.in1 (bindArgs (fnOf name qual params body scope dV kV doc pm an cdv ct) args) (fun binds s₁ =>
      wpAny (model prog w) A.in1 (newFunctionEnv scope mainGlobals [] binds (qual ++ ".<locals>.") (some f) cdv none builtinsNs)
        (fun env s₂ => s₂.heap.NoLimit ∧ codeAny (model prog w) A (.func body env) (fun r s' => match r with | .ok (.ret v) => Q v s' | .ok _ => False | .error _ => False) s₂) (fun _ _ => False) s₁) (fun _ _ => False) s)
    (hco : scope.isCoroutine = false) (hgen : scope.isGenerator = false) :
    codeAny (model prog w) A (.call (.ref f) args) (fun r s' => match r with | .ok (.ret v) => Q v s' | .ok _ => False | .error e => E e s') s := by
  refine codeAny_mono (R := fun r s' => match r with | .ok (.ret v) => Q v s' | .ok _ => False | .error _ => False) ?_ (fun r s' h => by
    cases r with
    | ok v => cases v <;> exact h
    | error e => exact h.elim)
  exact codeAny_call_function (fd := fnOf name qual params body scope dV kV doc pm an cdv ct) (body := body) (by have := C.hd; omega) (O.k _ _ ho) rfl hco hgen rfl (codeRec_of O.k hcd) h

/-- the frame's objects: made ahead of it, behind the base -/
abbrev Pre (h₀ h : Heap) (pre : List (Addr × Obj)) : Prop := ∀ p ∈ pre, h.get? p.1 = some p.2 ∧ h₀.get? p.1 = none

theorem env_plain {Q : Value → Shared → Prop} {qual : Str} {body : List Stmt} {scope : Scope} {cdv : Value} {f : Addr} {binds : List (Str × Value)} {n : Nat} {s₁ : Shared} {pre : List (Addr × Obj)}
    (O : Ok w s₁.heap) (C : Calm A (n + 1)) (hk₀ : ∀ b o, h₀.get? b = some o → s₁.heap.get? b = some o) (hsz : h₀.objs.size ≤ s₁.heap.objs.size) (hpre : Pre h₀ s₁.heap pre)
    (hloc : ∀ y ∈ binds, scope.names.lookup y.1 = some .local)
    (h : ∀ L h₁ tk, Fr h₀ L h₁ (fun y => binds.reverse.lookup y) → News h₀ L h₁ pre → Ok w h₁ → Calm (A.deeper (envX qual scope L f cdv [])) n →
      wpAny (model prog w) (A.deeper (envX qual scope L f cdv [])) (execs body (envX qual scope L f cdv []))
        (fun fl s' => Q (match fl with | .ret v => v | _ => .none) s') (fun _ _ => False) { s₁ with heap := h₁, toks := tk })
    (hcell : ∀ x ∈ scope.names, x.2 ≠ .cell) (hk : scope.kind = .function) :
    wpAny (model prog w) A.in1 (newFunctionEnv scope mainGlobals [] binds (qual ++ ".<locals>.") (some f) cdv none builtinsNs)
        (fun env s₂ => s₂.heap.NoLimit ∧ codeAny (model prog w) A (.func body env) (fun r s' => match r with | .ok (.ret v) => Q v s' | .ok _ => False | .error _ => False) s₂) (fun _ _ => False) s₁ := by
  refine wpAny_newFunctionEnv hcell hloc (fun h₁ hns hsb => ⟨O.lim.fresh _ hsb, codeAny_func ?_⟩) hk
  have hk₁ : ∀ b o, s₁.heap.get? b = some o → h₁.get? b = some o := fun b o e => hsb.extBut b o (Nat.ne_of_lt (Heap.lt_size e)) (Heap.get?_push_of_some _ e)
  refine wpAny_mono (h s₁.heap.objs.size h₁ _ ⟨hns, fun b o e => hk₁ b o (hk₀ b o e), hsz⟩ (fun p hp => ⟨hk₁ _ _ (hpre p hp).1, Nat.ne_of_lt (Heap.lt_size (hpre p hp).1), (hpre p hp).2⟩) (O.keeps hk₁) (C.deeper _)) (fun fl s' x => ?_) (fun _ _ x => x.elim)
  cases fl <;> exact x

theorem env_cells {Q : Value → Shared → Prop} {qual : Str} {body : List Stmt} {scope : Scope} {cdv : Value} {f : Addr} {binds : List (Str × Value)} {n : Nat} {s₁ : Shared} {pre : List (Addr × Obj)}
    (O : Ok w s₁.heap) (C : Calm A (n + 1)) (hk₀ : ∀ b o, h₀.get? b = some o → s₁.heap.get? b = some o) (hsz : h₀.objs.size ≤ s₁.heap.objs.size) (hpre : Pre h₀ s₁.heap pre)
    (hkind : (binds.all fun y => scope.names.lookup y.1 == some .local || scope.names.lookup y.1 == some .cell) = true)
    (hnd : ((cellsFrom 0 scope.names []).map (·.1)).Nodup)
    (h : ∀ L h₁ tk cells, Fr h₀ L h₁ (bindL (envOfC qual scope L f cdv).kindOf binds fun _ => none) → News h₀ L h₁ (cells ++ pre) →
      CellsAre (bindC (envOfC qual scope L f cdv).kindOf binds fun _ => none) (cellsFrom (L + 1) scope.names []) cells → (∀ p ∈ pre, p.1 < L) → Ok w h₁ → Calm (A.deeper (envX qual scope L f cdv (cellsFrom (L + 1) scope.names []))) n →
      wpAny (model prog w) (A.deeper (envX qual scope L f cdv (cellsFrom (L + 1) scope.names []))) (execs body (envX qual scope L f cdv (cellsFrom (L + 1) scope.names [])))
        (fun fl s' => Q (match fl with | .ret v => v | _ => .none) s') (fun _ _ => False) { s₁ with heap := h₁, toks := tk })
    (hk : scope.kind = .function) :
    wpAny (model prog w) A.in1 (newFunctionEnv scope mainGlobals [] binds (qual ++ ".<locals>.") (some f) cdv none builtinsNs)
        (fun env s₂ => s₂.heap.NoLimit ∧ codeAny (model prog w) A (.func body env) (fun r s' => match r with | .ok (.ret v) => Q v s' | .ok _ => False | .error _ => False) s₂) (fun _ _ => False) s₁ := by
  refine wpAny_newFunctionEnv_cells hk (kindsX hkind _) fun env' he s' x => ?_
  subst he
  refine ⟨O.lim.keeps x.toInCall.keep, codeAny_func ?_⟩
  obtain ⟨h₁, tk, rfl, _⟩ := x.done
  have hk₁ := x.toInCall.keep
  obtain ⟨cells, NC, Y⟩ := Cl.news (h₀ := s₁.heap) (Nat.le_refl _) fun n c hm => ⟨x.cell n c (lookup_of_mem_nodup (cellsFrom_names scope.names 0 (s₁.heap.objs.size + 1) [] [] rfl ▸ hnd) hm), x.above n c hm⟩
  refine wpAny_mono (h s₁.heap.objs.size h₁ tk cells ⟨x.toInCall.ns, fun b o e => hk₁ b o (hk₀ b o e), hsz⟩ (fun p hp => ?_) Y (fun p hp => Heap.lt_size (hpre p hp).1) (O.keeps hk₁) (C.deeper _)) (fun fl s' x => ?_) (fun _ _ x => x.elim)
  · rcases List.mem_append.mp hp with hp | hp
    · refine ⟨(NC p hp).1, (NC p hp).2.1, ?_⟩
      cases q : h₀.get? p.1 with
      | none => rfl
      | some o => have := hk₀ _ _ q; rw [(NC p hp).2.2] at this; cases this
    · exact ⟨hk₁ _ _ (hpre p hp).1, Nat.ne_of_lt (Heap.lt_size (hpre p hp).1), (hpre p hp).2⟩
  · cases fl <;> exact x

theorem wp_peek1 {α : Type} {K : Frag} {M : Model} {A : Around} {E : Value → Shared → Prop} {Q : α → Shared → Prop} {s : Shared} {o : Obj} {r : Addr → α} (X : K.In s.heap)
    (q : Q (r s.heap.objs.size) { s with heap := s.heap.push o }) :
    ∀ (t : Sem α) (g : Addr → Option α), peek1 K ⟨M.prog, M.w.params⟩ t = some (o, g) → (∀ D, g D = some (r D)) → wpAny M A t Q E s := by
  intro t
  induction t with
  | rule _ k ih => intro g e hg Γ p hΓ; exact ih () g e hg Γ p hΓ
  | point _ k ih => intro g e hg Γ p hΓ; exact ih () g e hg Γ p hΓ
  | ask k ih => intro g e hg Γ p hΓ; exact ih _ g e hg Γ p hΓ
  | load a _ k ih =>
    intro g e hg Γ p hΓ
    simp only [peek1] at e
    split at e
    · rename_i ob ho; exact ⟨ob, X _ _ ho, ih ob g e hg Γ p hΓ⟩
    · cases e
  | alloc ob k _ =>
    intro g e hg
    have e : some (ob, fun D => peek K ⟨M.prog, M.w.params⟩ (k D)) = some (o, g) := e
    obtain ⟨e1, e2⟩ := Prod.mk.inj (Option.some.inj e)
    subst e1
    subst e2
    show wpAny M A (alloc ob >>= k) Q E s
    refine wpAny_bind (wpAny_alloc ?_)
    exact (Looks.of_peek (M := M) (h := s.heap.push ob) (X.keeps fun b x hb => Heap.get?_push_of_some _ hb) (hg s.heap.objs.size)).here (s := { s with heap := s.heap.push ob }) q
  | _ => intro g e; cases e

abbrev tupObj (vs : List Value) : Obj := { cls := .type "tuple", data := .seq vs.toArray }
theorem Pre.one {h : Heap} {o : Obj} (hf : o.isFreed = false) : Pre h (h.push o) [(h.objs.size, o)] := fun p hp => by
  rw [List.mem_singleton.mp hp]
  exact ⟨Heap.get?_push_size _ hf, Heap.get?_none_of_le (Nat.le_refl _)⟩

/-- a def with plain parameters alone -/
theorem enter {Q : Value → Shared → Prop} {name qual : Str} {params : Arguments} {body : List Stmt} {scope : Scope} {dV kV doc pm cdv ct oc : Value} {an od : Option Addr} {osl : Array (Option Value)} {f : Addr} {args : Args} {binds : List (Str × Value)} {n : Nat}
    (O : Ok w s.heap) (C : Calm A (n + 1))
    (ho : (hd.heap_39 w.params).lookup f = some ⟨oc, od, .func (fnOf name qual params body scope dV kV doc pm an cdv ct), osl⟩) (hcd : codeIn (hd.heap_39 w.params) cdv qual = true)
    (hbind : BindsTo s (fnOf name qual params body scope dV kV doc pm an cdv ct) args binds) (hloc : ∀ y ∈ binds, scope.names.lookup y.1 = some .local)
    (h : ∀ L h₁ tk, Fr s.heap L h₁ (fun y => binds.reverse.lookup y) → News s.heap L h₁ [] → Ok w h₁ → Calm (A.deeper (envX qual scope L f cdv [])) n →
      wpAny (model prog w) (A.deeper (envX qual scope L f cdv [])) (execs body (envX qual scope L f cdv []))
        (fun fl s' => Q (match fl with | .ret v => v | _ => .none) s') (fun _ _ => False) { s with heap := h₁, toks := tk })
    (hcell : ∀ x ∈ scope.names, x.2 ≠ .cell) (hco : scope.isCoroutine = false) (hgen : scope.isGenerator = false) (hk : scope.kind = .function) :
    codeAny (model prog w) A (.call (.ref f) args) (fun r s' => match r with | .ok (.ret v) => Q v s' | .ok _ => False | .error e => E e s') s :=
  enter_raw O C ho hcd (hbind _ _ _ _ (env_plain (pre := []) O C (fun _ _ e => e) (Nat.le_refl _) (fun _ hp => nomatch hp) hloc h hcell hk)) hco hgen

/-- a def with plain parameters, some of them captured -/
theorem enterC {Q : Value → Shared → Prop} {name qual : Str} {params : Arguments} {body : List Stmt} {scope : Scope} {dV kV doc pm cdv ct oc : Value} {an od : Option Addr} {osl : Array (Option Value)} {f : Addr} {args : Args} {binds : List (Str × Value)} {n : Nat}
    (O : Ok w s.heap) (C : Calm A (n + 1))
    (ho : (hd.heap_39 w.params).lookup f = some ⟨oc, od, .func (fnOf name qual params body scope dV kV doc pm an cdv ct), osl⟩) (hcd : codeIn (hd.heap_39 w.params) cdv qual = true)
    (hbind : BindsTo s (fnOf name qual params body scope dV kV doc pm an cdv ct) args binds)
    (hkind : (binds.all fun y => scope.names.lookup y.1 == some .local || scope.names.lookup y.1 == some .cell) = true)
    (hnd : ((cellsFrom 0 scope.names []).map (·.1)).Nodup)
    (h : ∀ L h₁ tk cells, Fr s.heap L h₁ (bindL (envOfC qual scope L f cdv).kindOf binds fun _ => none) → News s.heap L h₁ cells →
      CellsAre (bindC (envOfC qual scope L f cdv).kindOf binds fun _ => none) (cellsFrom (L + 1) scope.names []) cells → Ok w h₁ → Calm (A.deeper (envX qual scope L f cdv (cellsFrom (L + 1) scope.names []))) n →
      wpAny (model prog w) (A.deeper (envX qual scope L f cdv (cellsFrom (L + 1) scope.names []))) (execs body (envX qual scope L f cdv (cellsFrom (L + 1) scope.names [])))
        (fun fl s' => Q (match fl with | .ret v => v | _ => .none) s') (fun _ _ => False) { s with heap := h₁, toks := tk })
    (hco : scope.isCoroutine = false) (hgen : scope.isGenerator = false) (hk : scope.kind = .function) :
    codeAny (model prog w) A (.call (.ref f) args) (fun r s' => match r with | .ok (.ret v) => Q v s' | .ok _ => False | .error e => E e s') s :=
  enter_raw O C ho hcd (hbind _ _ _ _ (env_cells (pre := []) O C (fun _ _ e => e) (Nat.le_refl _) (fun _ hp => nomatch hp) hkind hnd (fun L h₁ tk cells F N Y _ => h L h₁ tk cells F (by simpa using N) Y) hk)) hco hgen

/-- a def with a rest parameter -/
theorem enterV {Q : Value → Shared → Prop} {name qual : Str} {params : Arguments} {body : List Stmt} {scope : Scope} {dV kV doc pm cdv ct oc : Value} {an od : Option Addr} {osl : Array (Option Value)} {f : Addr} {args : Args} {vs : List Value} {g₁ : Addr → Option (List (Str × Value))} {binds : Addr → List (Str × Value)} {n : Nat}
    (O : Ok w s.heap) (C : Calm A (n + 1))
    (ho : (hd.heap_39 w.params).lookup f = some ⟨oc, od, .func (fnOf name qual params body scope dV kV doc pm an cdv ct), osl⟩) (hcd : codeIn (hd.heap_39 w.params) cdv qual = true)
    (hp : peek1 (hd.heap_39 w.params) ⟨prog, w.params⟩ (bindArgs (fnOf name qual params body scope dV kV doc pm an cdv ct) args) = some (tupObj vs, g₁))
    (hg : ∀ D, g₁ D = some (binds D)) (hloc : ∀ D, ∀ y ∈ binds D, scope.names.lookup y.1 = some .local)
    (h : ∀ D L h₁ tk, D < L → Fr s.heap L h₁ (fun y => (binds D).reverse.lookup y) → News s.heap L h₁ [(D, tupObj vs)] → Ok w h₁ → Calm (A.deeper (envX qual scope L f cdv [])) n →
      wpAny (model prog w) (A.deeper (envX qual scope L f cdv [])) (execs body (envX qual scope L f cdv []))
        (fun fl s' => Q (match fl with | .ret v => v | _ => .none) s') (fun _ _ => False) { s with heap := h₁, toks := tk })
    (hcell : ∀ x ∈ scope.names, x.2 ≠ .cell) (hco : scope.isCoroutine = false) (hgen : scope.isGenerator = false) (hk : scope.kind = .function) :
    codeAny (model prog w) A (.call (.ref f) args) (fun r s' => match r with | .ok (.ret v) => Q v s' | .ok _ => False | .error e => E e s') s := by
  refine enter_raw O C ho hcd ?_ hco hgen
  refine wp_peek1 (r := binds) O.k ?_ _ g₁ hp hg
  refine env_plain (s₁ := { s with heap := s.heap.push (tupObj vs) }) (h₀ := s.heap) (pre := [(s.heap.objs.size, tupObj vs)]) (O.keeps fun b o e => Heap.get?_push_of_some _ e) C (fun b o e => Heap.get?_push_of_some _ e) (by rw [Heap.size_push]; exact Nat.le_succ _) (Pre.one rfl) (hloc _) ?_ hcell hk
  intro L h₁ tk F N O1 C1
  exact h s.heap.objs.size L h₁ tk (Nat.lt_of_lt_of_le (by have := (N _ (.head _)).1; exact Nat.lt_of_le_of_ne F.above (fun e => (N _ (.head _)).2.1 e)) (Nat.le_refl _)) F N O1 C1

theorem nmE_L {x : Str} {pos : Pos} {v : Value} {Q : Value → Shared → Prop} {env : Env} (hl : env.kindOf x = some .local) (hk : env.scope.kind = .function) (hdb : (x == ("__debug__" : Str)) = false) (F : Fr h₀ L s.heap m) (hL : env.locals = L) (hv : m x = some v) (h : Q v s) :
    wpAny (model prog w) A (eval (.Name x pos) env) Q E s := by
  subst hL
  exact wpAny_Name (wpAny_loadName_local hk hl F.ns hv h) hdb
theorem ldE_L {x : Str} {v : Value} {Q : Value → Shared → Prop} {env : Env} (hl : env.kindOf x = some .local) (hk : env.scope.kind = .function) (F : Fr h₀ L s.heap m) (hL : env.locals = L) (hv : m x = some v) (h : Q v s) :
    wpAny (model prog w) A (loadName env x) Q E s := by
  subst hL
  exact wpAny_loadName_local hk hl F.ns hv h
theorem stE_L {x : Str} {v : Value} {Q : Unit → Shared → Prop} {env : Env} (hl : env.kindOf x = some .local) (hk : env.scope.kind = .function) (F : Fr h₀ L s.heap m) (N : News h₀ L s.heap news) (hL : env.locals = L)
    (h : ∀ h' tk, Fr h₀ L h' (fun y => if y = x then some v else m y) → News h₀ L h' news → Q () { s with heap := h', toks := tk }) : wpAny (model prog w) A (storeName env x v) Q E s := by
  subst hL
  exact wpAny_storeName_local hl F.ns (fun h' hn hs => h h' _ (F.set hn hs) (N.set hs)) (by rw [hk]; rfl)
theorem nmE_C {x : Str} {pos : Pos} {v : Value} {Q : Value → Shared → Prop} {env : Env} {c : Addr} {o : Obj} (hl : env.kindOf x = some .cell) (hk : env.scope.kind = .function) (hc : env.cells.lookup x = some c) (hdb : (x == ("__debug__" : Str)) = false) (N : News h₀ L s.heap news) (hm : (c, o) ∈ news) (ho : o.data = .cell (some v)) (h : Q v s) :
    wpAny (model prog w) A (eval (.Name x pos) env) Q E s := wpAny_Name (wpAny_loadName_cell hk hl hc ⟨o, N.get hm, ho⟩ h) hdb
theorem nmE_boot {x : Str} {pos : Pos} {v : Value} {Q : Value → Shared → Prop} {env : Env} (hx : env.kindOf x = some .globalImplicit) (hk : env.scope.kind = .function) (hg : env.globals = mainGlobals) (hb : env.builtins = builtinsNs) (hdb : (x == ("__debug__" : Str)) = false)
    (e : nsIn (hd.heap_39 w.params) mainGlobals x = some none) (hv : bootBuiltins x = some v) (hn : x ≠ "__name__") (F : Fr h₀ L s.heap m) (O : Ok w h₀) (h : Q v s) : wpAny (model prog w) A (eval (.Name x pos) env) Q E s := by
  obtain ⟨p, loose, mg, mb, T⟩ := O.top
  exact Name_function_global hk hx (loadGlobal_builtin (hg ▸ T.g.keeps F.keep) (mg_none_of O.k T.g e) (hb ▸ T.b.keeps F.keep) ((T.builtins x hn).trans hv) h) hdb
theorem nmE_glob {x : Str} {pos : Pos} {v : Value} {Q : Value → Shared → Prop} {env : Env} (hx : env.kindOf x = some .globalImplicit) (hk : env.scope.kind = .function) (hg : env.globals = mainGlobals) (hdb : (x == ("__debug__" : Str)) = false)
    (e : nsIn (hd.heap_39 w.params) mainGlobals x = some (some v)) (F : Fr h₀ L s.heap m) (O : Ok w h₀) (h : Q v s) : wpAny (model prog w) A (eval (.Name x pos) env) Q E s := by
  obtain ⟨p, loose, mg, mb, T⟩ := O.top
  exact Name_function_global hk hx (loadGlobal_global (hg ▸ T.g.keeps F.keep) (mg_of O.k T.g e) h) hdb
theorem nm_old {x : Str} {v : Value} {Q : Value → Shared → Prop} {cn : Str} {cs : Scope} {a : Addr} {ccd : Value} {cl : List (Str × Addr)} (F : Fr h₀ L s.heap m) (hv : m x = some v) (h : Q v s)
    (hk : cs.kind = .function) (hl : (envX cn cs L a ccd cl).kindOf x = some .local) : wpAny (model prog w) A (loadName (envX cn cs L a ccd cl) x) Q E s := wpAny_loadName_local hk hl F.ns hv h
theorem nm_glob {x : Str} {pos : Pos} {v : Value} {Q : Value → Shared → Prop} {cn : Str} {cs : Scope} {a : Addr} {ccd : Value} {cl : List (Str × Addr)} (F : Fr h₀ L s.heap m) (O : Ok w h₀) (e : nsIn (hd.heap_39 w.params) mainGlobals x = some (some v)) (h : Q v s)
    (hk : cs.kind = .function) (hx : (envX cn cs L a ccd cl).kindOf x = some .globalImplicit) (hd : (x == ("__debug__" : Str)) = false) :
    wpAny (model prog w) A (eval (.Name x pos) (envX cn cs L a ccd cl)) Q E s := by
  obtain ⟨p, loose, mg, mb, T⟩ := O.top
  exact nameX_K F O.k T e h hk hx hd
theorem nm_boot {x : Str} {pos : Pos} {v : Value} {Q : Value → Shared → Prop} {cn : Str} {cs : Scope} {a : Addr} {ccd : Value} {cl : List (Str × Addr)} (F : Fr h₀ L s.heap m) (O : Ok w h₀) (e : nsIn (hd.heap_39 w.params) mainGlobals x = some none) (hv : bootBuiltins x = some v) (hn : x ≠ "__name__") (h : Q v s)
    (hk : cs.kind = .function) (hx : (envX cn cs L a ccd cl).kindOf x = some .globalImplicit) (hd : (x == ("__debug__" : Str)) = false) :
    wpAny (model prog w) A (eval (.Name x pos) (envX cn cs L a ccd cl)) Q E s := by
  obtain ⟨p, loose, mg, mb, T⟩ := O.top
  exact nameX_B F O.k T e hv hn h hk hx hd
end
end
end Mine

-- part Comp
namespace Mine
section
open PySem PySem.W PySem.Calls PyProof.Rows PySem.Spec
theorem nlt {h : Heap} {b : Addr} {o : Obj} (e : h.get? b = some o) : @LT.lt Nat instLTNat b h.objs.size := Heap.lt_size e
theorem nne {a b : Addr} (h : ¬ @Eq Nat a b) : a ≠ b := h
theorem nnot {a b : Addr} (h : a ≠ b) : ¬ @Eq Nat a b := h
theorem nslt {h : Heap} {a : Addr} {m : Str → Option Value} (n : h.Ns a m) : @LT.lt Nat instLTNat a h.objs.size := by
  obtain ⟨o, _, _, ho, _⟩ := n
  exact Heap.lt_size ho
theorem Ns.lt {h : Heap} {a : Addr} {m : Str → Option Value} (n : h.Ns a m) : a < h.objs.size := by
  obtain ⟨o, _, _, ho, _⟩ := n
  exact Heap.lt_size ho

section
variable {prog : Program} {w : World} {A : Around} {env : Env}

abbrev testsOf (env : Env) (ifs : List Expr) : Sem Bool :=
  forIn ifs true fun c r => if r = true then do let ok ← isTrue c env (eval c env); pure (ForInStep.yield ok) else pure (ForInStep.yield r)

/-- changed only below lim -/
abbrev Above (lim : Nat) (h h' : Heap) : Prop := ∀ b o, lim ≤ b → h.get? b = some o → h'.get? b = some o

/-- no two of them are one object -/
abbrev Apart (ys : List Value) : Prop := ys.Pairwise fun u v => ∀ a, u = .ref a → v ≠ .ref a
abbrev NewVal (h : Heap) (y : Value) : Prop := ∀ a, y = .ref a → h.get? a = none
abbrev LiveVal (h : Heap) (y : Value) : Prop := ∀ a, y = .ref a → ∃ o, h.get? a = some o

/-- kept, but for the block's own names, which stand as they are -/
abbrev KeptC (C : Addr) (m : Str → Option Value) (s s' : Shared) : Prop := ∃ h' tk, s' = { s with heap := h', toks := tk } ∧ (∀ b o, b ≠ C → s.heap.get? b = some o → h'.get? b = some o) ∧ h'.Ns C m
theorem Kept.toC {C : Addr} {m : Str → Option Value} {s s' : Shared} (k : Kept s s') (n : s.heap.Ns C m) : KeptC C m s s' := by
  obtain ⟨h', tk, rfl, hk⟩ := k
  exact ⟨h', tk, rfl, fun b o _ e => hk b o e, n.keeps hk⟩
theorem allNews (h₀ : Heap) (C : Addr) (h : Heap) : ∃ all, News h₀ C h all ∧ ∀ b o, b ≠ C → h₀.get? b = none → h.get? b = some o → (b, o) ∈ all := by
  refine ⟨PyProof.Rows.ownOf h₀ ((List.range h.objs.size).filter (· != C)) h, news_ownOf (by simp), fun b o hb h0 e => mem_ownOf ?_ h0 e⟩
  exact List.mem_filter.mpr ⟨List.mem_range.mpr (Heap.lt_size e), by simpa using hb⟩
theorem keptOf {h₀ h h' : Heap} {C : Addr} {m : Str → Option Value} {news : List (Addr × Obj)} (F : Fr h₀ C h' m) (N : News h₀ C h' news) (h0 : ∀ b o, h₀.get? b = some o → h.get? b = some o) (hall : ∀ b o, b ≠ C → h₀.get? b = none → h.get? b = some o → (b, o) ∈ news) :
    ∀ b o, b ≠ C → h.get? b = some o → h'.get? b = some o := by
  intro b o hb e
  cases q : h₀.get? b with
  | none => exact (N _ (hall b o hb q e)).1
  | some o₀ =>
    have := h0 b o₀ q
    rw [e] at this
    cases this
    exact F.keep b o q
theorem newValOf {h h' : Heap} {C : Addr} {m : Str → Option Value} (k : ∀ b o, b ≠ C → h.get? b = some o → h'.get? b = some o) (n : h'.Ns C m) : NewVal h (.ref h'.objs.size) := by
  intro a ha
  cases ha
  cases q : h.get? h'.objs.size with
  | none => rfl
  | some o => exact absurd (Heap.lt_size (k _ o (Nat.ne_of_gt (nslt n)) q)) (Nat.lt_irrefl _)

theorem comp_loop {R : Result → Shared → Prop} {s : Shared} {elt iter : Expr} {x : Str} {px : Pos} {ifs : List Expr} {scope : Scope} {pos : Pos} {I D : Addr} {fp wr : List Addr} {n : Nat} {P : Nat → Value → Prop} {St : Nat → Heap → Prop}
    {cenv : Env} {m : Str → Option Value} (W : Walks prog w A I fp wr n P St) (p : Nat → Bool) (G : Nat → Value → Heap → Prop)
    (hx : cenv.kindOf x = some .local) (hp : (cenv.scope.kind == .class || (cenv.scope.kind == .module && cenv.locals != cenv.globals)) = false)
    (hDl : D < cenv.locals) (hDf : D ∉ fp) (hfl : ∀ b ∈ fp, b < cenv.locals)
    (hG : ∀ i y h h', G i y h → Above (cenv.locals + 1) h h' → G i y h') (hGl : ∀ i y h, G i y h → LiveVal h y)
    (hst : St 0 s.heap) (hacc : s.heap.PlainList D #[]) (hn : s.heap.Ns cenv.locals m)
    (htests : ∀ i v s₂ m₂, i < n → P i v → s₂.heap.Ns cenv.locals m₂ → m₂ x = some v → (∀ b o, b ≠ cenv.locals → b ∉ wr → b ≠ D → s.heap.get? b = some o → s₂.heap.get? b = some o) →
      wpAny (model prog w) A (testsOf cenv ifs) (fun ok s₃ => ok = p i ∧ KeptC cenv.locals m₂ s₂ s₃) (fun _ _ => False) s₂)
    (helt : ∀ i v s₂ m₂, i < n → P i v → p i = true → s₂.heap.Ns cenv.locals m₂ → m₂ x = some v → (∀ b o, b ≠ cenv.locals → b ∉ wr → b ≠ D → s.heap.get? b = some o → s₂.heap.get? b = some o) →
      wpAny (model prog w) A (eval elt cenv) (fun y s₃ => G i y s₃.heap ∧ KeptC cenv.locals m₂ s₂ s₃ ∧ NewVal s₂.heap y) (fun _ _ => False) s₂)
    (hR : ∀ h' tk m' ys, h'.Ns cenv.locals m' → h'.PlainList D ys → Apart ys.toList → Paired (fun i y => G i y h') ((List.range n).filter p) ys.toList →
      (∀ b o, b ≠ cenv.locals → b ∉ wr → b ≠ D → s.heap.get? b = some o → h'.get? b = some o) → R (.ok .next) { s with heap := h', toks := tk })
    (hsz : n ≤ sizeLine) :
    codeAny (model prog w) A (.compLoop (.ListComp elt [⟨.Name x px, iter, ifs, 0⟩] scope pos) 0 (.ref I) (.ref D) cenv) R s := by
  have hDC : D ≠ cenv.locals := Nat.ne_of_lt hDl
  have hCf : cenv.locals ∉ fp := fun h => Nat.lt_irrefl _ (hfl _ h)
  have hCw : cenv.locals ∉ wr := fun h => hCf (W.sub _ h)
  have hDw : D ∉ wr := fun h => hDf (W.sub _ h)
  refine codeAny_compLoop_tests
    (fun k s' => ∃ h' tk m' ys, ∃ i : Nat, s' = { s with heap := h', toks := tk } ∧ St i h' ∧ h'.PlainList D ys ∧ h'.Ns cenv.locals m' ∧ Paired (fun i y => G i y h') ((List.range i).filter p) ys.toList ∧ i ≤ n ∧ k = n + 1 - i ∧ Apart ys.toList ∧
      (∀ b o, b ≠ cenv.locals → b ∉ wr → b ≠ D → s.heap.get? b = some o → h'.get? b = some o)) ?_ (n + 1)
    ⟨s.heap, s.toks, m, #[], 0, rfl, hst, hacc, hn, Paired.nil, Nat.zero_le _, rfl, List.Pairwise.nil, fun _ _ _ _ _ e => e⟩
  rintro k s' ⟨H, tk, m', ys, i, rfl, hst', hacc', hn', hF, hi, rfl, hap, hk⟩
  have off : ∀ b, cenv.locals + 1 ≤ b → b ≠ cenv.locals ∧ b ∉ wr ∧ b ≠ D := fun b hb =>
    ⟨Nat.ne_of_gt hb, fun hm => Nat.lt_asymm (hfl _ (W.sub _ hm)) hb, Nat.ne_of_gt (Nat.lt_trans hDl hb)⟩
  by_cases hlt : i < n
  · refine W.item i _ _ _ hlt hst' fun v h₁ tk₁ hPv hst₁ hk₁ => ?_
    refine wpAny_assign_Name (wpAny_storeName_local hx (hn'.at' fun o e => hk₁ _ o hCw e) (fun h₂ hn₂ hs₂ => ?_) hp)
    have up₂ : ∀ b o, b ≠ cenv.locals → b ∉ wr → H.get? b = some o → h₂.get? b = some o := fun b o hbC hbf e => hs₂.extBut b o hbC (hk₁ b o hbf e)
    have hst₂ : St (i + 1) h₂ := W.frame _ _ _ hst₁ fun b hb o e => hs₂.extBut b o (fun h => hCf (h ▸ hb)) e
    refine wpAny_mono (htests i v { s with heap := h₂, toks := tk₁ + 1 } _ hlt hPv hn₂ (by simp) (fun b o hbC hbf hbD e => up₂ b o hbC hbf (hk b o hbC hbf hbD e))) (fun ok s₃ h₃ => ?_) fun _ _ e => e.elim
    obtain ⟨rfl, h₃, tk₃, rfl, hk₃, hn₃⟩ := h₃
    replace hk₃ : ∀ b o, b ≠ cenv.locals → h₂.get? b = some o → h₃.get? b = some o := hk₃
    have hst₃ : St (i + 1) h₃ := W.frame _ _ _ hst₂ fun b hb o e => hk₃ b o (fun h => hCf (h ▸ hb)) e
    have hacc₃ : h₃.PlainList D ys := hacc'.at fun o e => hk₃ _ o hDC (up₂ D o hDC hDw e)
    have old₃ : Above (cenv.locals + 1) H h₃ := fun b o hb e => hk₃ b o (off b hb).1 (up₂ b o (off b hb).1 (off b hb).2.1 e)
    have hF₃ : Paired (fun i y => G i y h₃) ((List.range i).filter p) ys.toList := hF.mono fun a b h => hG a b _ _ h old₃
    have hr : (List.range (i + 1)).filter p = (List.range i).filter p ++ (if p i = true then [i] else []) := by
      rw [List.range_succ, List.filter_append]; simp [List.filter_cons]
    cases hpv : p i with
    | false =>
      simp only [Bool.false_eq_true, if_false]
      refine ⟨n + 1 - (i + 1), by omega, h₃, tk₃, _, ys, i + 1, rfl, hst₃, hacc₃, hn₃, ?_, hlt, rfl, hap, fun b o hbC hbf hbD e => hk₃ b o hbC (up₂ b o hbC hbf (hk b o hbC hbf hbD e))⟩
      rw [hr, hpv]; simpa using hF₃
    | true =>
      simp only [if_true]
      refine wpAny_mono (helt i v { s with heap := h₃, toks := tk₃ } _ hlt hPv hpv hn₃ (by simp) (fun b o hbC hbf hbD e => hk₃ b o hbC (up₂ b o hbC hbf (hk b o hbC hbf hbD e)))) (fun y s₄ h₄ => ?_) fun _ _ e => e.elim
      obtain ⟨hGy, ⟨h₄, tk₄, rfl, hk₄, hn₄⟩, hnew⟩ := h₄
      replace hk₄ : ∀ b o, b ≠ cenv.locals → h₃.get? b = some o → h₄.get? b = some o := hk₄
      replace hGy : G i y h₄ := hGy
      have hys : ys.size ≤ sizeLine := by
        have e1 := hF.length
        have e2 : ((List.range i).filter p).length ≤ (List.range i).length := List.length_filter_le _ _
        have e3 : (List.range i).length = i := List.length_range
        have e4 : ys.toList.length = ys.size := by simp
        omega
      refine wpAny_list_append_plain (hsz := hys) (hacc₃.at fun o e => hk₄ _ o hDC e) fun h₅ hl₅ hs₅ => ?_
      have old₅ : Above (cenv.locals + 1) h₄ h₅ := fun b o hb e => hs₅.extBut b o (off b hb).2.2 e
      refine ⟨n + 1 - (i + 1), by omega, h₅, tk₄, _, ys.push y, i + 1, rfl, ?_, hl₅, Heap.Ns.sameBut hn₄ hs₅ (Ne.symm hDC), ?_, hlt, rfl, ?_,
        fun b o hbC hbf hbD e => hs₅.extBut b o hbD (hk₄ b o hbC (hk₃ b o hbC (up₂ b o hbC hbf (hk b o hbC hbf hbD e))))⟩
      · exact W.frame _ _ h₅ hst₃ fun b hb o e => hs₅.extBut b o (fun h => hDf (h ▸ hb)) (hk₄ b o (fun h => hCf (h ▸ hb)) e)
      · rw [hr, hpv, Array.toList_push]
        exact Paired.snoc (hF₃.mono fun a b h => hG a b _ _ h (fun b o hb e => old₅ b o hb (hk₄ b o (off b hb).1 e))) (hG i y _ _ hGy old₅)
      · rw [Array.toList_push]
        refine List.pairwise_append.mpr ⟨hap, List.pairwise_singleton _ _, fun u hu v hv a hua hva => ?_⟩
        rw [List.mem_singleton.mp hv] at hva
        obtain ⟨j, hj⟩ := Paired.right hF₃ u hu
        obtain ⟨o, ho⟩ := hGl j u h₃ hj a hua
        have hno := hnew a hva
        have hno : h₃.get? a = none := hno
        rw [ho] at hno; cases hno
  · have hin : i = n := by omega
    subst hin
    refine W.done _ _ _ hst' fun h₁ tk₁ hk₁ => ?_
    have old₁ : Above (cenv.locals + 1) H h₁ := fun b o hb e => hk₁ b o (off b hb).2.1 e
    exact hR h₁ tk₁ m' ys (hn'.at' fun o e => hk₁ _ o hCw e) (hacc'.at fun o e => hk₁ _ o hDw e) hap (hF.mono fun a b h => hG a b _ _ h old₁) fun b o hbC hbf hbD e => hk₁ b o hbf (hk b o hbC hbf hbD e)

/-- what a comprehension asks of its iterator, tests and elements, at the iterator's state s₂; D is the list's place, C the block's -/
structure CompAt (prog : Program) (w : World) (A : Around) (env : Env) (scope : Scope) (cl : List (Str × Addr)) (x : Str) (ifs : List Expr) (elt : Expr) (it : Value) (s₂ : Shared) (n : Nat) (p : Nat → Bool) (G : Nat → Nat → Value → Heap → Prop) : Prop where
  at' : ∃ I fp P St, it = .ref I ∧ Walks prog w A I fp [I] n P St ∧ (∀ b ∈ fp, b < s₂.heap.objs.size) ∧ n ≤ sizeLine ∧ St 0 s₂.heap ∧
    (∀ i v s₃ m₃, i < n → P i v → s₃.heap.Ns (s₂.heap.objs.size + 1) m₃ → m₃ x = some v → (∀ b o, b ≠ I → s₂.heap.get? b = some o → s₃.heap.get? b = some o) →
      wpAny (model prog w) A (testsOf (compEnvC scope cl (s₂.heap.objs.size + 1) env) ifs) (fun ok s₄ => ok = p i ∧ KeptC (s₂.heap.objs.size + 1) m₃ s₃ s₄) (fun _ _ => False) s₃) ∧
    (∀ i v s₃ m₃, i < n → P i v → p i = true → s₃.heap.Ns (s₂.heap.objs.size + 1) m₃ → m₃ x = some v → (∀ b o, b ≠ I → s₂.heap.get? b = some o → s₃.heap.get? b = some o) →
      wpAny (model prog w) A (eval elt (compEnvC scope cl (s₂.heap.objs.size + 1) env)) (fun y s₄ => G (s₂.heap.objs.size + 2) i y s₄.heap ∧ KeptC (s₂.heap.objs.size + 1) m₃ s₃ s₄ ∧ NewVal s₃.heap y) (fun _ _ => False) s₃)

theorem comp_block {elt iter : Expr} {x : Str} {px : Pos} {ifs : List Expr} {scope : Scope} {cl : List (Str × Addr)} {pos : Pos} {s₂ : Shared} {it : Value} {n : Nat} {p : Nat → Bool} {G : Nat → Nat → Value → Heap → Prop}
    {RR : Value → Addr → Result → Shared → Prop} (X : CompAt prog w A env scope cl x ifs elt it s₂ n p G)
    (hcell : ∀ y ∈ scope.names, y.2 ≠ .cell) (hkind : scope.kind = .function) (hx : scope.names.lookup x = some .local)
    (hG : ∀ lim i y h h', G lim i y h → Above lim h h' → G lim i y h') (hGl : ∀ lim i y h, G lim i y h → LiveVal h y)
    (hRR : ∀ h' tk m' ys, h'.Ns (s₂.heap.objs.size + 1) m' → h'.PlainList s₂.heap.objs.size ys → Apart ys.toList → Paired (fun i y => G (s₂.heap.objs.size + 2) i y h') ((List.range n).filter p) ys.toList →
      (∀ b o, it ≠ .ref b → s₂.heap.get? b = some o → h'.get? b = some o) → RR (.ref s₂.heap.objs.size) (s₂.heap.objs.size + 1) (.ok .next) { s₂ with heap := h', toks := tk }) :
    wpAny (model prog w) A (newList []) (fun acc s₃ => wpAny (model prog w) A (newFunctionEnv scope env.globals cl [] env.qual none .none (some env)) (fun cenv s₄ =>
      codeAny (model prog w) A (.compStart (.ListComp elt [⟨.Name x px, iter, ifs, 0⟩] scope pos) 0 it acc { cenv with scope := relabel scope env }) (RR acc cenv.locals) s₄) (fun _ _ => False) s₃) (fun _ _ => False) s₂ := by
  obtain ⟨I, fp, P, St, rfl, W, hI, hsz, hst, htests, helt⟩ := X.at'
  refine wpAny_newObj_type (wpAny_newFunctionEnv hcell (by intro y hy; simp at hy) (fun h₁ hns₁ hsb₁ => ?_) hkind)
  dsimp only at hns₁ hsb₁ ⊢
  generalize hH2 : s₂.heap.push { cls := .type "list", dict := none, data := .seq ([] : List Value).toArray } = H2 at hns₁ hsb₁ ⊢
  have hC : H2.objs.size = s₂.heap.objs.size + 1 := by rw [← hH2, Heap.size_push]
  rw [hC] at hns₁ hsb₁ ⊢
  have old : ∀ b o, s₂.heap.get? b = some o → h₁.get? b = some o := fun b o e => hsb₁.extBut b o (Nat.ne_of_lt (Nat.lt_succ_of_lt (nlt e))) (Heap.get?_push_of_some _ (hH2 ▸ Heap.get?_push_of_some _ e))
  have hacc : h₁.PlainList s₂.heap.objs.size #[] := ⟨_, hsb₁.extBut _ _ (Nat.ne_of_lt (Nat.lt_succ_self _)) (Heap.get?_push_of_some _ (hH2 ▸ Heap.get?_push_size _ rfl))⟩
  have hst₁ : St 0 h₁ := W.frame _ _ _ hst fun b _ o e => old b o e
  have loop : ∀ s₃ : Shared, s₃ = { s₂ with heap := h₁, toks := s₂.toks + ([] : List (Str × Value)).length } →
      codeAny (model prog w) A (.compLoop (.ListComp elt [⟨.Name x px, iter, ifs, 0⟩] scope pos) 0 (.ref I) (.ref s₂.heap.objs.size) (compEnvC scope cl (s₂.heap.objs.size + 1) env))
        (RR (.ref s₂.heap.objs.size) (s₂.heap.objs.size + 1)) s₃ := by
    rintro s₃ rfl
    refine comp_loop (cenv := compEnvC scope cl (s₂.heap.objs.size + 1) env) W p (fun i y h => G (s₂.heap.objs.size + 2) i y h) (lookup_relabel_local hx) (by simp [compEnvC, relabel, hkind])
      (Nat.lt_succ_self _) (fun hm => Nat.lt_irrefl _ (hI _ hm)) (fun b hb => Nat.lt_succ_of_lt (hI b hb))
      (fun i y h h' => hG _ i y h h') (fun i y h => hGl _ i y h) hst₁ hacc hns₁ ?_ ?_ ?_ hsz
    · intro i v s₃ m₃ hi hv hn hm hk
      exact htests i v s₃ m₃ hi hv hn hm fun b o hbI e => hk b o (Nat.ne_of_lt (Nat.lt_succ_of_lt (nlt e))) (fun hm => hbI (List.mem_singleton.mp hm)) (Nat.ne_of_lt (nlt e)) (old b o e)
    · intro i v s₃ m₃ hi hv hpi hn hm hk
      exact helt i v s₃ m₃ hi hv hpi hn hm fun b o hbI e => hk b o (Nat.ne_of_lt (Nat.lt_succ_of_lt (nlt e))) (fun hm => hbI (List.mem_singleton.mp hm)) (Nat.ne_of_lt (nlt e)) (old b o e)
    · intro h' tk m' ys hn hpl hap hF hk
      exact hRR h' tk m' ys hn hpl hap hF fun b o hbI e => hk b o (Nat.ne_of_lt (Nat.lt_succ_of_lt (nlt e))) (fun hm => hbI (by rw [List.mem_singleton.mp hm])) (Nat.ne_of_lt (nlt e)) (old b o e)
  exact codeAny_compStart_list (loop _ rfl) (W.self 0 _ _ _ hst₁ (loop _ rfl))

/-- a comprehension as an expression, in a frame -/
theorem listcomp {s : Shared} {h₀ : Heap} {L : Addr} {elt iter : Expr} {x : Str} {px : Pos} {ifs : List Expr} {scope : Scope} {cl : List (Str × Addr)} {pos : Pos} {Q : Value → Shared → Prop} (n : Nat) (p : Nat → Bool) (G : Nat → Nat → Value → Heap → Prop)
    (hclos : closureFor scope env = pure cl) (hcell : ∀ y ∈ scope.names, y.2 ≠ .cell) (hkind : scope.kind = .function)
    (hnames : ∀ y ∈ scope.names, y.2 = .local → scope.names.lookup y.1 = some .local) (hx : scope.names.lookup x = some .local)
    (hG : ∀ lim i y h h', G lim i y h → Above lim h h' → G lim i y h') (hGl : ∀ lim i y h, G lim i y h → LiveVal h y)
    (h : wpAny (model prog w) A (eval iter env) (fun xv s₁ => wpAny (model prog w) A (pyIter xv) (fun it s₂ => ∃ m news, Fr h₀ L s₂.heap m ∧ News h₀ L s₂.heap news ∧ (∃ I, it = .ref I ∧ I ≠ L ∧ h₀.get? I = none ∧ ∀ q ∈ news, q.1 ≠ I) ∧
      CompAt prog w A env scope cl x ifs elt it s₂ n p G ∧
      (∀ h' tk ys k, Fr h₀ L h' m → News h₀ L h' ((s₂.heap.objs.size, listOf ys k) :: news) → Apart ys.toList → Paired (fun i y => G (s₂.heap.objs.size + 2) i y h') ((List.range n).filter p) ys.toList →
        Q (.ref s₂.heap.objs.size) { s₂ with heap := h', toks := tk })) (fun _ _ => False) s₁) (fun _ _ => False) s)
    (hs : ∀ x, foldedSetIterable iter env x = pure x) :
    wpAny (model prog w) A (eval (.ListComp elt [⟨.Name x px, iter, ifs, 0⟩] scope pos) env) Q (fun _ _ => False) s := by
  rw [eval_ListComp]
  refine wpAny_comprehension_free (use := none) rfl hs hclos hkind hnames (wpAny_mono h (fun xv s₁ h₁ => wpAny_mono h₁ (fun it s₂ h₂ => ?_) fun _ _ e => e) fun _ _ e => e)
  obtain ⟨m, news, F, N, ⟨I, rfl, hIL, hI0, hIn⟩, X, hQ⟩ := h₂
  refine comp_block (RR := fun acc C => compPost (model prog w) A (fun _ _ => False) none Q acc C) X hcell hkind hx hG hGl ?_
  intro h' tk m' ys hn hpl hap hF hk
  refine ⟨m', hn, fun h'' hs'' => ?_⟩
  replace hs'' : Heap.SameBut (s₂.heap.objs.size + 1) h' h'' := hs''
  obtain ⟨k, hpl⟩ := hpl
  have hL := F.ns.lt
  have up : ∀ b o, b ≠ I → s₂.heap.get? b = some o → h''.get? b = some o := fun b o hb e => hs''.extBut b o (Nat.ne_of_lt (Nat.lt_succ_of_lt (nlt e))) (hk b o (fun q => hb (Value.ref.inj q).symm) e)
  refine hQ h'' tk ys k ⟨F.ns.at' fun o e => up L o (Ne.symm hIL) e, fun b o e => up b o (fun q => by rw [q, hI0] at e; cases e) (F.keep b o e), F.above⟩ ?_ hap (hF.mono fun a b g => hG _ a b _ _ g fun b o hb e => hs''.extBut b o (Nat.ne_of_gt hb) e)
  intro q hq
  rcases List.mem_cons.mp hq with rfl | hq
  · exact ⟨hs''.extBut _ _ (Nat.ne_of_lt (Nat.lt_succ_self _)) hpl, Nat.ne_of_gt hL, next_is_new F⟩
  · exact ⟨up q.1 q.2 (hIn q hq) (N q hq).1, (N q hq).2⟩

/-- a comprehension stored under a name: the stores are exchanged -/
theorem listcomp_store {s : Shared} {h₀ : Heap} {elt iter : Expr} {x y : Str} {px py : Pos} {ifs : List Expr} {scope : Scope} {cl : List (Str × Addr)} {pos spos : Pos} {Q : Flow → Shared → Prop} (n : Nat) (p : Nat → Bool) (G : Nat → Nat → Value → Heap → Prop)
    (hsw : swapsWith (.ListComp elt [⟨.Name x px, iter, ifs, 0⟩] scope pos) (some (.Name y py)) spos.line env = pure true)
    (hclos : closureFor scope env = pure cl) (hcell : ∀ y ∈ scope.names, y.2 ≠ .cell) (hkind : scope.kind = .function)
    (hnames : ∀ y ∈ scope.names, y.2 = .local → scope.names.lookup y.1 = some .local) (hx : scope.names.lookup x = some .local)
    (hy : env.kindOf y = some .local) (hp : (env.scope.kind == .class || (env.scope.kind == .module && env.locals != env.globals)) = false)
    (hG : ∀ lim i y h h', G lim i y h → Above lim h h' → G lim i y h') (hGl : ∀ lim i y h, G lim i y h → LiveVal h y)
    (h : wpAny (model prog w) A (eval iter env) (fun xv s₁ => wpAny (model prog w) A (pyIter xv) (fun it s₂ => ∃ m news, Fr h₀ env.locals s₂.heap m ∧ News h₀ env.locals s₂.heap news ∧ (∃ I, it = .ref I ∧ I ≠ env.locals ∧ h₀.get? I = none ∧ ∀ q ∈ news, q.1 ≠ I) ∧
      CompAt prog w A env scope cl x ifs elt it s₂ n p G ∧
      (∀ h' tk ys k, Fr h₀ env.locals h' (fun z => if z = y then some (.ref s₂.heap.objs.size) else m z) → News h₀ env.locals h' ((s₂.heap.objs.size, listOf ys k) :: news) → Apart ys.toList → Paired (fun i y => G (s₂.heap.objs.size + 2) i y h') ((List.range n).filter p) ys.toList →
        Q .next { s₂ with heap := h', toks := tk })) (fun _ _ => False) s₁) (fun _ _ => False) s)
    (hs : ∀ x, foldedSetIterable iter env x = pure x) :
    wpAny (model prog w) A (exec (.Assign [.Name y py] (.ListComp elt [⟨.Name x px, iter, ifs, 0⟩] scope pos) spos) env) Q (fun _ _ => False) s := by
  rw [exec_Assign_Name_used _ _ _ _ hsw]
  refine wpAny_bind (wpAny_standAt (wpAny_bind ?_))
  show wpAny _ A (do let _ ← comprehension (.ListComp elt [⟨.Name x px, iter, ifs, 0⟩] scope pos) scope env _ (newList []) false (eval iter env) (some (assign (.Name y py) env))) _ _ s
  refine wpAny_bind (wpAny_mono (wpAny_comprehension_free (use := some (assign (.Name y py) env)) (Q := fun _ s' => Q .next s') rfl hs hclos hkind hnames
    (wpAny_mono h (fun xv s₁ h₁ => wpAny_mono h₁ (fun it s₂ h₂ => ?_) fun _ _ e => e) fun _ _ e => e)) (fun _ s' hq => wpAny_pure (wpAny_pure hq)) fun _ _ e => e)
  obtain ⟨m, news, F, N, ⟨I, rfl, hIL, hI0, hIn⟩, X, hQ⟩ := h₂
  refine comp_block (RR := fun acc C => compPost (model prog w) A (fun _ _ => False) (some (assign (.Name y py) env)) (fun _ s' => Q .next s') acc C) X hcell hkind hx hG hGl ?_
  intro h' tk m' ys hn hpl hap hF hk
  obtain ⟨k, hpl⟩ := hpl
  have hL := F.ns.lt
  show wpAny _ A (assign (.Name y py) env (.ref s₂.heap.objs.size)) _ _ _
  refine wpAny_assign_Name (wpAny_storeName_local hy (F.ns.at' fun o e => hk _ o (fun q => hIL (Value.ref.inj q)) e) (fun h₂ hn₂ hs₂ => ?_) hp)
  have hCL : s₂.heap.objs.size + 1 ≠ env.locals := Nat.ne_of_gt (Nat.lt_succ_of_lt (nslt F.ns))
  refine ⟨m', hn.sameBut hs₂ hCL, fun h'' hs'' => ?_⟩
  replace hs'' : Heap.SameBut (s₂.heap.objs.size + 1) h₂ h'' := hs''
  have up : ∀ b o, b ≠ I → b ≠ env.locals → s₂.heap.get? b = some o → h''.get? b = some o := fun b o hb hbL e => hs''.extBut b o (Nat.ne_of_lt (Nat.lt_succ_of_lt (nlt e))) (hs₂.extBut b o hbL (hk b o (fun q => hb (Value.ref.inj q).symm) e))
  refine hQ h'' _ ys k ⟨hn₂.sameBut hs'' (Ne.symm hCL), fun b o e => up b o (fun q => by rw [q, hI0] at e; cases e) (Nat.ne_of_lt (Nat.lt_of_lt_of_le (Heap.lt_size e) F.above)) (F.keep b o e), F.above⟩ ?_ hap
    (hF.mono fun a b g => hG _ a b _ _ g fun b o hb e => hs''.extBut b o (Nat.ne_of_gt hb) (hs₂.extBut b o (Nat.ne_of_gt (Nat.lt_trans (Nat.lt_succ_of_lt (nslt F.ns)) hb)) e))
  intro q hq
  rcases List.mem_cons.mp hq with rfl | hq
  · exact ⟨hs''.extBut _ _ (Nat.ne_of_lt (Nat.lt_succ_self _)) (hs₂.extBut _ _ (Nat.ne_of_gt (nslt F.ns)) hpl), Nat.ne_of_gt (nslt F.ns), next_is_new F⟩
  · exact ⟨up q.1 q.2 (hIn q hq) (N q hq).2.1 (N q hq).1, (N q hq).2⟩

/-- where an iterator stands: made anew, over n items -/
structure Src (prog : Program) (w : World) (A : Around) (h₀ : Heap) (L : Addr) (news : List (Addr × Obj)) (I : Addr) (fp : List Addr) (n : Nat) (P : Nat → Value → Prop) (St : Nat → Heap → Prop) (h : Heap) : Prop where
  walks : Walks prog w A I fp [I] n P St
  low : ∀ b ∈ fp, b < h.objs.size
  st : St 0 h
  off : L ∉ fp
  base : h₀.get? I = none
  apart : ∀ q ∈ news, q.1 ≠ I
theorem Src.mem {h₀ h : Heap} {L I : Addr} {news : List (Addr × Obj)} {fp : List Addr} {n : Nat} {P : Nat → Value → Prop} {St : Nat → Heap → Prop} (S : Src prog w A h₀ L news I fp n P St h) : I ∈ fp := S.walks.sub I (.head _)
theorem Src.newL {h₀ h : Heap} {L I : Addr} {news : List (Addr × Obj)} {fp : List Addr} {n : Nat} {P : Nat → Value → Prop} {St : Nat → Heap → Prop} (S : Src prog w A h₀ L news I fp n P St h) : ∃ I', Value.ref I = .ref I' ∧ I' ≠ L ∧ h₀.get? I' = none ∧ ∀ q ∈ news, q.1 ≠ I' :=
  ⟨I, rfl, fun e => S.off (e ▸ S.mem), S.base, S.apart⟩
abbrev rngObj (n : Int) (a b c : Tok) : Obj := { cls := .type "range", data := .fields #[.int 0 a, .int n b, .int 1 c] }
theorem range_it {s : Shared} {E : Value → Shared → Prop} {h₀ : Heap} {L : Addr} {m : Str → Option Value} {news : List (Addr × Obj)} {Q : Value → Shared → Prop} {k : Int} {t : Tok} {n : Nat} (hh : A.handled = none) (F : Fr h₀ L s.heap m) (N : News h₀ L s.heap news) (hn : k = n) (hk : n ≤ 1000000)
    (h : ∀ I St h' tk, Fr h₀ L h' m → News h₀ L h' news → Src prog w A h₀ L news I [I] n (fun i v => ∃ t, v = .int (i : Int) t) St h' → Q (.ref I) { s with heap := h', toks := tk }) :
    wpAny (model prog w) A (call (.type "range") [.int k t]) (fun xv s₁ => wpAny (model prog w) A (pyIter xv) Q E s₁) E s := by
  subst hn
  refine call_range_1 ?_
  have F1 := F.push (rngObj n s.toks t (s.toks + 1))
  have N1 := N.push F (rngObj n s.toks t (s.toks + 1))
  have hr : IsRange (s.heap.push (rngObj n s.toks t (s.toks + 1))) s.heap.objs.size 0 (n : Int) 1 s.toks t (s.toks + 1) := Heap.get?_push_size _ rfl
  have hsz : Builtin.Range.rangeSize 0 (n : Int) 1 = (n : Int) := by
    unfold Builtin.Range.rangeSize
    by_cases h : 0 < (n : Int)
    · rw [if_pos (by decide), if_pos h]; omega
    · have : n = 0 := by omega
      subst this; simp
  refine wpAny_pyIter_range (a := 0) (b := (n : Int)) (c := 1) hr ?_ ?_
  · have fit : ∀ i : Int, 0 ≤ i → i ≤ 1000000 → Builtin.Range.rangeFitsLong i = true := fun i h1 h2 => by
      unfold Builtin.Range.rangeFitsLong
      rw [Bool.and_eq_true]
      exact ⟨decide_eq_true (by omega), decide_eq_true (by omega)⟩
    unfold Builtin.Range.small
    rw [hsz, fit 0 (by omega) (by omega), fit n (by omega) (by omega), fit 1 (by omega) (by omega)]
    rw [if_pos (by decide), fit (n + (1 - 1)) (by omega) (by omega), Bool.or_true]
    rfl
  rw [hsz]
  show Q (Value.ref _) { s with heap := _, toks := s.toks + 1 + 1 }
  refine h (s.heap.push (rngObj n s.toks t (s.toks + 1))).objs.size (fun i h => IsRangeIter h (s.heap.push (rngObj n s.toks t (s.toks + 1))).objs.size (0 + (i : Nat) * 1) ((n : Int) - (i : Nat)) 1) _ _ (F1.push _) (fun p hp => (N1.push F1 _) p (.tail _ (.tail _ hp))) ⟨?_, ?_, ?_, ?_, ?_, ?_⟩
  · have W := Walks.range (prog := prog) (w := w) (A := A) hh (s.heap.push (rngObj n s.toks t (s.toks + 1))).objs.size 0 1 n
    have e : (fun (i : Nat) v => ∃ t, v = Value.int (0 + (i : Int) * 1) t) = fun (i : Nat) v => ∃ t, v = Value.int (i : Int) t := by
      funext i v
      have : (0 + (i : Int) * 1) = (i : Int) := by omega
      rw [this]
    rw [e] at W
    exact W
  · intro b hb
    rw [List.mem_singleton.mp hb]
    exact Nat.lt_of_lt_of_le (Nat.lt_succ_self _) (Nat.le_of_eq (Heap.size_push _ _).symm)
  · have : (0 : Int) + ((0 : Nat) : Int) * 1 = 0 := by omega
    show IsRangeIter _ _ _ _ _
    rw [this]
    have e2 : (n : Int) - ((0 : Nat) : Int) = n := by omega
    rw [e2]
    exact Heap.get?_push_size _ rfl
  · intro hm
    have e := List.mem_singleton.mp hm
    exact Nat.ne_of_lt (nslt F1.ns) e
  · exact next_is_new F1
  · intro q hq
    exact Nat.ne_of_lt (nlt (N1 q (.tail _ hq)).1)
end
end
end Mine

-- part Lcs
namespace Mine
section
/-- the table of the longest common row: lengths over the first i of a and the first j of b -/
def lc (a b : List Nat) : Nat → Nat → Nat
  | 0, _ => 0
  | _ + 1, 0 => 0
  | i + 1, j + 1 => if a[i]? = b[j]? then lc a b i j + 1 else max (lc a b (i + 1) j) (lc a b i (j + 1))
termination_by i j => (i, j)
theorem lc_zero_left (a b : List Nat) (j : Nat) : lc a b 0 j = 0 := by rw [lc]
theorem lc_zero_right (a b : List Nat) (i : Nat) : lc a b i 0 = 0 := by cases i <;> rw [lc]
theorem lc_succ (a b : List Nat) (i j : Nat) : lc a b (i + 1) (j + 1) = if a[i]? = b[j]? then lc a b i j + 1 else max (lc a b (i + 1) j) (lc a b i (j + 1)) := by rw [lc]
theorem lc_le (a b : List Nat) (i j : Nat) : lc a b i j ≤ i := by
  induction i generalizing j with
  | zero => rw [lc_zero_left]; exact Nat.le_refl _
  | succ i ih =>
    induction j with
    | zero => rw [lc_zero_right]; exact Nat.zero_le _
    | succ j ihj =>
      rw [lc_succ]
      split
      · have := ih j; omega
      · have := ih (j + 1); omega
/-- the walk back -/
def tr (a b : List Nat) : Nat → Nat → List Nat → List Nat
  | 0, _, acc => acc
  | _ + 1, 0, acc => acc
  | i + 1, j + 1, acc =>
    if lc a b (i + 1) (j + 1) = lc a b i (j + 1) then tr a b i (j + 1) acc
    else if lc a b (i + 1) (j + 1) = lc a b (i + 1) j then tr a b (i + 1) j acc
    else tr a b i j (a.getD i 0 :: acc)
termination_by i j => (i, j)
theorem tr_zero_left (a b : List Nat) (j : Nat) (acc) : tr a b 0 j acc = acc := by rw [tr]
theorem tr_zero_right (a b : List Nat) (i : Nat) (acc) : tr a b i 0 acc = acc := by cases i <;> rw [tr]
theorem tr_succ (a b : List Nat) (i j : Nat) (acc) : tr a b (i + 1) (j + 1) acc =
    if lc a b (i + 1) (j + 1) = lc a b i (j + 1) then tr a b i (j + 1) acc
    else if lc a b (i + 1) (j + 1) = lc a b (i + 1) j then tr a b (i + 1) j acc
    else tr a b i j (a.getD i 0 :: acc) := by rw [tr]
/-- Levenshtein's table -/
def lev (a b : List Nat) : Nat → Nat → Nat
  | 0, j => j
  | i + 1, 0 => i + 1
  | i + 1, j + 1 => min (min (lev a b i j + if a[i]? = b[j]? then 0 else 1) (lev a b i (j + 1) + 1)) (lev a b (i + 1) j + 1)
termination_by i j => (i, j)
theorem lev_zero_left (a b : List Nat) (j : Nat) : lev a b 0 j = j := by rw [lev]
theorem lev_zero_right (a b : List Nat) (i : Nat) : lev a b i 0 = i := by cases i <;> rw [lev]
theorem lev_succ (a b : List Nat) (i j : Nat) : lev a b (i + 1) (j + 1) = min (min (lev a b i j + if a[i]? = b[j]? then 0 else 1) (lev a b i (j + 1) + 1)) (lev a b (i + 1) j + 1) := by rw [lev]
/-- what the table holds while cell (i, j) is the last that is filled -/
def cell (a b : List Nat) (i j p q : Nat) : Nat := if p ≤ i ∨ (p = i + 1 ∧ q ≤ j) then lc a b p q else 0
theorem cell_zero (a b : List Nat) (p q : Nat) : cell a b 0 0 p q = 0 := by
  unfold cell
  split
  · rename_i h
    rcases h with h | ⟨rfl, h⟩
    · have : p = 0 := by omega
      subst this; exact lc_zero_left a b q
    · have : q = 0 := by omega
      subst this; exact lc_zero_right a b _
  · rfl
theorem cell_turn (a b : List Nat) (i p q M : Nat) (hq : q ≤ M) : cell a b i M p q = cell a b (i + 1) 0 p q := by
  unfold cell
  by_cases h1 : p ≤ i
  · rw [if_pos (.inl h1), if_pos (.inl (by omega))]
  · by_cases h2 : p = i + 1
    · subst h2; rw [if_pos (.inr ⟨rfl, hq⟩), if_pos (.inl (Nat.le_refl _))]
    · rw [if_neg (by omega)]
      split
      · rename_i h
        rcases h with h | ⟨rfl, h⟩
        · omega
        · have : q = 0 := by omega
          subst this; exact (lc_zero_right a b _).symm
      · rfl
theorem cell_step (a b : List Nat) (i j p q : Nat) : cell a b i (j + 1) p q = if p = i + 1 ∧ q = j + 1 then lc a b (i + 1) (j + 1) else cell a b i j p q := by
  unfold cell
  by_cases h : p = i + 1 ∧ q = j + 1
  · rw [if_pos h, h.1, h.2, if_pos (.inr ⟨rfl, Nat.le_refl _⟩)]
  · rw [if_neg h]
    have : (p ≤ i ∨ p = i + 1 ∧ q ≤ j + 1) ↔ (p ≤ i ∨ p = i + 1 ∧ q ≤ j) := by omega
    simp only [this]
theorem cell_full (a b : List Nat) (n p q : Nat) (hp : p ≤ n) : cell a b n 0 p q = lc a b p q := by
  unfold cell; rw [if_pos (.inl hp)]
theorem cell_old (a b : List Nat) (i j q : Nat) : cell a b i j i q = lc a b i q := by
  unfold cell; rw [if_pos (.inl (Nat.le_refl _))]
theorem cell_left (a b : List Nat) (i j : Nat) : cell a b i j (i + 1) j = lc a b (i + 1) j := by
  unfold cell; rw [if_pos (.inr ⟨rfl, Nat.le_refl _⟩)]
theorem cell_map {a b : List Nat} {i j p M : Nat} {z : Int} (hz : z = (lc a b (i + 1) (j + 1) : Int)) : ((List.range M).map fun q => (cell a b i (j + 1) p q : Int)) = (List.range M).map fun q => if p = i + 1 ∧ q = j + 1 then z else (cell a b i j p q : Int) :=
  List.map_congr_left fun q _ => by
    rw [cell_step]
    split
    · exact hz.symm
    · rfl
theorem cell_map_turn {a b : List Nat} {i p M : Nat} : ((List.range (M + 1)).map fun q => (cell a b (i + 1) 0 p q : Int)) = (List.range (M + 1)).map fun q => (cell a b i M p q : Int) :=
  List.map_congr_left fun q hq => by rw [← cell_turn a b i p q M (by have := List.mem_range.mp hq; omega)]
/-- where the walk back goes up-left, the letters agree -/
theorem tr_same (a b : List Nat) (i j : Nat) (h1 : lc a b (i + 1) (j + 1) ≠ lc a b i (j + 1)) (h2 : lc a b (i + 1) (j + 1) ≠ lc a b (i + 1) j) : a[i]? = b[j]? := by
  rw [lc_succ] at h1 h2
  by_cases h : a[i]? = b[j]?
  · exact h
  · rw [if_neg h] at h1 h2
    rcases Nat.le_total (lc a b (i + 1) j) (lc a b i (j + 1)) with e | e
    · rw [Nat.max_eq_right e] at h1; exact absurd rfl h1
    · rw [Nat.max_eq_left e] at h2; exact absurd rfl h2
end
end Mine

-- part Tab
namespace Mine
section
open PySem PySem.W PySem.Calls PyProof.Rows PySem.Spec
theorem Upd.mk' {d : Addr} {o o' : Obj} : ∀ {pre post : List (Addr × Obj)}, (∀ p ∈ pre, p.1 ≠ d) → (∀ p ∈ post, p.1 ≠ d) → Upd d o o' (pre ++ (d, o) :: post) (pre ++ (d, o') :: post)
  | [], _, _, h => .head h
  | p :: pre, post, h1, h2 => .tail (h1 p (.head _)) (Upd.mk' (fun q hq => h1 q (.tail _ hq)) h2)
theorem Upd.append {d : Addr} {o o' : Obj} {l l' pre post : List (Addr × Obj)} (U : Upd d o o' l l') (h1 : ∀ p ∈ pre, p.1 ≠ d) (h2 : ∀ p ∈ post, p.1 ≠ d) : Upd d o o' (pre ++ l ++ post) (pre ++ l' ++ post) := by
  obtain ⟨a, b, rfl, rfl, ha, hb⟩ := U.split
  have e : ∀ x, pre ++ (a ++ (d, x) :: b) ++ post = (pre ++ a) ++ (d, x) :: (b ++ post) := fun x => by simp
  rw [e, e]
  refine Upd.mk' (fun p hp => ?_) (fun p hp => ?_)
  · rcases List.mem_append.mp hp with hp | hp
    · exact h1 p hp
    · exact ha p hp
  · rcases List.mem_append.mp hp with hp | hp
    · exact hb p hp
    · exact h2 p hp

/-- the rows of a table, as a ledger -/
def rowsLed (N : Nat) (r : Nat → Addr) (ob : Nat → Obj) : List (Addr × Obj) := (List.range N).map fun p => (r p, ob p)
theorem rowsLed_mem {N : Nat} {r : Nat → Addr} {ob : Nat → Obj} {p : Nat} (h : p < N) : (r p, ob p) ∈ rowsLed N r ob := List.mem_map.mpr ⟨p, List.mem_range.mpr h, rfl⟩
theorem rowsLed_fst {N : Nat} {r : Nat → Addr} {ob : Nat → Obj} : (rowsLed N r ob).map (·.1) = (List.range N).map r := by unfold rowsLed; simp [List.map_map, Function.comp_def]
theorem rowsLed_upd {N : Nat} {r : Nat → Addr} {ob : Nat → Obj} {p₀ : Nat} {o' : Obj} (hp : p₀ < N) (inj : ∀ p q, p < N → q < N → r p = r q → p = q) :
    Upd (r p₀) (ob p₀) o' (rowsLed N r ob) (rowsLed N r fun p => if p = p₀ then o' else ob p) := by
  have hr : List.range N = List.range p₀ ++ p₀ :: ((List.range (N - p₀ - 1)).map fun k => p₀ + 1 + k) := by
    have : N = p₀ + (1 + (N - p₀ - 1)) := by omega
    rw [this, List.range_add, List.range_add]
    simp [List.range_one, List.map_map, Function.comp_def, Nat.add_assoc]
  unfold rowsLed
  rw [hr, List.map_append, List.map_cons, List.map_append, List.map_cons]
  have e1 : (List.range p₀).map (fun p => (r p, if p = p₀ then o' else ob p)) = (List.range p₀).map fun p => (r p, ob p) := by
    refine List.map_congr_left fun p hp => ?_
    have : p ≠ p₀ := by have := List.mem_range.mp hp; omega
    rw [if_neg this]
  have e2 : ((List.range (N - p₀ - 1)).map fun k => p₀ + 1 + k).map (fun p => (r p, if p = p₀ then o' else ob p)) = ((List.range (N - p₀ - 1)).map fun k => p₀ + 1 + k).map fun p => (r p, ob p) := by
    refine List.map_congr_left fun p hp => ?_
    obtain ⟨k, _, rfl⟩ := List.mem_map.mp hp
    rw [if_neg (by omega)]
  rw [e1, e2]
  have e3 : (fun p => if p = p₀ then o' else ob p) p₀ = o' := if_pos rfl
  rw [e3]
  refine Upd.mk' (fun q hq => ?_) (fun q hq => ?_)
  · obtain ⟨p, hp', rfl⟩ := List.mem_map.mp hq
    have hlt := List.mem_range.mp hp'
    intro e
    have := inj p p₀ (by omega) hp e
    omega
  · obtain ⟨p, hp', rfl⟩ := List.mem_map.mp hq
    obtain ⟨k, hk, rfl⟩ := List.mem_map.mp hp'
    have hlt := List.mem_range.mp hk
    intro e
    have := inj _ p₀ (by omega) hp e
    omega

/-- a made row of ints -/
def RowAt (lim : Nat) (ns : List Int) (y : Value) (h : Heap) : Prop := ∃ a vs k, y = .ref a ∧ lim ≤ a ∧ h.get? a = some (listOf vs k) ∧ IntsAre vs.toList ns
theorem RowAt.above {lim : Nat} {ns : List Int} {y : Value} {h h' : Heap} (x : RowAt lim ns y h) (k : Above lim h h') : RowAt lim ns y h' := by
  obtain ⟨a, vs, c, rfl, hl, ho, hi⟩ := x
  exact ⟨a, vs, c, rfl, hl, k a _ hl ho, hi⟩
theorem RowAt.live {lim : Nat} {ns : List Int} {y : Value} {h : Heap} (x : RowAt lim ns y h) : LiveVal h y := by
  obtain ⟨a, vs, c, rfl, hl, ho, hi⟩ := x
  intro b hb
  cases hb
  exact ⟨_, ho⟩

/-- the rows that a comprehension has made, as a ledger of functions -/
theorem rows_of {h₀ h : Heap} {L : Addr} {lim N : Nat} {g : Nat → List Int} {ys : List Value} (hL : @LT.lt Nat instLTNat L lim) (h0 : h₀.objs.size ≤ lim) (P : Paired (fun i y => RowAt lim (g i) y h) (List.range N) ys) (ap : Apart ys) :
    ∃ (r : Nat → Addr) (vs : Nat → Array Value) (k : Nat → Nat), ys = (List.range N).map (fun p => Value.ref (r p)) ∧ (∀ p q, p < N → q < N → r p = r q → p = q) ∧ (∀ p, p < N → IntsAre (vs p).toList (g p)) ∧ (∀ p, p < N → lim ≤ r p) ∧
      News h₀ L h (rowsLed N r fun p => listOf (vs p) (k p)) := by
  have len : ys.length = N := by rw [← P.length, List.length_range]
  have at' : ∀ p, p < N → ∃ x : Addr × Array Value × Nat, ys[p]? = some (.ref x.1) ∧ lim ≤ x.1 ∧ h.get? x.1 = some (listOf x.2.1 x.2.2) ∧ IntsAre x.2.1.toList (g p) := by
    intro p hp
    have key : ∀ {l₁ : List Nat} {l₂ : List Value}, Paired (fun i y => RowAt lim (g i) y h) l₁ l₂ → ∀ (p i : Nat), l₁[p]? = some i → ∃ y, l₂[p]? = some y ∧ RowAt lim (g i) y h := by
      intro l₁ l₂ P
      induction P with
      | nil => intro p i e; simp at e
      | cons hr _ ih =>
        intro p i e
        cases p with
        | zero => simp at e; subst e; exact ⟨_, rfl, hr⟩
        | succ p => simp at e; simpa using ih p i e
    obtain ⟨y, hy, a, vs, k, rfl, hl, ho, hi⟩ := key P p p (by simp [hp])
    exact ⟨(a, vs, k), hy, hl, ho, hi⟩
  let f : Nat → Addr × Array Value × Nat := fun p => if hp : p < N then (at' p hp).choose else (0, #[], 0)
  have hf : ∀ p, p < N → ys[p]? = some (.ref (f p).1) ∧ lim ≤ (f p).1 ∧ h.get? (f p).1 = some (listOf (f p).2.1 (f p).2.2) ∧ IntsAre (f p).2.1.toList (g p) := by
    intro p hp
    have := (at' p hp).choose_spec
    simp only [f, dif_pos hp]
    exact this
  refine ⟨fun p => (f p).1, fun p => (f p).2.1, fun p => (f p).2.2, ?_, ?_, fun p hp => (hf p hp).2.2.2, fun p hp => (hf p hp).2.1, ?_⟩
  · apply List.ext_getElem?
    intro p
    by_cases hp : p < N
    · rw [(hf p hp).1]; simp [hp]
    · rw [List.getElem?_eq_none (by omega), List.getElem?_eq_none (by simp; omega)]
  · intro p q hp hq e
    have hp' : p < ys.length := by omega
    have hq' : q < ys.length := by omega
    have ep : ys[p] = .ref (f p).1 := by have := (hf p hp).1; rw [List.getElem?_eq_getElem hp'] at this; exact Option.some.inj this
    have eq' : ys[q] = .ref (f q).1 := by have := (hf q hq).1; rw [List.getElem?_eq_getElem hq'] at this; exact Option.some.inj this
    have e : (f p).1 = (f q).1 := e
    rcases Nat.lt_trichotomy p q with h1 | h1 | h1
    · exact absurd (eq'.trans (by rw [e])) ((List.pairwise_iff_getElem.mp ap) p q hp' hq' h1 _ ep)
    · exact h1
    · exact absurd (ep.trans (by rw [e])) ((List.pairwise_iff_getElem.mp ap) q p hq' hp' h1 _ eq')
  · intro q hq
    obtain ⟨p, hp, rfl⟩ := List.mem_map.mp hq
    have hp := List.mem_range.mp hp
    have hh := hf p hp
    exact ⟨hh.2.2.1, Nat.ne_of_gt (Nat.lt_of_lt_of_le hL hh.2.1), Heap.get?_none_of_le (Nat.le_trans h0 hh.2.1)⟩


theorem ki_setL_lt : ∀ {l : List Value} {k : Nat} {v : Value}, k < l.length → ki_setL l k v = some (l.set k v)
  | [], _, _, h => by simp at h
  | x :: r, 0, v, _ => rfl
  | x :: r, k + 1, v, h => by
    unfold ki_setL
    rw [ki_setL_lt (l := r) (by simpa using h)]
    simp
theorem ints_set : ∀ {vs : List Value} {ns : List Int} {q : Nat} {z : Int} {t : Tok}, IntsAre vs ns → IntsAre (vs.set q (.int z t)) (ns.set q z)
  | _, _, _, _, _, .nil => by simpa using IntsAre.nil
  | _, _, 0, z, t, .cons n u r => .cons z t r
  | _, _, q + 1, z, t, .cons n u r => .cons n u (ints_set r)
theorem range_map_set {M q : Nat} {f : Nat → Int} {z : Int} : ((List.range M).map f).set q z = (List.range M).map fun p => if p = q then z else f p := by
  apply List.ext_getElem?
  intro i
  by_cases hi : i < M
  · rw [List.getElem?_set]
    by_cases e : q = i
    · subst e; simp [hi]
    · have e' : ¬ i = q := fun x => e x.symm
      simp [hi, e, e']
  · rw [List.getElem?_eq_none (by simp; omega), List.getElem?_eq_none (by simp; omega)]
theorem ints_zeros (n : Nat) (t : Tok) : IntsAre (List.replicate n [Value.int 0 t]).flatten (List.replicate n 0) := by
  induction n with
  | zero => exact .nil
  | succ n ih => simpa [List.replicate_succ] using IntsAre.cons 0 t ih

section
variable {prog : Program} {w : World} {A : Around} {s : Shared} {E : Value → Shared → Prop} {h₀ : Heap} {L : Addr} {m : Str → Option Value} {news : List (Addr × Obj)}
theorem read_ref {value slice : Expr} {l : Addr} {vs : Array Value} {c k : Nat} {z : Int} {u : Tok} {v : Value} {Q : Value → Shared → Prop} (N : News h₀ L s.heap news) (hm : (l, listOf vs c) ∈ news) (hz : z = k) (hk : k < 1000000) (hx : vs.toList[k]? = some v) (h : Q v s)
    (hs : subscripted slice false (.ref l) (.int z u) = operate [.ref l, .int z u] (getItem (.ref l) (.int z u)) := by with_unfolding_all rfl) (hg : ∀ r, letTemporaryGo value (.ref l) r = pure () := by intro _; with_unfolding_all rfl) :
    wpAny (model prog w) A (subscriptTail value slice (.ref l) (.int z u)) Q E s := by
  refine item_list (N.isList hm) (by omega) (by omega) ?_ h hs hg
  subst hz
  simpa using hx
theorem read_refR {value slice : Expr} {l : Addr} {vs : Array Value} {c k : Nat} {z : Int} {u : Tok} {v : Value} {Q : Value → Shared → Prop} (N : News h₀ L s.heap news) (hm : (l, listOf vs c) ∈ news) (hz : z = k) (hk : k < 1000000) (hx : vs.toList[k]? = some v) (h : Q v s)
    (hs : subscripted slice false (.ref l) (.int z u) = operate [.ref l, .int z u] (getItem (.ref l) (.int z u)) := by with_unfolding_all rfl) :
    wpAny (model prog w) A (subscriptTail value slice (.ref l) (.int z u)) Q E s := by
  refine item_listR (N.isList hm) (by omega) (by omega) ?_ h hs
  subst hz
  simpa using hx
theorem read_int {value slice : Expr} {l : Addr} {vs : Array Value} {c k M : Nat} {f : Nat → Int} {z : Int} {u : Tok} {Q : Value → Shared → Prop} (N : News h₀ L s.heap news) (hm : (l, listOf vs c) ∈ news) (hi : IntsAre vs.toList ((List.range M).map f)) (hz : z = k) (hk : k < 1000000) (hM : k < M) (h : ∀ t, Q (.int (f k) t) s)
    (hs : subscripted slice false (.ref l) (.int z u) = operate [.ref l, .int z u] (getItem (.ref l) (.int z u)) := by with_unfolding_all rfl) :
    wpAny (model prog w) A (subscriptTail value slice (.ref l) (.int z u)) Q E s := by
  obtain ⟨t, ht⟩ := hi.get k (f k) (by simp [hM])
  exact read_refR N hm hz hk ht (h t) hs
theorem upd_tab {own fix : List (Addr × Obj)} {n : Nat} {r : Nat → Addr} {ob : Nat → Obj} {p : Nat} {o' : Obj} (hp : p < n) (inj : ∀ p q, p < n → q < n → r p = r q → p = q) (h1 : ∀ q ∈ own, q.1 ≠ r p) (h2 : ∀ q ∈ fix, q.1 ≠ r p) :
    Upd (r p) (ob p) o' (own ++ (fix ++ rowsLed n r ob)) (own ++ (fix ++ rowsLed n r fun i => if i = p then o' else ob i)) := by
  have U := Upd.append (pre := own ++ fix) (post := []) (rowsLed_upd (ob := ob) (o' := o') hp inj) (fun q hq => by
    rcases List.mem_append.mp hq with hq | hq
    · exact h1 q hq
    · exact h2 q hq) (fun _ hq => nomatch hq)
  simpa using U
theorem set_tab {own fix : List (Addr × Obj)} {n : Nat} {r : Nat → Addr} {ob : Nat → Obj} {p q : Nat} {vs : Array Value} {c : Nat} {z : Int} {u : Tok} {v : Value} {Q : Unit → Shared → Prop} (F : Fr h₀ L s.heap m) (N : News h₀ L s.heap (own ++ (fix ++ rowsLed n r ob)))
    (hp : p < n) (inj : ∀ p q, p < n → q < n → r p = r q → p = q) (h1 : ∀ q ∈ own, q.1 ≠ r p) (h2 : ∀ q ∈ fix, q.1 ≠ r p) (ho : ob p = listOf vs c) (hz : z = q) (hq : q < vs.toList.length) (hq1 : q < 1000000)
    (h : ∀ h', Fr h₀ L h' m → News h₀ L h' (own ++ (fix ++ rowsLed n r fun i => if i = p then listOf (vs.toList.set q v).toArray c else ob i)) → Q () { s with heap := h' }) :
    wpAny (model prog w) A (setItem (.ref (r p)) (.int z u) v) Q E s := by
  subst hz
  refine ki_set (n := c) F N (by omega) (by omega) (ki_setL_lt hq) ?_ h
  rw [← ho]
  exact upd_tab hp inj h1 h2
end
theorem sign_at {x : Str} {i : Nat} {a : Str} (h : (signs x)[i]? = some a) : i < x.length ∧ a = ⟨#[x.cps.getD i 0]⟩ ∧ x.cps.toList[i]? = some (x.cps.getD i 0) := by
  have hl : i < (signs x).length := by
    cases q : decide (i < (signs x).length) with
    | true => exact of_decide_eq_true q
    | false => rw [List.getElem?_eq_none (by have := of_decide_eq_false q; omega)] at h; cases h
  have hx : i < x.cps.size := by have : i < x.length := (by simpa [signs_length] using hl); exact this
  have hc : x.cps[i]? = some x.cps[i] := Array.getElem?_eq_getElem hx
  have := signs_get hc
  rw [h] at this
  refine ⟨hx, ?_, ?_⟩
  · rw [Option.some.inj this]; simp [Array.getD_eq_getD_getElem?, hx]
  · simp [Array.getD_eq_getD_getElem?, hx]
theorem sign_lt {x : Str} {i : Nat} {a : Str} (h : (signs x)[i]? = some a) : i < x.length := (sign_at h).1
def setRow (vs : Nat → Array Value) (p₀ q : Nat) (v : Value) (p : Nat) : Array Value := if p = p₀ then ((vs p₀).toList.set q v).toArray else vs p
theorem set_rows {prog : Program} {w : World} {A : Around} {s : Shared} {E : Value → Shared → Prop} {h₀ : Heap} {L : Addr} {m : Str → Option Value} {own fix : List (Addr × Obj)} {n M : Nat} {r : Nat → Addr} {vs : Nat → Array Value} {kk : Nat → Nat} {g : Nat → Nat → Int} {p q : Nat} {z : Int} {u : Tok} {v : Value} {Q : Unit → Shared → Prop} (F : Fr h₀ L s.heap m) (N : News h₀ L s.heap (own ++ (fix ++ rowsLed n r fun p => listOf (vs p) (kk p))))
    (hrow : ∀ p, p < n → IntsAre (vs p).toList ((List.range M).map fun q => g p q)) (hp : p < n) (inj : ∀ p q, p < n → q < n → r p = r q → p = q) (h1 : ∀ q ∈ own, q.1 ≠ r p) (h2 : ∀ q ∈ fix, q.1 ≠ r p) (hz : z = q) (hq : q < M) (hq1 : q < 1000000)
    (h : ∀ h', Fr h₀ L h' m → News h₀ L h' (own ++ (fix ++ rowsLed n r fun i => listOf (setRow vs p q v i) (kk i))) → Q () { s with heap := h' }) :
    wpAny (model prog w) A (setItem (.ref (r p)) (.int z u) v) Q E s := by
  refine set_tab F N hp inj h1 h2 rfl hz (by rw [(hrow p hp).length]; simpa using hq) hq1 fun h' F' N' => h h' F' ?_
  have e : (fun i => if i = p then listOf ((vs p).toList.set q v).toArray (kk p) else listOf (vs i) (kk i)) = fun i => listOf (setRow vs p q v i) (kk i) := by
    funext i
    unfold setRow
    by_cases hi : i = p
    · subst hi; simp
    · simp [hi]
  rw [e] at N'
  exact N'
theorem rows_set {n M : Nat} {vs : Nat → Array Value} {g : Nat → Nat → Int} {p₀ q₀ : Nat} {z : Int} {t : Tok} (hrow : ∀ p, p < n → IntsAre (vs p).toList ((List.range M).map fun q => g p q)) (hp : p₀ < n) :
    ∀ p, p < n → IntsAre (setRow vs p₀ q₀ (.int z t) p).toList ((List.range M).map fun q => if p = p₀ ∧ q = q₀ then z else g p q) := by
  intro p hp'
  unfold setRow
  by_cases e : p = p₀
  · subst e
    simp only [if_true, true_and]
    have := ints_set (q := q₀) (z := z) (t := t) (hrow p hp)
    rw [range_map_set] at this
    exact this
  · simp only [e, if_false, false_and]
    exact hrow p hp'
theorem signs_beq {x y : Str} {i j : Nat} {a b : Str} (ha : (signs x)[i]? = some a) (hb : (signs y)[j]? = some b) : (a == b) = decide (x.cps.toList[i]? = y.cps.toList[j]?) := by
  obtain ⟨_, rfl, e1⟩ := sign_at ha
  obtain ⟨_, rfl, e2⟩ := sign_at hb
  rw [one_beq, e1, e2]
  simp
theorem read_str {prog : Program} {w : World} {A : Around} {s : Shared} {E : Value → Shared → Prop} {value slice : Expr} {x : Str} {t u : Tok} {z : Int} {k : Nat} {Q : Value → Shared → Prop} (hz : z = k) (hk : k < x.length) (hk1 : k < 1000000)
    (h : Q (.str ⟨#[x.cps.getD k 0]⟩ s.toks) { s with toks := s.toks + 1 })
    (hs : subscripted slice false (.str x t) (.int z u) = operate [.str x t, .int z u] (getItem (.str x t) (.int z u)) := by with_unfolding_all rfl)
    (ht : ∀ r, letTemporaryGo value (.str x t) r = pure () := by intro _; with_unfolding_all rfl) :
    wpAny (model prog w) A (subscriptTail value slice (.str x t) (.int z u)) Q E s := by
  subst hz
  refine PyProof.Rows.item_str (fitsSsize_of (N := 9223372036854775808) (by omega) (by omega) (Int.le_refl _)) (by omega) (by omega) (fun _ => ?_) hs ht
  rw [item_nat hk]
  exact h
end
end Mine

-- part SetStr
namespace Mine
section
open PySem PySem.W PySem.Calls PyProof.Rows PySem.Spec
/-- the texts met so far, each once -/
def metStep (σ : List Str) (v : Str) : List Str := if σ.any (· == v) then σ else σ ++ [v]
def met (ks : List Str) (i : Nat) : List Str := (ks.take i).foldl metStep []
theorem met_succ {ks : List Str} {i : Nat} {v : Str} (h : ks[i]? = some v) : met ks (i + 1) = metStep (met ks i) v := by
  unfold met
  rw [List.take_add_one, h, List.foldl_append]
  rfl
theorem metStep_any (σ : List Str) (v k : Str) : (metStep σ v).any (· == k) = (σ.any (· == k) || decide (k = v)) := by
  unfold metStep
  by_cases h : σ.any (· == v) = true
  · rw [if_pos h]
    by_cases e : k = v
    · subst e; rw [h]; simp
    · simp [e]
  · rw [if_neg h, List.any_append]
    by_cases e : k = v
    · subst e; simp
    · have hb : (v == k) = false := by simpa [beq_iff_eq] using (fun h' : v = k => e h'.symm)
      simp [hb, e]
theorem metStep_length (σ : List Str) (v : Str) : (metStep σ v).length = if σ.any (· == v) then σ.length else σ.length + 1 := by
  unfold metStep; split <;> simp
theorem met_len (ks : List Str) (i : Nat) : (met ks i).length ≤ i := by
  induction i with
  | zero => unfold met; simp
  | succ i ih =>
    cases h : ks[i]? with
    | none =>
      unfold met at ih ⊢
      rw [List.take_add_one, h]
      simpa using Nat.le_succ_of_le ih
    | some v =>
      rw [met_succ h, metStep_length]
      split <;> omega

section
variable {prog : Program} {w : World} {A : Around} {R : Result → Shared → Prop} {I : Addr} {fp wr : List Addr} {G : Array GenState → Array GenState → Prop} {P : Nat → Value → Prop} {St : Nat → Shared → Prop}
theorem set_loopS {ks : List Str} (W : WalksS prog w A.in1 I fp wr G ks.length P St) (S : Addr) (hSf : S ∉ fp)
    (hval : ∀ i v, P i v → ∃ y t, v = .str y t ∧ ks[i]? = some y) (hb : ks.length + 1 < scanBound) :
    ∀ (k i : Nat) (s : Shared), ks.length - i = k → i ≤ ks.length → St i s →
      s.heap.SetOf (strKind prog w) S (fun k' => (met ks i).any (· == k')) (met ks i).length →
      (∀ s', Moved (S :: wr) G s s' → s'.heap.SetOf (strKind prog w) S (fun k' => (met ks ks.length).any (· == k')) (met ks ks.length).length → R (.ok (.ret .none)) s') →
      codeAny (model prog w) A (.builtin "set.update.loop" ⟨[.ref S, .ref I], []⟩) R s := by
  have hSw : S ∉ wr := fun h => hSf (W.sub _ h)
  have hsub : ∀ b ∈ wr, b ∈ S :: wr := fun b hb => List.mem_cons_of_mem _ hb
  intro k
  induction k with
  | zero =>
    intro i s hk hi hst hS hR
    have hin : i = ks.length := by omega
    subst hin
    refine codeAny_builtin F.entry_set_update_loop ?_
    rw [Around.under_plainId F.plain_set_update_loop _]
    show wpAny _ A.in1 (pyNext (.ref I) >>= _) _ _ s
    refine wpAny_bind (W.done s _ _ hst fun s' hm => ?_)
    show wpAny _ A.in1 (ret Value.none) _ _ s'
    exact wpAny_pure (hR s' (hm.mono hsub) (by
      obtain ⟨o, es, ep, t, ho, rest⟩ := hS
      exact ⟨o, es, ep, t, hm.heap S _ hSw ho, rest⟩))
  | succ k ih =>
    intro i s hk hi hst hS hR
    have hlt : i < ks.length := by omega
    refine codeAny_builtin F.entry_set_update_loop ?_
    rw [Around.under_plainId F.plain_set_update_loop _]
    show wpAny _ A.in1 (pyNext (.ref I) >>= _) _ _ s
    refine wpAny_bind (W.item i s _ _ hlt hst fun v s' hP hst' hm => ?_)
    obtain ⟨y, t, rfl, hy⟩ := hval i v hP
    have hS' : s'.heap.SetOf (strKind prog w) S (fun k' => (met ks i).any (· == k')) (met ks i).length := by
      obtain ⟨o, es, ep, tb, ho, rest⟩ := hS
      exact ⟨o, es, ep, tb, hm.heap S _ hSw ho, rest⟩
    show wpAny _ A.in1 (holding [Value.str y t] (setAdd S (.str y t)) >>= _) _ _ s'
    refine wpAny_bind (wpAny_holding ?_)
    unfold setAdd
    refine wpAny_holding ?_
    have hkey : (strKind prog w).is y (.str y t) = true := by simp [PySem.strKind, Value.isStrOf]
    refine wpAny_bind ((strKind prog w).pyHash (k := y) hkey ?_)
    have hroom : (met ks i).length + 1 < scanBound := by have := met_len ks i; omega
    refine wpAny_setAddHashed_of (knd := strKind prog w) (s := { s' with toks := s'.toks + 1 }) hkey rfl hS' hroom fun h' hsb hS2 => ?_
    have hSi : h'.SetOf (strKind prog w) S (fun k' => (met ks (i + 1)).any (· == k')) (met ks (i + 1)).length :=
      SetOf_congr hS2 (fun k' => by rw [met_succ hy, metStep_any]) (by rw [met_succ hy, metStep_length])
    refine wpAny_pure ⟨plainId_quiet F.plain_set_update_loop _, ih (i + 1) _ (by omega) hlt (W.frame _ s' _ _ hst' (Nat.le_succ _) fun b hb o e => ?_) hSi fun s'' hm'' hS'' => ?_⟩
    · rw [hsb.2 b (fun h : b = S => hSf (by rw [← h]; exact hb))]; exact e
    · refine hR s'' (Moved.trans W.gtrans ((hm.mono hsub).then_heap (Nat.le_succ _) fun b o hb e => ?_) hm'') hS''
      rw [hsb.2 b (fun h : b = S => hb (by rw [h]; exact List.mem_cons_self))]; exact e
end

theorem sub_tuple_set : isSubtype (.type "tuple") (.type "set") = pure false := by rw [isSubtype_type]; kernel_rfl
theorem sub_tuple_frozenset : isSubtype (.type "tuple") (.type "frozenset") = pure false := by rw [isSubtype_type]; kernel_rfl

section
variable {prog : Program} {w : World} {A : Around} {E : Value → Shared → Prop} {s : Shared}
/-- set(t) of a tuple of texts -/
theorem set_tuple {l : Addr} {items : Array Value} {ks : List Str} {Q : Value → Shared → Prop}
    (hh : A.handled = none) (hl : s.heap.IsTuple l items) (hi : StrsAre items.toList ks) (hb : ks.length + 1 < scanBound)
    (h : ∀ (h' : Heap) (tk : Nat), h'.SetOf (strKind prog w) s.heap.objs.size (fun k' => (met ks ks.length).any (· == k')) (met ks ks.length).length →
      (∀ b o, b < s.heap.objs.size → s.heap.get? b = some o → h'.get? b = some o) → Q (.ref s.heap.objs.size) { s with heap := h', toks := tk }) :
    wpAny (model prog w) A (call (.type "set") [.ref l]) Q E s := by
  obtain ⟨c, tl, hmro⟩ := F.called_set.mro
  have hmade := F.called_set.made
  have hsub := F.called_set.sub
  refine wpAny_call (codeAny_of_tree ?_)
  show wpAny _ _ (callAny (.type "set") _) _ _ _
  refine wpAny_pure ⟨Code.quiet_builtin _ (by decide +kernel), codeAny_builtin F.entry_type_call ?_⟩
  rw [Around.under_plain (weight_type_call_type "set" [.ref l] []) rfl]
  have h1 := F.called_set.notType
  have h2 := F.called_set.canCreate
  have hct := F.typeCall_set_1 (.ref l)
  wp_delta; (with_reducible apply PySem.wpAny_ite_false); rfl; (with_reducible apply PySem.wpAny_ite_false); rfl; (with_reducible refine PySem.wpAny_bind ?_)
  (with_reducible refine PySem.wpAny_of_eq (by assumption) ?_); (with_reducible refine PySem.wpAny_bind ?_); (with_reducible refine PySem.wpAny_of_eq (by assumption) ?_); (with_reducible apply PySem.wpAny_ite_false); rfl
  (with_reducible refine PySem.wpAny_bind ?_); (with_reducible refine PySem.wpAny_of_eq (by assumption) ?_); (with_reducible refine PySem.wpAny_bind ?_); (with_reducible refine PySem.wpAny_pure ?_)
  (with_reducible refine PySem.wpAny_bind ?_); (with_reducible refine PySem.wpAny_holding ?_); (with_reducible refine PySem.wpAny_call ?_)
  refine codeAny_mono (code_set_new_1 (.ref l) (E := E) (Q₁ := fun obj s₁ => ∃ led : Bool, obj = .ref s.heap.objs.size ∧ s₁ = { s with heap := s.heap.push { cls := .type "set", dict := none, data := .set #[] 0 (.fresh 0 0 led) } }) fun led => ⟨led, rfl, rfl⟩) fun r s₁ hr => ?_
  cases r with
  | error e => exact hr
  | ok fl =>
    cases fl with
    | ret obj =>
      obtain ⟨led, rfl, rfl⟩ := hr
      have hS : (s.heap.push { cls := .type "set", dict := none, data := .set #[] 0 (.fresh 0 0 led) }).get? s.heap.objs.size = some { cls := .type "set", dict := none, data := .set #[] 0 (.fresh 0 0 led) } := Heap.get?_push_size _ rfl
      have hT : Shared.TypeIs { s with heap := s.heap.push { cls := .type "set", dict := none, data := .set #[] 0 (.fresh 0 0 led) } } (.ref s.heap.objs.size) "set" := ⟨_, hS, rfl⟩
      have hli := F.called_set.init.lookup
      have hbi := F.called_set.init.bind (.ref s.heap.objs.size)
      (with_reducible refine PySem.wpAny_bind ?_); (with_reducible refine PySem.wpAny_isInstance (by assumption) (by assumption) ?_); (with_reducible apply PySem.wpAny_ite_false); rfl; (with_reducible refine PySem.wpAny_bind ?_)
      (with_reducible refine PySem.wpAny_holding ?_); wp_delta; (with_reducible refine PySem.wpAny_bind ?_); (with_reducible refine PySem.wpAny_specialOf (by assumption) (by assumption) ?_)
      (with_reducible refine PySem.wpAny_holding ?_); (with_reducible refine PySem.wpAny_bind ?_); (with_reducible refine PySem.wpAny_of_eq (by assumption) ?_); (with_reducible refine PySem.wpAny_bind ?_)
      (with_reducible refine PySem.wpAny_call ?_)
      refine codeAny_mono (codeAny_call_builtin (R := wants (fun r s₂ => r = .none ∧ ∃ h' tk, s₂ = { s with heap := h', toks := tk } ∧
          h'.SetOf (strKind prog w) s.heap.objs.size (fun k' => (met ks ks.length).any (· == k')) (met ks ks.length).length ∧
          (∀ b o, b < s.heap.objs.size → s.heap.get? b = some o → h'.get? b = some o)) E) F.called_set.init.plain F.entry_set_init (check_set_init_1 hT ?_)) fun r₂ s₂ hr₂ => ?_
      · obtain ⟨ol, hol, hcl, nl, hdl⟩ := hl
        obtain ⟨ocls, odict, odata, oslots⟩ := ol
        simp only at hcl hdl
        subst hcl; subst hdl
        have hol' : (s.heap.push { cls := .type "set", dict := none, data := .set #[] 0 (.fresh 0 0 led) }).get? l = some { cls := .type "tuple", dict := odict, data := .seq items nl, slots := oslots } := Heap.get?_push_of_some _ hol
        have hsls := sub_tuple_set
        have hslf := sub_tuple_frozenset
        have hne : (Value.type "tuple" == Value.type "dict") = false := by decide
        have hl1 : (s.heap.push { cls := .type "set", dict := none, data := .set #[] 0 (.fresh 0 0 led) }).IsTuple l items := ⟨_, hol', rfl, nl, rfl⟩
        unfold Builtin.«set.__init__» noKeywords Builtin.Frozenset.updateFrom
        generalize hPI : pyIter = PI
        (with_reducible refine PySem.wpAny_bind ?_); (with_reducible apply PySem.wpAny_ite_true); rfl; (with_reducible refine PySem.wpAny_pure ?_); wp_delta
        (with_reducible refine PySem.wpAny_bind ?_); wp_delta; (with_reducible refine PySem.wpAny_bind ?_); wp_delta
        (with_reducible refine PySem.wpAny_bind ?_); (with_reducible refine PySem.wpAny_typeOf (by assumption) ?_); (with_reducible apply PySem.wpAny_ite_false); rfl; (with_reducible refine PySem.wpAny_pure ?_)
        wp_delta; wp_delta; (with_reducible refine PySem.wpAny_pure ?_); (with_reducible refine PySem.wpAny_bind ?_)
        wp_delta; (with_reducible apply PySem.wpAny_ite_false); rfl; (with_reducible apply PySem.wpAny_ite_false); rfl; (with_reducible apply PySem.wpAny_ite_false); rfl
        (with_reducible refine PySem.wpAny_pure ?_); (with_reducible refine PySem.wpAny_bind ?_); wp_delta; (with_reducible refine PySem.wpAny_pure ?_)
        (with_reducible refine PySem.wpAny_bind ?_); wp_delta; (with_reducible refine PySem.wpAny_bind ?_); wp_delta
        (with_reducible refine PySem.wpAny_bind ?_); (with_reducible apply PySem.wpAny_load'); heap_get; (with_reducible apply PySem.wpAny_ite_false); rfl; (with_reducible refine PySem.wpAny_pure ?_)
        (with_reducible refine PySem.wpAny_pure ?_); (with_reducible apply PySem.wpAny_ite_false); rfl; wp_delta; (with_reducible refine PySem.wpAny_bind ?_)
        (with_reducible refine PySem.wpAny_bind ?_); wp_delta; wp_delta; (with_reducible refine PySem.wpAny_bind ?_)
        wp_delta; (with_reducible refine PySem.wpAny_bind ?_); wp_delta; (with_reducible refine PySem.wpAny_bind ?_)
        (with_reducible apply PySem.wpAny_loadPart'); heap_get; (with_reducible refine PySem.wpAny_pure ?_); (with_reducible refine PySem.wpAny_of_eq (by assumption) ?_); wp_delta
        wp_delta; (with_reducible refine PySem.wpAny_bind ?_); wp_delta; (with_reducible refine PySem.wpAny_bind ?_)
        (with_reducible apply PySem.wpAny_loadPart'); heap_get; (with_reducible refine PySem.wpAny_pure ?_); (with_reducible refine PySem.wpAny_of_eq (by assumption) ?_); (with_reducible apply PySem.wpAny_ite_false); rfl
        (with_reducible refine PySem.wpAny_bind ?_); wp_delta; (with_reducible refine PySem.wpAny_bind ?_); (with_reducible apply PySem.wpAny_loadPart'); heap_get
        (with_reducible refine PySem.wpAny_pure ?_); (with_reducible apply PySem.wpAny_ite_false); rfl; (with_reducible refine PySem.wpAny_bind ?_)
        subst hPI
        refine wpAny_pyIter_tuple hl1 ?_
        refine wpAny_bind (wpAny_runValue ?_)
        have hlS : l < s.heap.objs.size := Heap.lt_size hol
        have hh3 : A.in1.in1.in1.handled = none := by simp [hh]
        have hneI : l ≠ (s.heap.push { cls := .type "set", dict := none, data := .set #[] 0 (.fresh 0 0 led) }).objs.size := by
          rw [Heap.size_push]; exact Nat.ne_of_lt (Nat.lt_succ_of_lt hlS)
        have hSf : s.heap.objs.size ∉ [(s.heap.push { cls := .type "set", dict := none, data := .set #[] 0 (.fresh 0 0 led) }).objs.size, l] := by
          rw [Heap.size_push]; simp only [List.mem_cons, List.mem_singleton, List.not_mem_nil, or_false, not_or]
          exact ⟨Nat.ne_of_lt (Nat.lt_succ_self _), Nat.ne_of_gt hlS⟩
        have hval : ∀ (i : Nat) (v : Value), items[i]? = some v → ∃ y t, v = .str y t ∧ ks[i]? = some y := fun i v hv =>
          StrsAre.item hi i v (by rw [Array.getElem?_toList]; exact hv)
        have hlen : ks.length = items.size := by have := StrsAre.len_eq hi; simpa using this.symm
        have WS : WalksS prog w A.in1.in1.in1 (s.heap.push { cls := .type "set", dict := none, data := .set #[] 0 (.fresh 0 0 led) }).objs.size _ _ _ ks.length _ _ := hlen ▸ (Walks.tuple hh3 _ l hneI items).toS
        refine set_loopS WS s.heap.objs.size
          hSf hval hb (ks.length - 0) 0 _ (by omega) (Nat.zero_le _)
          ⟨⟨_, Heap.get?_push_size _ rfl, rfl, rfl⟩, ?hT0⟩ ?hS0 ?hR
        case hT0 => exact ⟨_, Heap.get?_push_of_some _ hol', rfl, nl, rfl⟩
        case hS0 =>
          have hget : ((s.heap.push { cls := .type "set", dict := none, data := .set #[] 0 (.fresh 0 0 led) }).push { cls := .type "tuple_iterator", data := .fields #[.ref l, .int 0 0] }).get? s.heap.objs.size
              = some { cls := .type "set", dict := none, data := .set #[] 0 (.fresh 0 0 led) } := Heap.get?_push_of_some _ hS
          exact SetOf_congr ((setObjOf_fresh (knd := strKind prog w) led).setOf hget (by unfold scanBound; omega)) (fun _ => rfl) rfl
        case hR =>
          intro s' hm hS'
          obtain ⟨h', g', d', tk', os'⟩ := s'
          have eg : g' = s.gens := hm.gens
          have ed : d' = s.drawn := hm.drawn
          have eo : os' = s.os := hm.os
          subst eg; subst ed; subst eo
          show wpAny _ _ _ _ _ _
          refine wpAny_pure ?_
          show wpAny _ _ (ret Value.none) _ _ _
          refine wpAny_pure ⟨rfl, h', tk', rfl, hS', fun b o hb e => ?_⟩
          have hb1 : b ≠ s.heap.objs.size := Nat.ne_of_lt hb
          have hb2 : b ≠ (s.heap.push { cls := .type "set", dict := none, data := .set #[] 0 (.fresh 0 0 led) }).objs.size := by
            rw [Heap.size_push]; exact Nat.ne_of_lt (Nat.lt_succ_of_lt hb)
          exact hm.heap b o (by simp only [List.mem_cons, List.mem_singleton, List.not_mem_nil, or_false, not_or]; exact ⟨hb1, hb2⟩) (Heap.get?_push_of_some _ (Heap.get?_push_of_some _ e))
      · cases r₂ with
        | error e => exact hr₂
        | ok fl₂ =>
          cases fl₂ with
          | ret r =>
            obtain ⟨rfl, h', tk, rfl, hS', hk'⟩ := hr₂
            (with_reducible refine PySem.wpAny_pure ?_); (with_reducible apply PySem.wpAny_ite_false); rfl; wp_delta; wp_delta
            (with_reducible refine PySem.wpAny_pure ?_)
            exact h _ _ hS' hk'
          | _ => exact hr₂.elim
    | _ => exact hr.elim
end
theorem set_tuple_N {prog : Program} {w : World} {A : Around} {E : Value → Shared → Prop} {s : Shared} {h₀ : Heap} {L : Addr} {m : Str → Option Value} {news : List (Addr × Obj)} {D : Addr} {vs : List Value} {ks : List Str} {Q : Value → Shared → Prop}
    (hh : A.handled = none) (F : Fr h₀ L s.heap m) (N : News h₀ L s.heap news) (hm : (D, tupObj vs) ∈ news) (hi : StrsAre vs ks) (hb : ks.length ≤ 100)
    (h : ∀ h' tk o, Fr h₀ L h' m → News h₀ L h' ((s.heap.objs.size, o) :: news) → o.SetObjOf (PySem.strKind prog w) (fun k' => (met ks ks.length).any (· == k')) (met ks ks.length).length → Q (.ref s.heap.objs.size) { s with heap := h', toks := tk }) :
    wpAny (model prog w) A (call (.type "set") [.ref D]) Q E s := by
  refine set_tuple (items := vs.toArray) (ks := ks) hh ⟨_, N.get hm, rfl, _, rfl⟩ (by simpa using hi) (by unfold scanBound; omega) fun h' tk hS hk => ?_
  obtain ⟨o, ho, hso⟩ := hS.objOf
  refine h h' tk o ⟨F.ns.at' fun o' e => hk L o' (nslt F.ns) e, fun b o' e => hk b o' (Heap.lt_size (F.keep b o' e)) (F.keep b o' e), F.above⟩ (fun p hp => ?_) hso
  rcases List.mem_cons.mp hp with rfl | hp
  · exact ⟨ho, Nat.ne_of_gt (nslt F.ns), Heap.get?_none_of_le (Nat.le_trans F.above (Nat.le_of_lt (nslt F.ns)))⟩
  · exact ⟨hk _ _ (nlt (N p hp).1) (N p hp).1, (N p hp).2⟩
theorem met_two (x y : Str) : (met [x, y] 2).length = if x = y then 1 else 2 := by
  by_cases h : x = y
  · subst h; simp [met, metStep]
  · have : (x == y) = false := by simpa using h
    simp [met, metStep, h, this]
theorem met_three (x y z : Str) : ((met [x, y, z] 3).length = 1) ↔ (x = y ∧ x = z) := by
  by_cases h : x = y
  · subst h
    by_cases h2 : x = z
    · subst h2; simp [met, metStep]
    · have : (x == z) = false := by simpa using h2
      simp [met, metStep, h2, this]
  · have h1 : (x == y) = false := by simpa using h
    by_cases h2 : x = z
    · subst h2; simp [met, metStep, h, h1]
    · have h3 : (x == z) = false := by simpa using h2
      by_cases h4 : y = z
      · subst h4; simp [met, metStep, h, h1]
      · have h5 : (y == z) = false := by simpa using h4
        simp [met, metStep, h, h1, h3, h5]
end
end Mine

-- part Loop
namespace Mine
section
open PySem PySem.W PySem.Calls PyProof.Rows PySem.Spec
section
variable {prog : Program} {w : World} {A : Around} {s : Shared} {E : Value → Shared → Prop} {h₀ : Heap} {L : Addr} {m : Str → Option Value} {news : List (Addr × Obj)}
theorem ints_at : ∀ {l : List Value} {f : Nat → Int}, (∀ (j : Nat) (v : Value), l[j]? = some v → ∃ t, v = Value.int (f j) t) → IntsAre l ((List.range l.length).map f)
  | [], _, _ => .nil
  | x :: r, f, h => by
    obtain ⟨t, rfl⟩ := h 0 x rfl
    have ih := ints_at (l := r) (f := fun j => f (j + 1)) (fun j v e => h (j + 1) v (by simpa using e))
    rw [List.length_cons, List.range_succ_eq_map, List.map_cons, List.map_map]
    exact .cons (f 0) t ih
theorem rng_fit (i : Int) (h1 : 0 ≤ i) (h2 : i ≤ 1000001) : Builtin.Range.rangeFitsLong i = true := by
  unfold Builtin.Range.rangeFitsLong
  rw [Bool.and_eq_true]
  exact ⟨decide_eq_true (by omega), decide_eq_true (by omega)⟩
theorem rng_size (a n : Nat) : Builtin.Range.rangeSize (a : Int) ((a + n : Nat) : Int) 1 = (n : Int) := by
  unfold Builtin.Range.rangeSize
  by_cases h : (a : Int) < ((a + n : Nat) : Int)
  · rw [if_pos (by decide), if_pos h]; omega
  · have : n = 0 := by omega
    subst this; simp
theorem rng_small (a n : Nat) (ha : a ≤ 1) (hn : n ≤ 1000000) : Builtin.Range.small (a : Int) ((a + n : Nat) : Int) 1 = true := by
  unfold Builtin.Range.small
  rw [rng_size, rng_fit a (by omega) (by omega), rng_fit ((a + n : Nat) : Int) (by omega) (by omega), rng_fit 1 (by omega) (by omega)]
  rw [if_pos (by decide), rng_fit (((a + n : Nat) : Int) + (1 - 1)) (by omega) (by omega)]
  simp
  exact rng_fit n (by omega) (by omega)
/-- range(1, k) and an iterator over it -/
theorem range1_it {Q : Value → Shared → Prop} {k : Int} {t u : Tok} {n : Nat} (hh : A.handled = none) (F : Fr h₀ L s.heap m) (N : News h₀ L s.heap news) (hn : k = ((1 + n : Nat) : Int)) (hk : n ≤ 1000000)
    (h : ∀ I St h' tk, Fr h₀ L h' m → News h₀ L h' news → Src prog w A h₀ L news I [I] n (fun i v => ∃ t, v = .int (1 + (i : Int)) t) St h' → (∀ i h, St i h → ∃ o, h.get? I = some o) → Q (.ref I) { s with heap := h', toks := tk }) :
    wpAny (model prog w) A (call (.type "range") [.int 1 t, .int k u]) (fun xv s₁ => wpAny (model prog w) A (pyIter xv) Q E s₁) E s := by
  subst hn
  refine call_range_2 ?_
  generalize hR : ({ cls := .type "range", data := .fields #[.int 1 t, .int ((1 + n : Nat) : Int) u, .int 1 s.toks] } : Obj) = R
  have hf : R.isFreed = false := by subst hR; rfl
  have F1 := F.push R
  have N1 := N.push F R hf
  have hr : IsRange (s.heap.push R) s.heap.objs.size 1 ((1 + n : Nat) : Int) 1 t u s.toks := by rw [← hR]; exact Heap.get?_push_size _ rfl
  refine wpAny_pyIter_range (a := 1) (b := ((1 + n : Nat) : Int)) (c := 1) hr (rng_small 1 n (Nat.le_refl _) hk) ?_
  have hsz : Builtin.Range.rangeSize 1 ((1 + n : Nat) : Int) 1 = (n : Int) := rng_size 1 n
  rw [hsz]
  refine h (s.heap.push R).objs.size (fun i h => IsRangeIter h (s.heap.push R).objs.size (1 + (i : Nat) * 1) ((n : Int) - (i : Nat)) 1) _ _ (F1.push _) (fun p hp => (N1.push F1 _) p (.tail _ (.tail _ hp))) ⟨?_, ?_, ?_, ?_, ?_, ?_⟩ (fun i h st => ⟨_, st⟩)
  · have W := Walks.range (prog := prog) (w := w) (A := A) hh (s.heap.push R).objs.size 1 1 n
    have e : (fun (i : Nat) v => ∃ t, v = Value.int (1 + (i : Int) * 1) t) = fun (i : Nat) v => ∃ t, v = Value.int (1 + (i : Int)) t := by
      funext i v
      have : (1 + (i : Int) * 1) = 1 + (i : Int) := by omega
      rw [this]
    rw [e] at W
    exact W
  · intro b hb
    rw [List.mem_singleton.mp hb]
    exact Nat.lt_of_lt_of_le (Nat.lt_succ_self _) (Nat.le_of_eq (Heap.size_push _ _).symm)
  · have : (1 : Int) + ((0 : Nat) : Int) * 1 = 1 := by omega
    show IsRangeIter _ _ _ _ _
    rw [this]
    have e2 : (n : Int) - ((0 : Nat) : Int) = n := by omega
    rw [e2]
    exact Heap.get?_push_size _ rfl
  · intro hm
    exact Nat.ne_of_lt (nslt F1.ns) (List.mem_singleton.mp hm)
  · exact next_is_new F1
  · intro q hq
    exact Nat.ne_of_lt (nlt (N1 q (.tail _ hq)).1)

theorem mk_range {Q : Value → Shared → Prop} {k : Int} {t : Tok} (F : Fr h₀ L s.heap m) (N : News h₀ L s.heap news)
    (h : ∀ h', Fr h₀ L h' m → News h₀ L h' ((s.heap.objs.size, rngObj k s.toks t (s.toks + 1)) :: news) → Q (.ref s.heap.objs.size) { s with heap := h', toks := s.toks + 1 + 1 }) :
    wpAny (model prog w) A (call (.type "range") [.int k t]) Q E s :=
  call_range_1 (h _ (F.push _) (N.push F _))
/-- list(range(k)) -/
theorem list_range_ints {Q : Value → Shared → Prop} {k : Int} {r : Addr} {t t1 t2 : Tok} {n : Nat} (hh : A.handled = none) (F : Fr h₀ L s.heap m) (N : News h₀ L s.heap news) (hm : (r, rngObj k t1 t t2) ∈ news) (hn : k = n) (hk : n ≤ 1000000)
    (h : ∀ h' tk (vs : Array Value) c, Fr h₀ L h' m → News h₀ L h' ((s.heap.objs.size, listOf vs c) :: news) → IntsAre vs.toList ((List.range n).map fun (q : Nat) => (q : Int)) → Q (.ref s.heap.objs.size) { s with heap := h', toks := tk }) :
    wpAny (model prog w) A (call (.type "list") [.ref r]) Q E s := by
  subst hn
  have hr : IsRange s.heap r 0 (n : Int) 1 t1 t t2 := (N _ hm).1
  have e0 : ((0 + n : Nat) : Int) = (n : Int) := by omega
  refine call_list_range hh hr (by have := rng_small 0 n (Nat.zero_le _) hk; rw [e0] at this; exact this) (n := n) (by have := rng_size 0 n; rw [e0] at this; exact this) (by omega) ?_
  intro h' tk acc' c' hk' ho hi
  refine h h' tk acc' c' (F.keeps hk') (fun q hq => ?_) ?_
  · rcases List.mem_cons.mp hq with rfl | hq
    · exact ⟨ho, Nat.ne_of_gt (nslt F.ns), next_is_new F⟩
    · exact N.keeps hk' q hq
  · obtain ⟨hs, hi⟩ := hi
    have := ints_at (l := acc'.toList) (f := fun (q : Nat) => (q : Int)) (fun j v e => by
      obtain ⟨t, rfl⟩ := hi j v (by simpa using e)
      exact ⟨t, by congr 1; omega⟩)
    simpa [hs] using this
theorem mul_zero {l : Addr} {t0 u : Tok} {z : Int} {n : Nat} {Q : Value → Shared → Prop} (F : Fr h₀ L s.heap m) (N : News h₀ L s.heap news) (hm : (l, listOf #[.int 0 t0] 0) ∈ news) (hz : z = n) (hn : n ≤ 100000)
    (h : ∀ h' vs, Fr h₀ L h' m → News h₀ L h' ((s.heap.objs.size, listOf vs 0) :: news) → IntsAre vs.toList (List.replicate n 0) → Q (.ref s.heap.objs.size) { s with heap := h' }) :
    wpAny (model prog w) A (binaryOp .Mult (.ref l) (.int z u)) Q E s := by
  subst hz
  refine mul_list F N (N.get hm) (by omega) (by omega) (by simp; omega) fun h' F' N' => h h' _ F' N' ?_
  rw [listMul_foldl_if]
  have := ints_zeros n t0
  simpa using this
theorem fresh_ne {h h₁ : Heap} (N : News h₀ L h news) (hm : h.objs.size ≤ h₁.objs.size) : ∀ q ∈ news, q.1 ≠ h₁.objs.size := fun q hq e => by
  have := nlt (N q hq).1
  have e : @Eq Nat q.1 h₁.objs.size := e
  omega
theorem set_cell1 {l : Addr} {vs : Array Value} {c q : Nat} {z : Int} {u : Tok} {v : Value} {pre post : List (Addr × Obj)} {Q : Unit → Shared → Prop} (F : Fr h₀ L s.heap m) (N : News h₀ L s.heap (pre ++ (l, listOf vs c) :: post)) (h1 : ∀ p ∈ pre, p.1 ≠ l) (h2 : ∀ p ∈ post, p.1 ≠ l) (hz : z = q) (hq : q < vs.toList.length) (hq1 : q < 1000000)
    (h : ∀ h', Fr h₀ L h' m → News h₀ L h' (pre ++ (l, listOf (vs.toList.set q v).toArray c) :: post) → Q () { s with heap := h' }) :
    wpAny (model prog w) A (setItem (.ref l) (.int z u) v) Q E s := by
  subst hz
  exact ki_set (n := c) F N (by omega) (by omega) (ki_setL_lt hq) (Upd.mk' h1 h2) h
theorem min3_N {a b c : Int} {t u x : Tok} {Q : Value → Shared → Prop} (hh : A.handled = none) (F : Fr h₀ L s.heap m) (N : News h₀ L s.heap news)
    (h : ∀ h' tk t', Fr h₀ L h' m → News h₀ L h' news → Q (.int (min (min a b) c) t') { s with heap := h', toks := tk }) :
    wpAny (model prog w) A (call (.builtin "min") [.int a t, .int b u, .int c x]) Q E s := by
  refine min_three_ints hh fun h' tk hk => ?_
  have key : ∃ t', (if b < a then (if c < b then Value.int c x else .int b u) else (if c < a then .int c x else .int a t)) = .int (min (min a b) c) t' := by
    by_cases h1 : b < a
    · by_cases h2 : c < b
      · exact ⟨x, by rw [if_pos h1, if_pos h2]; congr 1; omega⟩
      · exact ⟨u, by rw [if_pos h1, if_neg h2]; congr 1; omega⟩
    · by_cases h2 : c < a
      · exact ⟨x, by rw [if_neg h1, if_pos h2]; congr 1; omega⟩
      · exact ⟨t, by rw [if_neg h1, if_neg h2]; congr 1; omega⟩
  obtain ⟨t', e⟩ := key
  rw [e]
  exact h h' tk t' (F.keeps hk) (N.keeps hk)
theorem chars_eq {x y : Str} {i j : Nat} (hi : i < x.length) (hj : j < y.length) : ((⟨#[x.cps.getD i 0]⟩ : Str) = ⟨#[y.cps.getD j 0]⟩) ↔ x.cps.toList[i]? = y.cps.toList[j]? := by
  have h1 : i < x.cps.size := hi
  have h2 : j < y.cps.size := hj
  simp [Array.getD_eq_getD_getElem?, h1, h2]
theorem lev_cell {x y : Str} {i j : Nat} (hi : i < x.length) (hj : j < y.length) :
    min (min ((lev x.cps.toList y.cps.toList i j : Int) + if (!decide ((⟨#[x.cps.getD i 0]⟩ : Str) = ⟨#[y.cps.getD j 0]⟩)) = true then (1 : Int) else 0) ((lev x.cps.toList y.cps.toList i (j + 1) : Int) + 1)) ((lev x.cps.toList y.cps.toList (i + 1) j : Int) + 1) = (lev x.cps.toList y.cps.toList (i + 1) (j + 1) : Int) := by
  have e := chars_eq hi hj
  rw [lev_succ]
  by_cases h : x.cps.toList[i]? = y.cps.toList[j]?
  · rw [if_pos h]
    have : (!decide ((⟨#[x.cps.getD i 0]⟩ : Str) = ⟨#[y.cps.getD j 0]⟩)) = false := by rw [decide_eq_true (e.mpr h)]; rfl
    rw [this]
    simp only [Bool.false_eq_true, if_false]
    omega
  · rw [if_neg h]
    have : (!decide ((⟨#[x.cps.getD i 0]⟩ : Str) = ⟨#[y.cps.getD j 0]⟩)) = true := by rw [decide_eq_false (fun h' => h (e.mp h'))]; rfl
    rw [this]
    simp only [if_true]
    omega
theorem row_step {f : Nat → Int} {M j : Nat} {z : Int} (hz : z = f (j + 1)) : ((List.range M).map fun p => if p = j + 1 then z else if p ≤ j then f p else 0) = (List.range M).map fun q => if q ≤ j + 1 then f q else 0 :=
  List.map_congr_left fun p _ => by
    by_cases h : p = j + 1
    · subst h; simp [hz]
    · by_cases h2 : p ≤ j
      · rw [if_neg h, if_pos h2, if_pos (by omega)]
      · rw [if_neg h, if_neg h2, if_neg (by omega)]
theorem row_full {f : Nat → Int} {M : Nat} : ((List.range (M + 1)).map fun q => if q ≤ M then f q else 0) = (List.range (M + 1)).map f :=
  List.map_congr_left fun p hp => by rw [if_pos (by have := List.mem_range.mp hp; omega)]
/-- an iterator over a list -/
theorem list_src {Q : Value → Shared → Prop} {a : Addr} {its : Array Value} {k : Nat} (hh : A.handled = none) (F : Fr h₀ L s.heap m) (N : News h₀ L s.heap news) (hm : (a, listOf its k) ∈ news)
    (h : ∀ I St h', Fr h₀ L h' m → News h₀ L h' news → Src prog w A h₀ L news I [I, a] its.size (fun i v => its[i]? = some v) St h' → (∀ i h, St i h → ∃ o, h.get? I = some o) → a ≠ I → Q (.ref I) { s with heap := h' }) :
    wpAny (model prog w) A (pyIter (.ref a)) Q E s := by
  have hl : s.heap.IsList a its := N.isList hm
  refine wpAny_pyIter_list hl ?_
  have hne : a ≠ s.heap.objs.size := Nat.ne_of_lt (nlt (N _ hm).1)
  have F1 := F.push { cls := .type "list_iterator", data := .fields #[.ref a, .int 0 0] }
  have N1 := N.push F { cls := .type "list_iterator", data := .fields #[.ref a, .int 0 0] }
  refine h s.heap.objs.size (fun i h => h.IsListIter s.heap.objs.size a i ∧ h.IsList a its) _ F1 (fun q hq => N1 q (.tail _ hq)) ⟨Walks.list hh _ a hne its, ?_, ⟨⟨_, Heap.get?_push_size _ rfl, rfl, rfl⟩, hl.push _⟩, ?_, next_is_new F, fun q hq => Nat.ne_of_lt (nlt (N q hq).1)⟩ (fun i h st => ⟨_, st.1.choose_spec.1⟩) hne
  · intro b hb
    rw [Heap.size_push]
    rcases List.mem_cons.mp hb with rfl | hb
    · exact Nat.lt_succ_self _
    · rw [List.mem_singleton.mp hb]
      exact Nat.lt_succ_of_lt (nlt (N _ hm).1)
  · intro hb
    rcases List.mem_cons.mp hb with e | hb
    · exact Nat.ne_of_lt (nslt F.ns) e
    · exact (N _ hm).2.1 (List.mem_singleton.mp hb).symm
theorem evalPart_N {M : Model} {A : Around} {E : Value → Shared → Prop} {s : Shared} {env : Env} {Q : Value → Shared → Prop} (h : Q .none s) : wpAny M A (evalPart none env) Q E s := wpAny_pure h
theorem evalPart_S {M : Model} {A : Around} {E : Value → Shared → Prop} {s : Shared} {env : Env} {e : Expr} {Q : Value → Shared → Prop} (h : wpAny M A (eval e env) Q E s) : wpAny M A (evalPart (some e) env) Q E s := h
theorem News.drop2 {h : Heap} {p q : Addr × Obj} (N : News h₀ L h (p :: q :: news)) : News h₀ L h (p :: news) := fun r hr => by
  rcases List.mem_cons.mp hr with rfl | hr
  · exact N _ (.head _)
  · exact N r (.tail _ (.tail _ hr))
/-- a loop over a source -/
theorem loop_src {env : Env} {x : Str} {body : List Stmt} {Q : Flow → Shared → Prop} {I : Addr} {fp : List Addr} {n : Nat} {P : Nat → Value → Prop} {St : Nat → Heap → Prop} (J : Nat → (Str → Option Value) → List (Addr × Obj) → Prop)
    (F : Fr h₀ env.locals s.heap m) (N : News h₀ env.locals s.heap news) (S : Src prog w A h₀ env.locals news I fp n P St s.heap) (hI : ∀ i h, St i h → ∃ o, h.get? I = some o) (h0 : J 0 m news)
    (turn : ∀ i v m₁ news₁ h tk own, i < n → P i v → J i m₁ news₁ → (∀ p ∈ news₁, p.1 ≠ I) → (∃ o, (I, o) ∈ own) → (∀ p ∈ own, p.1 ∈ fp) → Fr h₀ env.locals h (fun y => if y = x then some v else m₁ y) → News h₀ env.locals h (own ++ news₁) →
      wpAny (model prog w) A (execs body env) (LoopStepV h₀ env.locals [I] own (J (i + 1)) { s with heap := h, toks := tk } (fun v s' => Q (.ret v) s') fun s' => Q .next s') E { s with heap := h, toks := tk })
    (done : ∀ m₁ news₁ h tk, J n m₁ news₁ → Fr h₀ env.locals h m₁ → News h₀ env.locals h news₁ → Q .next { s with heap := h, toks := tk }) :
    LoopAtV prog w A h₀ env x body Q E (.ref I) s := by
  refine ⟨I, fp, [I], n, P, St, m, news, J, rfl, S.walks, S.off, ?_, ?_, S.st, F, N, h0, ?_, ?_⟩
  · intro b hb
    rw [List.mem_singleton.mp hb]
    exact S.base
  · intro p hp hm
    exact S.apart p hp (List.mem_singleton.mp hm)
  · rintro i v m₁ news₁ s₁ own ⟨h, tk, rfl⟩ hi hP hJ hnw hfp _ hown hst F1 N1
    obtain ⟨o, ho⟩ := hI _ _ hst
    exact turn i v m₁ news₁ h tk own hi hP hJ (fun p hp e => hnw p hp (e ▸ .head _)) ⟨o, hown I S.mem S.base o ho⟩ hfp F1 N1
  · intro h' tk m' news' F1 N1 _ hJ
    exact done m' news' h' tk hJ F1 N1
end
end
end Mine

-- part Inst
namespace Mine
section
open PySem PySem.W PySem.Calls PyProof.Rows PySem.Spec
theorem if_is_T {P Q : Prop} {c : Bool} (hc : c = true) (h : P) : if c = true then P else Q := by rw [if_pos hc]; exact h
theorem if_is_F {P Q : Prop} {c : Bool} (hc : c = false) (h : Q) : if c = true then P else Q := by rw [if_neg (by rw [hc]; decide)]; exact h
/-- the names that a measure does not hold itself -/
def clsNames : List Str := ["_ident", "_get_sequences", "quick_answer", "maximum", "distance", "similarity", "_cycled", "_dynamic", "_recursive"]
/-- a measure as it was made: qval 1, test_func the class's own -/
structure SelfAt (h : Heap) (x C : Addr) (es : List DictEntry) (n : Nat) : Prop where
  dx : ∃ dx, h.get? x = some (instObj C dx) ∧ h.get? dx = some (dictOf es n)
  q : ∃ t, getL "qval" es = some (some (.int 1 t))
  f : getL "test_func" es = some (some (.ref 100))
  no : ∀ nm ∈ clsNames, getL nm es = some none
theorem SelfAt.keeps {h h' : Heap} {x C : Addr} {es : List DictEntry} {n : Nat} (S : SelfAt h x C es n) (k : ∀ b o, h.get? b = some o → h'.get? b = some o) : SelfAt h' x C es n := by
  obtain ⟨dx, h1, h2⟩ := S.dx
  exact ⟨⟨dx, k _ _ h1, k _ _ h2⟩, S.q, S.f, S.no⟩
theorem SelfAt.inst {h : Heap} {x C : Addr} {es : List DictEntry} {n : Nat} (S : SelfAt h x C es n) : ∃ dx, InstAt h x (instObj C dx) C (some (dictOf es n)) := by
  obtain ⟨dx, h1, h2⟩ := S.dx
  exact ⟨dx, ⟨h1, rfl, rfl, h2⟩⟩
theorem inOf {w : World} {h₀ h : Heap} {L : Addr} {m : Str → Option Value} (F : Fr h₀ L h m) (O : Ok w h₀) : (hd.heap_39 w.params).In h := (O.keeps F.keep).k
section
variable {prog : Program} {w : World} {A : Around} {E : Value → Shared → Prop} {s : Shared} {x C p L : Addr} {name : Str} {h₀ : Heap} {m : Str → Option Value} {news : List (Addr × Obj)} {es : List DictEntry} {n : Nat} {pl : Sem Bool} {fv : Value} {rest : List Value}
/-- a value that the object holds -/
theorem s_get {expr : Bool} {Q : Value → Shared → Prop} {v : Value} (F : Fr h₀ L s.heap m) (O : Ok w h₀) (S : SelfAt h₀ x C es n) (hl : getL name es = some (some v)) (hg : plainGet (hd.heap_39 w.params) C name = true) (hh : hasDictIn (hd.heap_39 w.params) C = true)
    (ha : findIn (hd.heap_39 w.params) (.ref C) name = some none) (hn : noGet (hd.heap_39 w.params) none = true) (hv : handedIn v = true) (h : Q v { s with toks := s.toks + 1 }) :
    wpAny (model prog w) A (getAttr (.ref x) name expr) Q E s := by
  obtain ⟨dx, I⟩ := (S.keeps F.keep).inst
  exact get_own F O.k I hg hh ha hn hl hv h
/-- a value that the object holds, called -/
theorem s_own {Q : Value × List Value → Shared → Prop} {v : Value} (F : Fr h₀ L s.heap m) (O : Ok w h₀) (S : SelfAt h₀ x C es n) (hl : getL name es = some (some v)) (hg : plainGet (hd.heap_39 w.params) C name = true) (hh : hasDictIn (hd.heap_39 w.params) C = true)
    (ha : findIn (hd.heap_39 w.params) (.ref C) name = some none) (hn : noGet (hd.heap_39 w.params) none = true) (hv : handedIn v = true) (h : Q (v, []) { s with toks := s.toks + 1 }) :
    wpAny (model prog w) A (getMethod (.ref x) name pl) Q E s := by
  obtain ⟨dx, I⟩ := (S.keeps F.keep).inst
  exact kmu_own F O.k I hg ha (get_own F O.k I hg hh ha hn hl hv h)
/-- a method of its class -/
theorem s_meth {Q : Value × List Value → Shared → Prop} {f : Addr} (F : Fr h₀ L s.heap m) (O : Ok w h₀) (S : SelfAt h₀ x C es n) (hm : name ∈ clsNames) (hg : plainGet (hd.heap_39 w.params) C name = true)
    (hf : findIn (hd.heap_39 w.params) (.ref C) name = some (some (.ref f))) (ht : isFn (hd.heap_39 w.params) (.ref f) = true) (h : Q (.ref f, [.ref x]) s) : wpAny (model prog w) A (getMethod (.ref x) name pl) Q E s := by
  obtain ⟨dx, I⟩ := (S.keeps F.keep).inst
  exact method_inst F O.k I hg hf ht (S.no name hm) h
/-- a static method of its class -/
theorem s_stat {Q : Value × List Value → Shared → Prop} (F : Fr h₀ L s.heap m) (O : Ok w h₀) (S : SelfAt h₀ x C es n) (hm : name ∈ clsNames) (hg : plainGet (hd.heap_39 w.params) C name = true) (hh : hasDictIn (hd.heap_39 w.params) C = true) (ha : findIn (hd.heap_39 w.params) (.ref C) name = some (some (.ref p))) (ht : typeIn (hd.heap_39 w.params) (.ref p) = some (.type "staticmethod"))
    (hgf : specialIn (hd.heap_39 w.params) (.ref p) "__get__" = some (some (.builtin "staticmethod.__get__"))) (hts : takesIn (hd.heap_39 w.params) (.ref p) = some false) (hc : copiedNames.contains name = false) (hp : recIn (hd.heap_39 w.params) p "staticmethod" = some (fv :: rest)) (hv : handedIn fv = true)
    (h : Q (fv, []) { s with toks := s.toks + 1 }) : wpAny (model prog w) A (getMethod (.ref x) name pl) Q E s := by
  obtain ⟨dx, I⟩ := (S.keeps F.keep).inst
  exact kmu_sm F O.k I hg hh ha ht hgf hts hc (S.no name hm) hp hv h
end
end
end Mine

-- part Map
namespace Mine
section
open PySem PySem.W PySem.Calls PyProof.Rows PySem.Spec
theorem owner_map : Manifest.owners.lookup (String.ofList ['p', 'a', 'm'].reverse) = some Manifest.sig_map := by kernel_rfl
theorem slot_map_init : Slot "map" "__init__" "object.__init__" :=
  .of (owner := "object") (n := "__init__") (by rw [typeLookup_type, builtinLookup_eq_fast]; kernel_rfl) (by decide +kernel) (by decide +kernel) (by decide +kernel)
    (by first | exact .inl (by decide +kernel) | exact .inr (by decide +kernel)) (by rw [isSubtype_type]; kernel_rfl)
theorem slot_map_iter : Slot "map" "__iter__" "map.__iter__" :=
  .of (owner := "map") (n := "__iter__") (by rw [typeLookup_type, builtinLookup_eq_fast]; kernel_rfl) (by decide +kernel) (by decide +kernel) (by decide +kernel)
    (by first | exact .inl (by decide +kernel) | exact .inr (by decide +kernel)) (by rw [isSubtype_type]; kernel_rfl)
theorem slot_map_next : Slot "map" "__next__" "map.__next__" :=
  .of (owner := "map") (n := "__next__") (by rw [typeLookup_type, builtinLookup_eq_fast]; kernel_rfl) (by decide +kernel) (by decide +kernel) (by decide +kernel)
    (by first | exact .inl (by decide +kernel) | exact .inr (by decide +kernel)) (by rw [isSubtype_type]; kernel_rfl)
theorem args_map_iter_1 (a : Value) : argsOk "map.__iter__" ⟨[a], []⟩ := by
  unfold argsOk; rw [signature?_of (id := "map.__iter__") (n := ['_', '_', 'r', 'e', 't', 'i', '_', '_']) (o := ['p', 'a', 'm']) (by kernel_rfl) owner_map]; kernel_rfl
theorem args_map_next_1 (a : Value) : argsOk "map.__next__" ⟨[a], []⟩ := by
  unfold argsOk; rw [signature?_of (id := "map.__next__") (n := ['_', '_', 't', 'x', 'e', 'n', '_', '_']) (o := ['p', 'a', 'm']) (by kernel_rfl) owner_map]; kernel_rfl
theorem entry_map_new : entryFor table "map.__new__" = some Builtin.«map.__new__» := entryFor_of_tree (by kernel_rfl)
theorem entry_map_next : entryFor table "map.__next__" = some Builtin.«map.__next__» := entryFor_of_tree (by kernel_rfl)
theorem entry_map_iter : entryFor table "map.__iter__" = some Builtin.«dict_keyiterator.__iter__» :=
  entryFor_alias (id' := "dict_keyiterator.__iter__") (by kernel_rfl) (by first | rfl | decide +kernel | (unfold String.splitOn; simp +decide [String.splitOnAux])) (by decide +kernel) (by kernel_rfl)
theorem mro_map : mroOf (.type "map") = pure [.type "map", .type "object"] := by rw [mroOf_type]; kernel_rfl
theorem lookup_map_new : typeLookup (.type "map") "__new__" = pure (some (.builtin "map.__new__")) := by rw [typeLookup_type, builtinLookup_eq_fast]; kernel_rfl
theorem called_map : TypeCalled "map" "map.__new__" "object.__init__" :=
  ⟨by decide +kernel, by decide +kernel, ⟨_, _, mro_map⟩, madeBy_type mro_map lookup_map_new (by decide +kernel), by decide +kernel, by rw [isSubtype_type]; kernel_rfl, slot_map_init⟩
theorem typeCall_map_2 (a b : Value) : checkTypeCall "map" ⟨[a, b], []⟩ = pure () := by kernel_rfl
theorem newCall_map_2 (a b : Value) : checkBuiltinCall "map.__new__" ⟨[.type "map", a, b], []⟩ = pure () := by kernel_rfl
theorem args_object_init_3 (a b c : Value) : argsOk "object.__init__" ⟨[a, b, c], []⟩ := by unfold argsOk; kernel_rfl
theorem sub_map : isSubtype (.type "map") (.type "map") = pure true := by rw [isSubtype_type]; kernel_rfl

section
variable {prog : Program} {w : World} {A : Around} {E : Value → Shared → Prop} {s : Shared}
theorem nextOf_tuple_item {it t : Addr} {i : Nat} {items : Array Value} {x : Value} {Q : Value → Shared → Prop} (hit : s.heap.IsTupleIter it t i)
    (hl : s.heap.IsTuple t items) (hx : items[i]? = some x)
    (hQ : ∀ h', h'.IsTupleIter it t (i + 1) → Heap.SameBut it s.heap h' → Q x { s with heap := h' }) :
    wpAny (model prog w) A (Builtin.SmallTypes.nextOf (.ref it)) Q E s := by
  obtain ⟨o, ho, hc, hd⟩ := id hit
  obtain ⟨ol, hol, _, nl, hdl⟩ := hl
  unfold Builtin.SmallTypes.nextOf
  refine wpAny_bind (wpAny_callSpecial?_slot (name := Str.ofString "__next__") hit.typeIs F.slot_tuple_iterator_next
    (wpAny_call_entry F.slot_tuple_iterator_next hit.typeIs F.entry_tuple_iterator_next ?_ (F.args_tuple_iterator_next_1 _)))
  show wpAny _ _ (field (.ref it) 0 >>= _) _ _ s
  refine wpAny_bind (wpAny_field ho hd (x := .ref t) rfl ?_)
  show wpAny _ _ (if (Value.ref t == Value.none) = true then _ else _) _ _ s
  rw [if_neg (show ¬ ((Value.ref t == Value.none) = true) from Bool.false_ne_true)]
  show wpAny _ _ (field (.ref it) 1 >>= _) _ _ s
  refine wpAny_bind (wpAny_field ho hd (x := .int i 0) rfl ?_)
  show wpAny _ _ (seqItems? (.ref t) >>= _) _ _ s
  refine wpAny_bind (wpAny_seqItems hol hdl ?_)
  simp only [Int.toNat_natCast, hx]
  refine wpAny_bind (wpAny_setField ho hd (by simp) (wpAny_pure ⟨x, rfl, wpAny_pure (hQ _ ?_ (Heap.SameBut.update ..))⟩))
  exact ⟨_, Heap.get?_update_self _ ho (Obj.isFreed_of_fields (Obj.data_mapFields hd _)), (Obj.cls_mapFields ..).trans hc, by
    rw [Obj.data_mapFields hd]; simp [rawInt]⟩
theorem nextOf_tuple_end {it t : Addr} {i : Nat} {items : Array Value} {Q : Value → Shared → Prop} (hh : A.handled = none)
    (hit : s.heap.IsTupleIter it t i) (hl : s.heap.IsTuple t items) (hx : items[i]? = none)
    (hE : ∀ h' e, Heap.ExtBut it s.heap h' → (∃ o, h'.get? e = some o ∧ o.cls = .type "StopIteration") → E (.ref e) { s with heap := h' }) :
    wpAny (model prog w) A (Builtin.SmallTypes.nextOf (.ref it)) Q E s := by
  obtain ⟨o, ho, hc, hd⟩ := id hit
  obtain ⟨ol, hol, _, nl, hdl⟩ := hl
  unfold Builtin.SmallTypes.nextOf
  refine wpAny_bind (wpAny_callSpecial?_slot (name := Str.ofString "__next__") hit.typeIs F.slot_tuple_iterator_next
    (wpAny_call_entry F.slot_tuple_iterator_next hit.typeIs F.entry_tuple_iterator_next ?_ (F.args_tuple_iterator_next_1 _)))
  show wpAny _ _ (field (.ref it) 0 >>= _) _ _ s
  refine wpAny_bind (wpAny_field ho hd (x := .ref t) rfl ?_)
  show wpAny _ _ (if (Value.ref t == Value.none) = true then _ else _) _ _ s
  rw [if_neg (show ¬ ((Value.ref t == Value.none) = true) from Bool.false_ne_true)]
  show wpAny _ _ (field (.ref it) 1 >>= _) _ _ s
  refine wpAny_bind (wpAny_field ho hd (x := .int i 0) rfl ?_)
  show wpAny _ _ (seqItems? (.ref t) >>= _) _ _ s
  refine wpAny_bind (wpAny_seqItems hol hdl ?_)
  simp only [Int.toNat_natCast, hx]
  refine wpAny_bind (wpAny_rule (wpAny_bind (wpAny_setField ho hd (by simp) ?_)))
  show wpAny _ _ (newExc (.type "StopIteration") [] >>= _) _ _ _
  refine wpAny_bind ?_
  simp only [newExc, newTuple]
  refine wpAny_bind (wpAny_newObj_type ?_ (by size_fits))
  refine wpAny_bind (m := firstArgMember _ _) (wpAny_of_eq (a := Value.none) (by first | rfl | (simp only [firstArgMember]; rfl)) ?_)
  refine wpAny_newObj_type ?_ (by size_fits)
  simp only [raiseNew]
  refine wpAny_bind (wpAny_handled ?_)
  first | rw [show A.in1.handled = none from hh] | rw [hh]
  refine wpAny_bind (wpAny_pure (wpAny_throw ?_))
  exact hE _ _ (((Heap.SameBut.update ..).extBut.push _).push _) ⟨_, Heap.get?_push_size _ rfl, rfl⟩

abbrev mapObj (T : Addr) : Obj := { cls := .type "map", data := .fields #[.ref T, .builtin "len"] }
abbrev IsMap (h : Heap) (I T it D : Addr) (items : Array Value) (i : Nat) : Prop :=
  h.get? I = some (mapObj T) ∧ h.IsTuple T #[.ref it] ∧ h.IsTupleIter it D i ∧ h.IsTuple D items
theorem pyIter_map {I T it D : Addr} {items : Array Value} {i : Nat} {Q : Value → Shared → Prop} (hm : IsMap s.heap I T it D items i) (h : Q (.ref I) s) : wpAny (model prog w) A (pyIter (.ref I)) Q E s := by
  have hT : s.TypeIs (.ref I) "map" := ⟨_, hm.1, rfl⟩
  refine wpAny_pyIter_slot hT slot_map_iter (wpAny_call_entry slot_map_iter hT entry_map_iter ?_ (args_map_iter_1 _))
  show wpAny _ _ (ret (.ref I)) _ _ s
  exact wpAny_pure ⟨_, rfl, "map", _, hT, slot_map_next.lookup, h⟩
theorem pyNext_map_item {I T it D : Addr} {items : Array Value} {i : Nat} {x : Str} {t : Tok} {Q : Option Value → Shared → Prop} (hm : IsMap s.heap I T it D items i) (hne : I ≠ it) (hx : items[i]? = some (.str x t)) (hl : x.length ≤ 1000000)
    (hQ : ∀ h' tk t', h'.IsTupleIter it D (i + 1) → Heap.SameBut it s.heap h' → Q (some (.int x.length t')) { s with heap := h', toks := tk }) :
    wpAny (model prog w) A (pyNext (.ref I)) Q E s := by
  obtain ⟨h1, ⟨oT, hT1, hT2, nT, hT3⟩, h3, h4⟩ := hm
  have hT : s.TypeIs (.ref I) "map" := ⟨_, h1, rfl⟩
  unfold pyNext
  refine wpAny_bind (wpAny_attempt (wpAny_callSpecial?_slot (name := Str.ofString "__next__") hT slot_map_next
    (wpAny_call_entry slot_map_next hT entry_map_next ?_ (args_map_next_1 _))))
  show wpAny _ _ (field (.ref I) 0 >>= _) _ _ s
  refine wpAny_bind (wpAny_field h1 rfl (x := .ref T) rfl ?_)
  show wpAny _ _ (seqItems? (.ref T) >>= _) _ _ s
  refine wpAny_bind (wpAny_seqItems hT1 hT3 ?_)
  dsimp only
  simp only [Array.forIn_toList.symm, List.forIn_cons, List.forIn_nil, bind_assoc, pure_bind]
  refine wpAny_bind (wpAny_holding (nextOf_tuple_item h3 h4 hx fun h' hit' hs' => ?_))
  have hI : h'.get? I = some (mapObj T) := (hs'.2 I hne).trans h1
  refine wpAny_bind (wpAny_field hI rfl (x := .builtin "len") rfl ?_)
  refine wpAny_bind (wpAny_holding ?_)
  show wpAny _ _ (call (.builtin "len") [.str x t]) _ _ _
  refine PyProof.Rows.len_str (by omega) ?_
  refine wpAny_bind (wpAny_letGo ?_)
  exact wpAny_pure ⟨_, rfl, wpAny_pure (hQ h' _ _ hit' hs')⟩
theorem pyNext_map_end {I T it D : Addr} {items : Array Value} {i : Nat} {Q : Option Value → Shared → Prop} (hh : A.handled = none) (hm : IsMap s.heap I T it D items i) (hx : items[i]? = none)
    (hQ : ∀ h', Heap.ExtBut it s.heap h' → Q none { s with heap := h' }) :
    wpAny (model prog w) A (pyNext (.ref I)) Q E s := by
  obtain ⟨h1, ⟨oT, hT1, hT2, nT, hT3⟩, h3, h4⟩ := hm
  have hT : s.TypeIs (.ref I) "map" := ⟨_, h1, rfl⟩
  unfold pyNext
  refine wpAny_bind (wpAny_attempt (wpAny_callSpecial?_slot (name := Str.ofString "__next__") hT slot_map_next
    (wpAny_call_entry slot_map_next hT entry_map_next ?_ (args_map_next_1 _))))
  show wpAny _ _ (field (.ref I) 0 >>= _) _ _ s
  refine wpAny_bind (wpAny_field h1 rfl (x := .ref T) rfl ?_)
  show wpAny _ _ (seqItems? (.ref T) >>= _) _ _ s
  refine wpAny_bind (wpAny_seqItems hT1 hT3 ?_)
  dsimp only
  simp only [Array.forIn_toList.symm, List.forIn_cons, List.forIn_nil, bind_assoc, pure_bind]
  refine wpAny_bind (wpAny_holding (nextOf_tuple_end (A := A.in1) hh h3 h4 hx fun h' e he' hx' => ?_))
  obtain ⟨o, ho, hc⟩ := hx'
  refine wpAny_bind (wpAny_isInstance (T := "StopIteration") (b := true) ⟨o, ho, hc⟩ isSubtype_stop ?_)
  exact wpAny_pure (hQ _ he')
theorem walks_map (hh : A.handled = none) {I T it D : Addr} {items : Array Value} {ks : List Str} (h1 : I ≠ it) (h2 : T ≠ it) (h3 : D ≠ it) (hi : StrsAre items.toList ks) (hl : ∀ x ∈ ks, x.length ≤ 1000000) :
    Walks prog w A I [I, T, it, D] [it] ks.length (fun i v => ∃ t, v = .int (((ks.getD i Str.empty).length : Nat) : Int) t) (fun i h => IsMap h I T it D items i) where
  sub := fun b hb => by rw [List.mem_singleton.mp hb]; simp
  frame := fun i h h' st hk => by
    obtain ⟨a, b, c, d⟩ := st
    refine ⟨hk I (by simp) _ a, ?_, c.at fun o e => hk it (by simp) o e, d.at fun o e => hk D (by simp) o e⟩
    exact b.at fun o e => hk T (by simp) o e
  item := fun i s Q E hlt st hQ => by
    have hk : ks[i]? = some ks[i] := List.getElem?_eq_getElem hlt
    obtain ⟨t, ht⟩ := hi.at hk
    refine pyNext_map_item st h1 (x := ks[i]) (t := t) (by rw [← Array.getElem?_toList]; exact ht) (hl _ (List.getElem_mem hlt)) fun h' tk t' hit' hs' => ?_
    obtain ⟨a, b, c, d⟩ := st
    refine hQ _ h' tk ⟨t', by simp [List.getD_eq_getElem?_getD, hk]⟩ ⟨(hs'.2 I h1).trans a, b.at fun o e => (hs'.2 T h2).trans e, hit', d.at fun o e => (hs'.2 D h3).trans e⟩ fun b o hb e => (hs'.2 b fun q => hb (by simp [q])).trans e
  done := fun s Q E st hQ => by
    have hn : items[ks.length]? = none := by
      have := hi.len_eq
      rw [Array.getElem?_eq_none]
      simp at this; omega
    exact pyNext_map_end hh st hn fun h' hx => hQ h' s.toks fun b o hb e => hx b o (fun q => hb (by simp [q])) e
  self := fun i s Q E st hQ => pyIter_map st hQ
theorem meets_map_new (D : Addr) (items : Array Value) (n : Nat) (dct : Option Addr) (sl : Array (Option Value)) :
    Meets (Builtin.«map.__new__» ⟨[.type "map", .builtin "len", .ref D], []⟩) (fun _ R s => s.heap.get? D = some { cls := .type "tuple", dict := dct, data := .seq items n, slots := sl } ∧
      R (.ok (.ret (.ref (s.heap.objs.size + 2))))
        { s with heap := ((s.heap.push { cls := .type "tuple_iterator", data := .fields #[.ref D, .int 0 0] }).push { cls := .type "tuple", data := .seq #[.ref s.heap.objs.size] }).push (mapObj (s.heap.objs.size + 1)) }) :=
  .of_wp fun prog w A R s h => by
    obtain ⟨hp, g, d, tk, os⟩ := s; obtain ⟨hl, h⟩ := h
    have hsub := sub_map
    have hL : Heap.IsTuple (Shared.heap ⟨hp, g, d, tk, os⟩) D items := ⟨_, hl, rfl, n, rfl⟩
    unfold Builtin.«map.__new__»
    (with_reducible refine PySem.wpAny_bind ?_); wp_delta; (with_reducible refine PySem.wpAny_bind ?_)
    wp_delta; (with_reducible refine PySem.wpAny_pure ?_); (with_reducible apply PySem.wpAny_ite_false); rfl; (with_reducible refine PySem.wpAny_bind ?_)
    (with_reducible refine PySem.wpAny_of_eq (by assumption) ?_); (with_reducible apply PySem.wpAny_ite_false); rfl; (with_reducible refine PySem.wpAny_pure ?_); (with_reducible refine PySem.wpAny_bind ?_)
    wp_delta; (with_reducible apply PySem.wpAny_ite_true); rfl; (with_reducible refine PySem.wpAny_pure ?_); (with_reducible apply PySem.wpAny_ite_false); rfl
    (with_reducible refine PySem.wpAny_bind ?_); wp_delta; (with_reducible refine PySem.wpAny_bind ?_); wp_delta
    wp_delta; wp_delta; wp_delta; (with_reducible refine PySem.wpAny_bind ?_)
    (with_reducible refine PySem.wpAny_bind ?_); (with_reducible refine PySem.wpAny_holding ?_); (with_reducible apply wpAny_pyIter_tuple hL); (with_reducible refine PySem.wpAny_pure ?_); wp_delta
    wp_delta; (with_reducible refine PySem.wpAny_pure ?_); (with_reducible refine PySem.wpAny_pure ?_); (with_reducible refine PySem.wpAny_bind ?_)
    wp_delta; wp_delta; (with_reducible apply PySem.wpAny_ite_false); rfl; wp_delta
    wp_delta; (with_reducible refine PySem.wpAny_bind ?_); (with_reducible refine PySem.wpAny_alloc' ?_); (with_reducible refine PySem.wpAny_pure ?_)
    (with_reducible refine PySem.wpAny_bind ?_); wp_delta; wp_delta; (with_reducible apply PySem.wpAny_ite_false); rfl
    wp_delta; wp_delta; (with_reducible refine PySem.wpAny_bind ?_); (with_reducible refine PySem.wpAny_alloc' ?_)
    (with_reducible refine PySem.wpAny_pure ?_); wp_delta; (with_reducible refine PySem.wpAny_pure ?_)
    refine ⟨_, rfl, ?_⟩
    have e1 : (hp.push { cls := Value.type "tuple_iterator", data := Data.fields #[Value.ref D, Value.int 0 0] }).objs.size = hp.objs.size + 1 := Heap.size_push _ _
    have e2 : ((hp.push { cls := Value.type "tuple_iterator", data := Data.fields #[Value.ref D, Value.int 0 0] }).push { cls := Value.type "tuple", data := Data.seq #[Value.ref hp.objs.size] }).objs.size = hp.objs.size + 2 := by rw [Heap.size_push, e1]
    dsimp only at h ⊢
    rw [← e2, ← e1] at h
    exact h
theorem mk_map {h₀ : Heap} {L : Addr} {m : Str → Option Value} {news : List (Addr × Obj)} {D : Addr} {vs : List Value} {Q : Value → Shared → Prop} (F : Fr h₀ L s.heap m) (N : News h₀ L s.heap news) (hm : (D, tupObj vs) ∈ news)
    (h : ∀ I T it h', Fr h₀ L h' m → News h₀ L h' ((I, mapObj T) :: (T, tupObj [.ref it]) :: (it, { cls := .type "tuple_iterator", data := .fields #[.ref D, .int 0 0] }) :: news) → I ≠ it → T ≠ it → (∀ q ∈ news, q.1 ≠ it) → Q (.ref I) { s with heap := h' }) :
    wpAny (model prog w) A (call (.type "map") [.builtin "len", .ref D]) Q E s := by
  refine callType_new called_map (by decide) (typeCall_map_2 _ _) (newCall_map_2 _ _) (fun obj => args_object_init_3 obj _ _) entry_map_new (meets_map_new D vs.toArray 0 none #[]) ⟨(N _ hm).1, ?_⟩
  have F1 := F.push { cls := Value.type "tuple_iterator", data := Data.fields #[Value.ref D, Value.int 0 0] }
  have N1 := N.push F { cls := Value.type "tuple_iterator", data := Data.fields #[Value.ref D, Value.int 0 0] }
  have F2 := F1.push { cls := .type "tuple", data := .seq #[.ref s.heap.objs.size] }
  have N2 := N1.push F1 { cls := .type "tuple", data := .seq #[.ref s.heap.objs.size] }
  have e1 : (s.heap.push { cls := Value.type "tuple_iterator", data := Data.fields #[Value.ref D, Value.int 0 0] }).objs.size = s.heap.objs.size + 1 := Heap.size_push _ _
  have e2 : ((s.heap.push { cls := Value.type "tuple_iterator", data := Data.fields #[Value.ref D, Value.int 0 0] }).push { cls := Value.type "tuple", data := Data.seq #[Value.ref s.heap.objs.size] }).objs.size = s.heap.objs.size + 2 := by rw [Heap.size_push, e1]
  have F3 := F2.push (mapObj (s.heap.objs.size + 1))
  have N3 := N2.push F2 (mapObj (s.heap.objs.size + 1))
  refine ⟨⟨mapObj (s.heap.objs.size + 1), ?_, rfl⟩, ?_⟩
  · rw [← e2]; exact Heap.get?_push_size _ rfl
  · refine h (s.heap.objs.size + 2) (s.heap.objs.size + 1) s.heap.objs.size _ F3 (fun q hq => ?_) (Nat.ne_of_gt (Nat.lt_succ_of_lt (Nat.lt_succ_self _))) (Nat.ne_of_gt (Nat.lt_succ_self _)) (fun q hq => Nat.ne_of_lt (nlt (N q hq).1))
    refine N3 q ?_
    rw [e2, e1]
    exact hq
/-- max(map(len, (x, y))) -/
theorem max_map {h₀ : Heap} {L : Addr} {m : Str → Option Value} {news : List (Addr × Obj)} {I T it D : Addr} {x y : Str} {t u : Tok} {Q : Value → Shared → Prop} (hh : A.handled = none) (F : Fr h₀ L s.heap m)
    (N : News h₀ L s.heap ((I, mapObj T) :: (T, tupObj [.ref it]) :: (it, { cls := .type "tuple_iterator", data := .fields #[.ref D, .int 0 0] }) :: news)) (h1 : I ≠ it) (h2 : T ≠ it) (h3 : ∀ q ∈ news, q.1 ≠ it) (hm : (D, tupObj [.str x t, .str y u]) ∈ news) (hx : x.length ≤ 1000000) (hy : y.length ≤ 1000000)
    (h : ∀ h' tk t', Fr h₀ L h' m → News h₀ L h' news → Q (.int ((max x.length y.length : Nat) : Int) t') { s with heap := h', toks := tk }) :
    wpAny (model prog w) A (call (.builtin "max") [.ref I]) Q E s := by
  have hIs : IsMap s.heap I T it D #[.str x t, .str y u] 0 := ⟨(N _ (.head _)).1, ⟨_, (N _ (.tail _ (.head _))).1, rfl, _, rfl⟩, ⟨_, (N _ (.tail _ (.tail _ (.head _)))).1, rfl, rfl⟩, ⟨_, (N _ (.tail _ (.tail _ (.tail _ hm)))).1, rfl, _, rfl⟩⟩
  have W := walks_map (prog := prog) (w := w) (A := A.in1) hh h1 h2 (h3 _ hm) (items := #[.str x t, .str y u]) (ks := [x, y]) (.cons x t (.cons y u .nil)) (by
    intro z hz
    rcases List.mem_cons.mp hz with rfl | hz
    · exact hx
    · rw [List.mem_singleton.mp hz]; exact hy)
  refine call_max_walk (W.self 0 _ _ _ hIs ⟨I, [I, T, it, D], [it], 2, _, _, _, rfl, W, hIs, ?_, by decide, CmpOf.ints_gt (fun i => (([x, y].getD i Str.empty).length : Int)) (fun i v hv => hv), ?_⟩)
  · intro b hb
    rcases List.mem_cons.mp hb with rfl | hb
    · exact nlt (N _ (.head _)).1
    · rcases List.mem_cons.mp hb with rfl | hb
      · exact nlt (N _ (.tail _ (.head _))).1
      · rcases List.mem_cons.mp hb with rfl | hb
        · exact nlt (N _ (.tail _ (.tail _ (.head _)))).1
        · rw [List.mem_singleton.mp hb]; exact nlt (N _ (.tail _ (.tail _ (.tail _ hm)))).1
  · intro v h' tk hv hk
    obtain ⟨t', rfl⟩ := hv
    have hitb : h₀.get? it = none := (N _ (.tail _ (.tail _ (.head _)))).2.2
    have hitL : it ≠ L := (N _ (.tail _ (.tail _ (.head _)))).2.1
    have := h h' tk t' ⟨F.ns.at' fun o e => hk L o (fun q => hitL (List.mem_singleton.mp q).symm) e, fun b o e => hk b o (fun q => by rw [List.mem_singleton.mp q, hitb] at e; cases e) (F.keep b o e), F.above⟩
      (fun q hq => ⟨hk _ _ (fun p => h3 q hq (List.mem_singleton.mp p)) (N q (.tail _ (.tail _ (.tail _ hq)))).1, (N q (.tail _ (.tail _ (.tail _ hq)))).2⟩)
    have e : (([x, y].getD (argBest (fun i j => decide ((([x, y].getD i Str.empty).length : Int) > (([x, y].getD j Str.empty).length : Int))) (2 - 1)) Str.empty).length) = max x.length y.length := by
      simp [argBest]
      split <;> simp <;> omega
    rw [← e] at this
    exact this
end

/-- a def with a rest parameter, some parameters captured -/
theorem enterVC {prog : Program} {w : World} {A : Around} {s : Shared} {E : Value → Shared → Prop} {Q : Value → Shared → Prop} {name qual : Str} {params : Arguments} {body : List Stmt} {scope : Scope} {dV kV doc pm cdv ct oc : Value} {an od : Option Addr} {osl : Array (Option Value)} {f : Addr} {args : Args} {vs : List Value} {g₁ : Addr → Option (List (Str × Value))} {binds : Addr → List (Str × Value)} {n : Nat}
    (O : Ok w s.heap) (C : Calm A (n + 1))
    (ho : (hd.heap_39 w.params).lookup f = some ⟨oc, od, .func (fnOf name qual params body scope dV kV doc pm an cdv ct), osl⟩) (hcd : codeIn (hd.heap_39 w.params) cdv qual = true)
    (hp : peek1 (hd.heap_39 w.params) ⟨prog, w.params⟩ (bindArgs (fnOf name qual params body scope dV kV doc pm an cdv ct) args) = some (tupObj vs, g₁))
    (hg : ∀ D, g₁ D = some (binds D))
    (hkind : ∀ D, ((binds D).all fun y => scope.names.lookup y.1 == some .local || scope.names.lookup y.1 == some .cell) = true)
    (hnd : ((cellsFrom 0 scope.names []).map (·.1)).Nodup)
    (h : ∀ D L h₁ tk cells, Fr s.heap L h₁ (bindL (envOfC qual scope L f cdv).kindOf (binds D) fun _ => none) → News s.heap L h₁ (cells ++ [(D, tupObj vs)]) →
      CellsAre (bindC (envOfC qual scope L f cdv).kindOf (binds D) fun _ => none) (cellsFrom (L + 1) scope.names []) cells → Ok w h₁ → Calm (A.deeper (envX qual scope L f cdv (cellsFrom (L + 1) scope.names []))) n →
      wpAny (model prog w) (A.deeper (envX qual scope L f cdv (cellsFrom (L + 1) scope.names []))) (execs body (envX qual scope L f cdv (cellsFrom (L + 1) scope.names [])))
        (fun fl s' => Q (match fl with | .ret v => v | _ => .none) s') (fun _ _ => False) { s with heap := h₁, toks := tk })
    (hco : scope.isCoroutine = false) (hgen : scope.isGenerator = false) (hk : scope.kind = .function) :
    codeAny (model prog w) A (.call (.ref f) args) (fun r s' => match r with | .ok (.ret v) => Q v s' | .ok _ => False | .error e => E e s') s := by
  refine enter_raw O C ho hcd ?_ hco hgen
  refine wp_peek1 (r := binds) O.k ?_ _ g₁ hp hg
  refine env_cells (s₁ := { s with heap := s.heap.push (tupObj vs) }) (h₀ := s.heap) (pre := [(s.heap.objs.size, tupObj vs)]) (O.keeps fun b o e => Heap.get?_push_of_some _ e) C (fun b o e => Heap.get?_push_of_some _ e) (by rw [Heap.size_push]; exact Nat.le_succ _) (Pre.one rfl) (hkind _) hnd ?_ hk
  intro L h₁ tk cells F N Y _ O1 C1
  exact h s.heap.objs.size L h₁ tk cells F N Y O1 C1
/-- `self(*seqs)` of a measure -/
theorem s_star {M : Model} {A : Around} {E : Value → Shared → Prop} {s : Shared} {env : Env} {pos p : Pos} {e : Expr} {x C : Addr} {es : List DictEntry} {n : Nat} {first : List Value} {Q : Value → Shared → Prop}
    (h : wpAny M A (eval e env) (fun v s₁ => StarOf M A E v (fun vs s₂ => SelfAt s₂.heap x C es n ∧ wpAny M A (call (.ref x) (first ++ vs)) Q E s₂) s₁) E s)
    (he : starEach [.Starred e p] env = [(true, eval e env)] := by rfl) :
    wpAny M A (callWith pos (.ref x) first (backTo pos (starEach [.Starred e p] env)) []) Q E s := by
  rw [he]
  have h' := ks_lone (f := Value.ref x) (pos := pos) (Q := fun a s₁ => SelfAt s₁.heap x C es n ∧ wpAny M A (call (.ref x) (first ++ a.pos) a.kw) Q E s₁) h
  unfold callWith
  refine wpAny_bind (wpAny_holding (wpAny_mono h' (fun a s₁ h₁ => wpAny_bind (wpAny_standAt ?_)) fun _ _ y => y))
  obtain ⟨dx, I⟩ := h₁.1.inst
  have L := kco_keeper (M := M) I rfl
  refine wpAny_bind (L.here ?_)
  have tail : ∀ {t : Sem Value}, wpAny M A t Q E s₁ → wpAny M A (t >>= fun r => holding [r] point >>= fun _ => pure r) Q E s₁ :=
    fun ht => wpAny_bind (wpAny_mono ht (fun r s₂ hr => wpAny_bind (wpAny_holding (wpAny_point (wpAny_pure hr)))) fun _ _ y => y)
  exact tail (wpAny_operateT h₁.2)
def RetList (h₀ : Heap) (vs : List Value) (v : Value) (h : Heap) : Prop := ∃ a k, v = .ref a ∧ h₀.get? a = none ∧ h.get? a = some (listOf vs.toArray k)

theorem MethodCallStar_ {M : Model} {A : Around} {E : Value → Shared → Prop} {s : Shared} {env : Env} {o : Expr} {name : Str} {apos pos p : Pos} {e : Expr} {Q : Value → Shared → Prop}
    (h : wpAny M A (eval o env) (fun ov s₁ => wpAny M A (getAttr ov name true) (fun f s₂ => wpAny M A (callWith pos f [] (backTo pos (starEach [.Starred e p] env)) []) Q E s₂) E s₁) E s)
    (he : eval (.Call (.Attribute o name apos) [.Starred e p] [] pos) env = (do
      let ov ← eval o env
      standAt apos.atName
      let (f, first) ← holding [ov] (do pure (← getAttr ov name true, []))
      callWith pos f first (backTo pos (starEach [.Starred e p] env)) []) := by with_unfolding_all rfl) :
    wpAny M A (eval (.Call (.Attribute o name apos) [.Starred e p] [] pos) env) Q E s := by
  rw [he]
  exact wpAny_bind (wpAny_mono h (fun ov s₁ h₁ => wpAny_bind (wpAny_standAt (wpAny_bind (wpAny_holding (wpAny_bind (wpAny_mono h₁ (fun fx s₂ h₂ => wpAny_pure h₂) fun _ _ x => x)))))) fun _ _ x => x)
section
variable {prog : Program} {w : World} {A : Around} {E : Value → Shared → Prop} {s : Shared} {x C p L : Addr} {name : Str} {h₀ : Heap} {m : Str → Option Value} {news : List (Addr × Obj)} {es : List DictEntry} {n : Nat} {fv : Value} {rest : List Value}
/-- a static method, read off the object -/
theorem s_statA {expr : Bool} {Q : Value → Shared → Prop} (F : Fr h₀ L s.heap m) (O : Ok w h₀) (S : SelfAt h₀ x C es n) (hm : name ∈ clsNames) (hg : plainGet (hd.heap_39 w.params) C name = true) (hh : hasDictIn (hd.heap_39 w.params) C = true) (ha : findIn (hd.heap_39 w.params) (.ref C) name = some (some (.ref p))) (ht : typeIn (hd.heap_39 w.params) (.ref p) = some (.type "staticmethod"))
    (hgf : specialIn (hd.heap_39 w.params) (.ref p) "__get__" = some (some (.builtin "staticmethod.__get__"))) (hts : takesIn (hd.heap_39 w.params) (.ref p) = some false) (hc : copiedNames.contains name = false) (hp : recIn (hd.heap_39 w.params) p "staticmethod" = some (fv :: rest)) (hv : handedIn fv = true)
    (h : Q fv { s with toks := s.toks + 1 }) : wpAny (model prog w) A (getAttr (.ref x) name expr) Q E s := by
  obtain ⟨dx, I⟩ := (S.keeps F.keep).inst
  exact get_bind (O.k.keeps F.keep) I (plainGet_of hg).1 (findObj_fn hh ha hgf hts hc (by show lookIn name (dictOf es n) = _; rw [lookIn_dict, S.no name hm])) (plainGet_of hg).2
      (wpAny_call (sm_get (s := { s with toks := s.toks + 1 }) (O.k.keeps F.keep) hp (handed_on hv h)))
/-- a method bound to the object -/
theorem s_bound {f : Addr} {expr : Bool} {Q : Value → Shared → Prop} (F : Fr h₀ L s.heap m) (O : Ok w h₀) (N : News h₀ L s.heap news) (S : SelfAt h₀ x C es n) (hm : name ∈ clsNames) (hg : plainGet (hd.heap_39 w.params) C name = true) (hh : hasDictIn (hd.heap_39 w.params) C = true) (ha : findIn (hd.heap_39 w.params) (.ref C) name = some (some (.ref f))) (hf : isFn (hd.heap_39 w.params) (.ref f) = true)
    (hgf : specialIn (hd.heap_39 w.params) (.ref f) "__get__" = some (some (.builtin "function.__get__"))) (ht : takesIn (hd.heap_39 w.params) (.ref f) = some false) (hc : copiedNames.contains name = false)
    (h : ∀ q h', Fr h₀ L h' m → News h₀ L h' ((q, methodObj (.ref f) (.ref x)) :: news) → Q (.ref q) { s with heap := h', toks := s.toks + 1 }) : wpAny (model prog w) A (getAttr (.ref x) name expr) Q E s := by
  obtain ⟨dx, I⟩ := (S.keeps F.keep).inst
  exact kbm_bound F O.k N I hg hh ha hf hgf ht hc (S.no name hm) fun q h' F' N' _ => h q h' F' N'
/-- a bound method called with `*seqs` -/
theorem callWith_SM {M : Model} {s : Shared} {env : Env} {pos pp : Pos} {e : Expr} {q g : Addr} {self : Value} {Q : Value → Shared → Prop} (hf : fnIn (hd.heap_39 w.params) g = true)
    (h : wpAny M A (eval e env) (fun v s₁ => StarOf M A E v (fun vs s₂ => MethP (hd.heap_39 w.params) q g self s₂.heap ∧ wpAny M A (call (.ref q) vs) Q E s₂) s₁) E s)
    (he : starEach [.Starred e pp] env = [(true, eval e env)] := by rfl) :
    wpAny M A (callWith pos (.ref q) [] (backTo pos (starEach [.Starred e pp] env)) []) Q E s := by
  rw [he]
  exact ks_call (P := MethP (hd.heap_39 w.params) q g self) rfl (keeps_M hf) (ks_lone h)
end

section
variable {prog : Program} {w : World} {A : Around} {E : Value → Shared → Prop} {s : Shared} {h₀ : Heap} {L : Addr} {m : Str → Option Value} {news : List (Addr × Obj)}
theorem Gives.useM {f self : Value} {q : Addr} {args : List Value} {P : Value → Heap → Prop} {Q : Value → Shared → Prop} (hq : (q, methodObj f self) ∈ news) (G : Gives prog w A f (self :: args) P s) (F : Fr h₀ L s.heap m) (N : News h₀ L s.heap news)
    (h : ∀ v h' tk, P v h' → Fr h₀ L h' m → News h₀ L h' news → Q v { s with heap := h', toks := tk }) : wpAny (model prog w) A (call (.ref q) args) Q E s :=
  call_meth N hq (G.code F N h)
theorem Gives.self {x C f : Addr} {es : List DictEntry} {n : Nat} {args : List Value} {P : Value → Heap → Prop} (O : Ok w s.heap) (S : SelfAt s.heap x C es n) (G : Gives prog w A (.ref f) (.ref x :: args) P s)
    (hs : findIn (hd.heap_39 w.params) (.ref C) "__call__" = some (some (.ref f))) (hf : isFn (hd.heap_39 w.params) (.ref f) = true) (hfn : fnIn (hd.heap_39 w.params) f = true) : Gives prog w A (.ref x) args P s := by
  obtain ⟨dx, I⟩ := S.inst
  exact kco_code O.k I rfl hs hf hfn G
end

theorem all_loop_strs {prog : Program} {w : World} {A : Around} {R : Result → Shared → Prop} {I : Addr} {fp wr : List Addr} {n : Nat} {P : Nat → Value → Prop} {St : Nat → Heap → Prop} (W : Walks prog w A.in1 I fp wr n P St) (tr : Nat → Bool)
    (htr : ∀ i v, P i v → ∃ x t, v = .str x t ∧ x.length ≤ 1000000 ∧ tr i = ((x.length : Int) != 0)) : ∀ (k i : Nat) (s : Shared), n - i = k → i ≤ n → St i s.heap →
    (∀ h' tk, (∀ b o, b ∉ wr → s.heap.get? b = some o → h'.get? b = some o) → R (.ok (.ret (.bool (((List.range n).drop i).all tr)))) { s with heap := h', toks := tk }) →
    codeAny (model prog w) A (.builtin "all.loop" ⟨[.ref I], []⟩) R s := by
  intro k
  induction k with
  | zero =>
    intro i s hk hi hst hR
    have hin : i = n := by omega
    subst hin
    refine codeAny_builtin F.entry_all_loop ?_
    rw [Around.under_plainId F.plain_all_loop _]
    show wpAny _ A.in1 (pyNext (.ref I) >>= _) _ _ s
    refine wpAny_bind (W.done s _ _ hst fun h' tk hk' => ?_)
    refine wpAny_bind (wpAny_rule (wpAny_pure ?_))
    have := hR h' tk hk'
    rw [List.drop_of_length_le (by simp)] at this
    exact this
  | succ k ih =>
    intro i s hk hi hst hR
    have hlt : i < n := by omega
    have hd : (List.range n).drop i = i :: (List.range n).drop (i + 1) := by
      rw [List.drop_eq_getElem_cons (by simpa using hlt)]; simp
    refine codeAny_builtin F.entry_all_loop ?_
    rw [Around.under_plainId F.plain_all_loop _]
    show wpAny _ A.in1 (pyNext (.ref I) >>= _) _ _ s
    refine wpAny_bind (W.item i s _ _ hlt hst fun v h' tk hP hst' hk' => ?_)
    obtain ⟨x, t, rfl, hx, ht⟩ := htr i v hP
    refine wpAny_bind (wpAny_holding (PySem.P.truthy_str (by omega) ?_))
    refine wpAny_bind (wpAny_letGo ?_)
    rw [← ht]
    cases hb : tr i with
    | true =>
      simp only [if_true]
      refine wpAny_pure ⟨plainId_quiet F.plain_all_loop _, ih (i + 1) _ (by omega) hlt hst' fun h'' tk'' hk'' => ?_⟩
      have := hR h'' tk'' fun b o hbw e => hk'' b o hbw (hk' b o hbw e)
      rw [hd, List.all_cons, hb, Bool.true_and] at this
      exact this
    | false =>
      simp only [Bool.false_eq_true, if_false]
      refine wpAny_bind (wpAny_rule (wpAny_pure ?_))
      have := hR h' (tk + 1 + 1) hk'
      rw [hd, List.all_cons, hb, Bool.false_and] at this
      exact this
/-- all(t) of a tuple of texts -/
theorem all_tup {prog : Program} {w : World} {A : Around} {E : Value → Shared → Prop} {s : Shared} {h₀ : Heap} {L : Addr} {m : Str → Option Value} {news : List (Addr × Obj)} {D : Addr} {vs : List Value} {ks : List Str} {Q : Value → Shared → Prop} (hh : A.handled = none) (F : Fr h₀ L s.heap m)
    (N : News h₀ L s.heap news) {o : Obj} (hm : (D, o) ∈ news) (ho : o = tupObj vs ∨ ∃ k, o = listOf vs.toArray k) (hi : StrsAre vs ks) (hl : ∀ x ∈ ks, x.length ≤ 1000000)
    (h : ∀ h' tk, Fr h₀ L h' m → News h₀ L h' news → Q (.bool (ks.all fun x => decide (x.length ≠ 0))) { s with heap := h', toks := tk }) :
    wpAny (model prog w) A (call (.builtin "all") [.ref D]) Q E s := by
  have hlen : ks.length = vs.length := hi.len_eq.symm
  have key : ∀ (I : Addr) (ob : Obj), h₀.get? I = none → I ≠ L → (∀ q ∈ news, q.1 ≠ I) → ∀ h' : Heap, (∀ b o, b ∉ [I] → (s.heap.push ob).get? b = some o → h'.get? b = some o) → Fr h₀ L h' m ∧ News h₀ L h' news := by
    intro I ob i1 i2 i3 h' hk
    have F1 : Fr h₀ L (s.heap.push ob) m := F.push ob
    refine ⟨⟨F1.ns.at' fun o e => hk L o (fun q => i2 (List.mem_singleton.mp q).symm) e, fun b o e => hk b o (fun q => by rw [List.mem_singleton.mp q, i1] at e; cases e) (F1.keep b o e), F1.above⟩, fun q hq => ⟨hk _ _ (fun p => i3 q hq (List.mem_singleton.mp p)) (Heap.get?_push_of_some _ (N q hq).1), (N q hq).2⟩⟩
  have hI0 : h₀.get? s.heap.objs.size = none := next_is_new F
  have hIL : s.heap.objs.size ≠ L := Nat.ne_of_gt (nslt F.ns)
  have hIn : ∀ q ∈ news, q.1 ≠ s.heap.objs.size := fun q hq => Nat.ne_of_lt (nlt (N q hq).1)
  have hne : D ≠ s.heap.objs.size := hIn _ hm
  have fin : ∀ h' tk ob, (∀ b o, b ∉ [s.heap.objs.size] → (s.heap.push ob).get? b = some o → h'.get? b = some o) → Q (.bool (((List.range vs.toArray.size).drop 0).all fun i => ((ks.getD i Str.empty).length : Int) != 0)) { s with heap := h', toks := tk } := by
    intro h' tk ob hk
    obtain ⟨F', N'⟩ := key _ ob hI0 hIL hIn h' hk
    have e : ((List.range vs.toArray.size).drop 0).all (fun i => ((ks.getD i Str.empty).length : Int) != 0) = ks.all fun x => decide (x.length ≠ 0) := by
      rw [List.drop_zero, List.size_toArray, ← hlen, Bool.eq_iff_iff, List.all_eq_true, List.all_eq_true]
      constructor
      · intro hall x hx
        obtain ⟨i, hi', rfl⟩ := List.getElem_of_mem hx
        have := hall i (List.mem_range.mpr hi')
        simp [List.getD_eq_getElem?_getD, hi'] at this
        exact decide_eq_true (by omega)
      · intro hall i hi'
        have hi' := List.mem_range.mp hi'
        have := hall _ (List.getElem_mem hi')
        simp [List.getD_eq_getElem?_getD, hi']
        simpa using this
    rw [e]
    exact h h' tk F' N'
  have hv : ∀ i v, vs.toArray[i]? = some v → ∃ x t, v = .str x t ∧ x.length ≤ 1000000 ∧ (((ks.getD i Str.empty).length : Int) != 0) = ((x.length : Int) != 0) := by
    intro i v e
    obtain ⟨y, t, rfl, hy⟩ := hi.item i v (by simpa using e)
    exact ⟨y, t, rfl, hl y (List.mem_of_getElem? hy), by simp [List.getD_eq_getElem?_getD, hy]⟩
  refine call_function_tree PySem.F.kind_all PySem.F.plain_all PySem.F.entry_all (PySem.F.args_all1 _) ?_
  unfold Builtin.«all»
  refine wpAny_bind (m := oneArg "all" _) (wpAny_pure ?_)
  rcases ho with rfl | ⟨kl, rfl⟩
  · have ht : s.heap.IsTuple D vs.toArray := ⟨_, (N _ hm).1, rfl, _, rfl⟩
    refine wpAny_bind (wpAny_pyIter_tuple ht ?_)
    have W := Walks.tuple (prog := prog) (w := w) (A := A.in1) hh s.heap.objs.size D hne vs.toArray
    have ht1 : (s.heap.push { cls := .type "tuple_iterator", data := .fields #[.ref D, .int 0 0] }).IsTuple D vs.toArray := ⟨tupObj vs, Heap.get?_push_of_some _ (N _ hm).1, rfl, 0, rfl⟩
    refine wpAny_pure ⟨plainId_quiet PySem.F.plain_all_loop _, all_loop_strs W _ hv _ 0 _ rfl (Nat.zero_le _) ⟨⟨_, Heap.get?_push_size _ rfl, rfl, rfl⟩, ht1⟩ fun h' tk hk => ?_⟩
    exact fin h' tk _ hk
  · have ht : s.heap.IsList D vs.toArray := ⟨_, (N _ hm).1, rfl, _, rfl⟩
    refine wpAny_bind (wpAny_pyIter_list ht ?_)
    have W := Walks.list (prog := prog) (w := w) (A := A.in1) hh s.heap.objs.size D hne vs.toArray
    have ht1 : (s.heap.push { cls := .type "list_iterator", data := .fields #[.ref D, .int 0 0] }).IsList D vs.toArray := ⟨listOf vs.toArray kl, Heap.get?_push_of_some _ (N _ hm).1, rfl, kl, rfl⟩
    refine wpAny_pure ⟨plainId_quiet PySem.F.plain_all_loop _, all_loop_strs W _ hv _ 0 _ rfl (Nat.zero_le _) ⟨⟨_, Heap.get?_push_size _ rfl, rfl, rfl⟩, ht1⟩ fun h' tk hk => ?_⟩
    exact fin h' tk _ hk
/-- all((x, y)) of two texts -/
theorem all_two {prog : Program} {w : World} {A : Around} {E : Value → Shared → Prop} {s : Shared} {h₀ : Heap} {L : Addr} {m : Str → Option Value} {news : List (Addr × Obj)} {D : Addr} {x y : Str} {t u : Tok} {Q : Value → Shared → Prop} (hh : A.handled = none) (F : Fr h₀ L s.heap m)
    (N : News h₀ L s.heap news) (hm : (D, tupObj [.str x t, .str y u]) ∈ news) (hx : x.length ≤ 1000000) (hy : y.length ≤ 1000000)
    (h : ∀ h' tk, Fr h₀ L h' m → News h₀ L h' news → Q (.bool (decide (x.length ≠ 0) && decide (y.length ≠ 0))) { s with heap := h', toks := tk }) :
    wpAny (model prog w) A (call (.builtin "all") [.ref D]) Q E s := by
  refine all_tup hh F N hm (.inl rfl) (.cons x t (.cons y u .nil)) (by
    intro z hz
    rcases List.mem_cons.mp hz with rfl | hz
    · exact hx
    · rw [List.mem_singleton.mp hz]; exact hy) fun h' tk F' N' => ?_
  have := h h' tk F' N'
  simpa using this

theorem newsOfRet {h₀ h1 h2 : Heap} {L : Addr} {m : Str → Option Value} {vs : List Value} {v : Value} (F : Fr h₀ L h1 m) (R : RetList h1 vs v h2) : ∃ a k, v = .ref a ∧ News h₀ L h2 [(a, listOf vs.toArray k)] := by
  obtain ⟨a, k, rfl, ha0, ha⟩ := R
  refine ⟨a, k, rfl, fun q hq => ?_⟩
  rw [List.mem_singleton.mp hq]
  refine ⟨ha, fun e => ?_, ?_⟩
  · obtain ⟨o, _, _, ho, _⟩ := F.ns
    have e : a = L := e
    subst e
    rw [ha0] at ho; cases ho
  · cases q : h₀.get? a with
    | none => rfl
    | some o =>
      have := F.keep a o q
      rw [ha0] at this; cases this

/-- a captured name is stored -/
theorem stE_C {M : Model} {A : Around} {E : Value → Shared → Prop} {s : Shared} {h₀ : Heap} {L : Addr} {m : Str → Option Value} {x : Str} {v : Value} {v₀ : Option Value} {Q : Unit → Shared → Prop} {env : Env} {c : Addr} {o : Obj} {pre post : List (Addr × Obj)} (hl : env.kindOf x = some .cell) (hk : env.scope.kind = .function) (hc : env.cells.lookup x = some c)
    (F : Fr h₀ L s.heap m) (N : News h₀ L s.heap (pre ++ (c, o) :: post)) (h1 : ∀ p ∈ pre, p.1 ≠ c) (h2 : ∀ p ∈ post, p.1 ≠ c) (ho : o.data = .cell v₀)
    (h : ∀ h' o', o'.data = .cell (some v) → Fr h₀ L h' m → News h₀ L h' (pre ++ (c, o') :: post) → Q () { s with heap := h' }) : wpAny M A (storeName env x v) Q E s := by
  have hm : (c, o) ∈ pre ++ (c, o) :: post := List.mem_append_right _ (.head _)
  refine wpAny_storeName_cell hk hl hc ⟨o, N.get hm, ho⟩ fun h' hc' hs => ?_
  obtain ⟨o', ho', hd⟩ := hc'
  exact h h' o' hd (F.update N hm hs) (N.setIn h1 h2 hs ho')

/-- a loop over a text's letters, the target captured or not -/
theorem turns_str {prog : Program} {w : World} {A : Around} {E : Value → Shared → Prop} {s : Shared} {h₀ : Heap} {env : Env} {m : Str → Option Value} {news : List (Addr × Obj)} {x : Str} {px : Pos} {body : List Stmt} {y : Str} {ty : Tok} {Q : Flow → Shared → Prop} (hh : A.handled = none) (J : Nat → (Str → Option Value) → List (Addr × Obj) → Prop)
    (F : Fr h₀ env.locals s.heap m) (N : News h₀ env.locals s.heap news) (h0 : J 0 m news)
    (turn : ∀ i c u m₁ news₁ h₁ tk₁ own, y.cps[i]? = some c → J i m₁ news₁ → (∀ p ∈ news₁, p.1 ≠ s.heap.objs.size) → (∀ p ∈ own, p.1 = s.heap.objs.size) → (∃ o, (s.heap.objs.size, o) ∈ own) → Fr h₀ env.locals h₁ m₁ → News h₀ env.locals h₁ (own ++ news₁) →
      wpAny (model prog w) A (assign (.Name x px) env (.str ⟨#[c]⟩ u)) (fun _ s₂ => wpAny (model prog w) A (execs body env)
        (LoopStepV h₀ env.locals [s.heap.objs.size] own (J (i + 1)) { s with heap := h₁, toks := tk₁ } (fun v s' => Q (.ret v) s') fun s' => Q .next s') E s₂) E { s with heap := h₁, toks := tk₁ })
    (done : ∀ m₁ news₁ h tk, J y.cps.size m₁ news₁ → Fr h₀ env.locals h m₁ → News h₀ env.locals h news₁ → Q .next { s with heap := h, toks := tk }) :
    wpAny (model prog w) A (pyIter (.str y ty)) (fun it s₂ => TurnsAt prog w A h₀ env (.Name x px) body Q E it s₂) E s := by
  have key : ∀ (ob : Obj) (St : Nat → Heap → Prop), Walks prog w A s.heap.objs.size [s.heap.objs.size] [s.heap.objs.size] y.cps.size (SignAt y) St → (∀ i h, St i h → ∃ o, h.get? s.heap.objs.size = some o) → St 0 (s.heap.push ob) →
      TurnsAt prog w A h₀ env (.Name x px) body Q E (.ref s.heap.objs.size) { s with heap := s.heap.push ob } := by
    intro ob St W live st
    have hI0 : h₀.get? s.heap.objs.size = none := next_is_new F
    refine ⟨s.heap.objs.size, [s.heap.objs.size], [s.heap.objs.size], y.cps.size, _, _, St, m, news, J, rfl, KTurns.ofWalks W (fun i v s' Q' E' _ hq => wpAny_pure hq), ?_, ?_, ?_, st, F.push ob, fun q hq => ⟨Heap.get?_push_of_some _ (N q hq).1, (N q hq).2⟩, h0, ?_, ?_⟩
    · intro hm
      exact absurd (nslt F.ns) ((List.mem_singleton.mp hm) ▸ Nat.lt_irrefl _)
    · intro b hb
      rw [List.mem_singleton.mp hb]; exact hI0
    · intro p hp hm
      exact absurd (List.mem_singleton.mp hm) (Nat.ne_of_lt (nlt (N p hp).1))
    · rintro i v m₁ news₁ h₁ tk₁ own hi hP hJ hnw hfp _ hown hst F1 N1
      obtain ⟨c, u, hc, rfl⟩ := hP
      obtain ⟨o, ho⟩ := live _ _ hst
      exact turn i c u m₁ news₁ h₁ tk₁ own hc hJ (fun p hp e => hnw p hp (e ▸ .head _)) (fun p hp => List.mem_singleton.mp (hfp p hp)) ⟨o, hown _ (.head _) hI0 o ho⟩ F1 N1
    · intro h' tk m' news' F1 N1 _ hJ
      exact done m' news' h' tk hJ F1 N1
  cases ha : y.cps.all (· < 128)
  · exact wpAny_pyIter_wide ha (key _ _ (Walks.strWide hh _ y ty) (fun i h st => let ⟨o, ho, _⟩ := st; ⟨o, ho⟩) ⟨_, Heap.get?_push_size _ rfl, rfl, rfl⟩)
  · exact wpAny_pyIter_ascii ha (key _ _ (Walks.strAscii hh _ y ty) (fun i h st => let ⟨o, ho, _⟩ := st; ⟨o, ho⟩) ⟨_, Heap.get?_push_size _ rfl, rfl, rfl⟩)
end
end Mine

-- part W1
namespace Mine
section
open PySem PySem.W PySem.Calls PyProof.Rows PySem.Spec
theorem fillme (w : World) : PySem.Challenge.rw_br0037_02 = PySem.Challenge.rw_br0037_02 ∧ hd.heap_39 w.params = hd.heap_39 w.params := by k_fill; exact ⟨rfl, rfl⟩

-- one step of a walk
local macro_rules | `(tactic| boot_fact) => `(tactic| with_reducible first
  | refine wpAny_execs_cons ?_
  | refine wpAny_execs_nil ?_
  | refine wpAny_Return_some ?_
  | refine wpAny_If ?_
  | (refine' wpAny_Assign_Name ?_ ?z1; (case z1 => with_unfolding_all rfl))
  | refine wpAny_AugAssign_Name ?_
  | refine isTrue_and_nil ?_
  | refine isTrue_and ?_
  | refine isTrue_or_nil ?_
  | refine isTrue_or ?_
  | (refine' wpAny_isTrue_Compare1 ?_ ?z1; (case z1 => with_unfolding_all rfl))
  | (refine' wpAny_Compare1 ?_ ?z1; (case z1 => with_unfolding_all rfl))
  | refine wpAny_BinOp ?_
  | refine wpAny_Constant_int ?_
  | refine Calls.Constant_str ?_
  | refine Subscript_ ?_
  | (refine' Call_ ?_ ?z1; (case z1 => with_unfolding_all rfl))
  | (refine' args_cons ?_ ?z1; (case z1 => with_unfolding_all rfl))
  | refine args_nil ?_
  | (refine' callWith_builtin1 ?_ ?z1 ?z2; (case z1 => with_unfolding_all rfl); (case z2 => with_unfolding_all rfl))
  | refine PyProof.Rows.lt_int ?_
  | refine PyProof.Rows.eq_int ?_
  | refine PyProof.Rows.iadd_int ?_
  | refine PyProof.Rows.eq_str ?_
  | (refine' PyProof.Rows.len_str (by have := sizeLine_eq; omega) ?_)
  | refine wpAny_truthy_bool ?_
  | (refine' storeX_L ?z1 ?z2 ?_ ?z3 ?z4; (case z1 => assumption); (case z2 => assumption); (case z3 => with_unfolding_all rfl); (case z4 => with_unfolding_all rfl); intro _ F N; (try dsimp only))
  | (refine' nm_old ?z1 ?z2 ?_ ?z3 ?z4; (case z1 => assumption); (case z2 => first | with_unfolding_all rfl | with_unfolding_all assumption); (case z3 => with_unfolding_all rfl); (case z4 => with_unfolding_all rfl))
  | (refine' nameX_L ?z1 ?z2 ?_ ?z3 ?z4 ?z5; (case z1 => assumption); (case z2 => first | with_unfolding_all rfl | with_unfolding_all assumption); (case z3 => with_unfolding_all rfl); (case z4 => with_unfolding_all rfl); (case z5 => decide))
  | (refine' nm_boot ?z1 ?z2 ?z3 ?z4 ?z5 ?_ ?z6 ?z7 ?z8; (case z1 => assumption); (case z2 => assumption); (case z3 => k_is); (case z4 => first | exact bt_len | exact bt_max | exact bt_min | exact bt_all | exact bt_isinstance | exact bt_int | exact bt_range | exact bt_enumerate | exact bt_list | exact bt_set | exact bt_map | exact bt_zip | exact bt_str | exact bt_tuple); (case z5 => decide); (case z6 => with_unfolding_all rfl); (case z7 => with_unfolding_all rfl); (case z8 => decide)))

def wStep (p : Str) (k : Nat) (c : Nat) : Nat := if p.cps[k]? = some c then k + 1 else k
def within (p y : Str) : Bool := y.cps.toList.foldl (wStep p) 0 == p.length

theorem within_pure {prog : Program} {w : World} {A : Around} {s : Shared} {x y : Str} {t u : Tok} (O : Ok w s.heap) (C : Calm A 1) (hx : x.length ≤ 1000) :
    Gives prog w A (.ref 275) [.str x t, .str y u] (fun v _ => v = .bool (within x y)) s := by
  refine Gives.mk ?_
  refine' enter (binds := [("part", .str x t), ("text", .str y u)]) (n := 0) O C ?ho ?hcd ?hb ?hl ?_ ?hc ?hco ?hg ?hk
  case ho => k_is
  case hcd => k_is
  case hb => exact BindsTo.of_eq rfl
  case hl => exact locs rfl
  case hc => decide
  case hco => rfl
  case hg => rfl
  case hk => rfl
  intro L h₁ tk F N O1 C1
  boot_fact
  boot_fact
  boot_fact
  boot_fact
  boot_fact
  refine' For_invV s.heap ?a ?b ?_ ?c ?d
  case a => rfl
  case b => rfl
  case c => intro _; rfl
  case d => passes_own
  boot_fact
  refine wpAny_pyIter_str fun o St W hst => ?_
  rename Fr _ _ _ _ => F
  refine loop_invN (fun i m nx => nx = [] ∧ ∃ k : Nat, ∃ t', k = (y.cps.toList.take i).foldl (wStep x) 0 ∧ k ≤ x.length ∧ m "k" = some (.int k t') ∧ m "part" = some (.str x t)) (W _ C1.hh) ?_ ?_ ?_ ?_ hst (F.push o) News.nil ?_ ?_ ?_
  · intro hm
    exact absurd F.ns.lt ((List.mem_singleton.mp hm) ▸ Nat.lt_irrefl _)
  · intro b hb
    rw [List.mem_singleton.mp hb]
    exact next_is_new F
  · exact fun _ hp => nomatch hp
  · exact fun _ hp => nomatch hp
  · exact ⟨rfl, 0, _, by simp, Nat.zero_le _, rfl, rfl⟩
  · rintro i v m₁ news₁ h tk own hi ⟨c, uc, hc, rfl⟩ _ hoff ⟨rfl, k, t', hk, hkx, hm1, hm2⟩ F N
    replace F : Fr s.heap L h _ := F
    replace N : News s.heap L h _ := N
    have hk63 : (x.length : Int) < 9223372036854775808 := by omega
    have hlen : x.length = x.cps.size := rfl
    have e1 : (y.cps.toList.take (i + 1)).foldl (wStep x) 0 = wStep x k c := by
      have hc' : y.cps.toList[i]? = some c := by simpa using hc
      rw [List.take_add_one, List.foldl_append, ← hk, hc']
      rfl
    repeat boot_fact
    refine PyProof.Rows.split_dec (fun hlt => ?_) (fun hge => ?_)
    · repeat boot_fact
      refine PyProof.Rows.item_str (fitsSsize_of (N := 9223372036854775808) (by omega) (by omega) (Int.le_refl _)) (by omega) (by omega) (fun _ => ?_)
      repeat boot_fact
      refine PyProof.Rows.split_bool (fun heq => ?_) (fun hne => ?_)
      · repeat boot_fact
        refine PyProof.Rows.split_bool (fun _ => ?_) (fun hf => ?_)
        · repeat boot_fact
          refine InvEndN.intro (by assumption) (by assumption) ⟨rfl, k + 1, _, ?_, ?_, rfl, ?_⟩ rfl (fun _ hp => nomatch hp) (fun _ hp => hp)
          · rw [e1, wStep]
            rw [item_nat (by omega), one_beq] at heq
            have : x.cps[k]? = some c := by
              have hb := of_decide_eq_true heq
              rw [Array.getD_eq_getD_getElem?] at hb
              have hs : k < x.cps.size := by omega
              rw [Array.getElem?_eq_getElem hs] at hb ⊢
              simpa using hb
            rw [if_pos this]
          · omega
          · with_unfolding_all assumption
        · cases hf
      · repeat boot_fact
        refine PyProof.Rows.split_bool (fun hf => ?_) (fun _ => ?_)
        · cases hf
        · repeat boot_fact
          refine InvEndN.intro (by assumption) (by assumption) ⟨rfl, k, _, ?_, hkx, by with_unfolding_all assumption, by with_unfolding_all assumption⟩ rfl (fun _ hp => nomatch hp) (fun _ hp => hp)
          rw [e1, wStep]
          rw [item_nat (by omega), one_beq] at hne
          have : ¬ x.cps[k]? = some c := by
            have hb := of_decide_eq_false hne
            rw [Array.getD_eq_getD_getElem?] at hb
            intro h
            rw [h] at hb
            exact hb rfl
          rw [if_neg this]
    · repeat boot_fact
      refine PyProof.Rows.split_bool (fun hf => ?_) (fun _ => ?_)
      · cases hf
      · repeat boot_fact
        refine InvEndN.intro (by assumption) (by assumption) ⟨rfl, k, _, ?_, hkx, by with_unfolding_all assumption, by with_unfolding_all assumption⟩ rfl (fun _ hp => nomatch hp) (fun _ hp => hp)
        rw [e1, wStep]
        have : ¬ x.cps[k]? = some c := by
          have hs : x.cps.size ≤ k := by omega
          rw [Array.getElem?_eq_none hs]
          intro h; cases h
        rw [if_neg this]
  · rintro m₁ news₁ h tk ⟨rfl, k, t', hk, hkx, hm1, hm2⟩ F N
    replace F : Fr s.heap L h _ := F
    replace N : News s.heap L h _ := N
    repeat boot_fact
    refine ⟨?_, _, _, rfl, F.keep⟩
    show Value.bool ((k : Int) == (x.length : Int)) = Value.bool (within x y)
    have hfull : y.cps.toList.take y.cps.size = y.cps.toList := List.take_of_length_le (by simp)
    rw [hfull] at hk
    rw [within, ← hk]
    congr 1
    rw [Bool.eq_iff_iff]
    simp only [beq_iff_eq]
    omega
end
end Mine

-- the step, for all the parts that follow
namespace Mine
section
open PySem PySem.W PySem.Calls PyProof.Rows PySem.Spec
-- one step of a walk
local macro_rules | `(tactic| boot_fact) => `(tactic| with_reducible first
  | refine wpAny_execs_cons ?_
  | refine Mine.if_T ?_
  | refine Mine.if_F ?_
  | refine wpAny_execs_nil ?_
  | refine wpAny_Return_some ?_
  | refine wpAny_If ?_
  | (refine' wpAny_Assign_Name ?_ ?z1; (case z1 => with_unfolding_all rfl))
  | (refine' plainObj_wpAny_Assign_Attribute ?_ ?z1; (case z1 => with_unfolding_all rfl))
  | refine PyProof.Rows.truthy_none ?_
  | (refine' wpAny_Assign_Subscript ?_ ?z1; (case z1 => with_unfolding_all rfl))
  | refine wpAny_AugAssign_Name ?_
  | refine isTrue_and_nil ?_
  | refine isTrue_and ?_
  | refine isTrue_or_nil ?_
  | refine isTrue_or ?_
  | refine isTrue_not ?_
  | (refine' wpAny_isTrue_Compare1 ?_ ?z1; (case z1 => with_unfolding_all rfl))
  | (refine' isTrue_plain ?_ ?z1; (case z1 => with_unfolding_all rfl))
  | (refine' PyProof.Rows.Attribute_Name_ ?_ ?z1; (case z1 => with_unfolding_all rfl))
  | refine PyProof.Rows.truthy_int ?_
  | refine PyProof.Rows.isnot_int_none ?_
  | refine isnot_none_none ?_
  | (refine' PyProof.Rows.truthy_tuple ?z1 ?z2 ?_; (case z1 => exact (News.isTup (by assumption) (by first | exact List.mem_cons_self | exact List.mem_cons_of_mem _ List.mem_cons_self | exact List.mem_cons_of_mem _ (List.mem_cons_of_mem _ List.mem_cons_self) | assumption))); (case z2 => simp))
  | (refine' PyProof.Rows.len_tuple ?z1 ?z2 ?_; (case z1 => exact (News.isTup (by assumption) (by first | exact List.mem_cons_self | exact List.mem_cons_of_mem _ List.mem_cons_self | exact List.mem_cons_of_mem _ (List.mem_cons_of_mem _ List.mem_cons_self) | assumption))); (case z2 => simp))
  | (refine' s_get ?z1 ?z2 ?z3 ?z4 ?z5 ?z6 ?z7 ?z8 ?z9 ?_; (case z1 => assumption); (case z2 => assumption); (case z3 => assumption); (case z4 => first | with_unfolding_all assumption | with_unfolding_all exact SelfAt.f (by assumption)); (case z5 => k_is); (case z6 => k_is); (case z7 => k_is); (case z8 => k_is); (case z9 => k_handed))
  | (refine' wpAny_Compare1 ?_ ?z1; (case z1 => with_unfolding_all rfl))
  | refine wpAny_BinOp ?_
  | refine wpAny_Constant_int ?_
  | refine Calls.Constant_str ?_
  | refine wpAny_Constant_none ?_
  | refine wpAny_Constant_bool ?_
  | refine call_int_int ?_
  | refine Subscript_ ?_
  | (refine' MethodCallStar_ ?_ ?z1; (case z1 => with_unfolding_all rfl))
  | (refine' s_statA ?z1 ?z2 ?z3 ?z4 ?z5 ?z6 ?z7 ?z8 ?z9 ?z10 ?z11 ?z12 ?z13 ?_; (case z1 => assumption); (case z2 => assumption); (case z3 => assumption); (case z4 => simp [clsNames]); (case z5 => k_is); (case z6 => k_is); (case z7 => k_is); (case z8 => k_is); (case z9 => k_is); (case z10 => k_is); (case z11 => decide +kernel); (case z12 => k_is); (case z13 => k_handed))
  | (refine' s_bound ?z1 ?z2 ?z3 ?z4 ?z5 ?z6 ?z7 ?z8 ?z9 ?z10 ?z11 ?z12 ?_; (case z1 => assumption); (case z2 => assumption); (case z3 => assumption); (case z4 => assumption); (case z5 => simp [clsNames]); (case z6 => k_is); (case z7 => k_is); (case z8 => k_is); (case z9 => k_is); (case z10 => k_is); (case z11 => k_is); (case z12 => decide +kernel); intro _ _ F N; (try dsimp only))
  | (refine' PyProof.Rows.MethodCall_ ?_ ?z1; (case z1 => with_unfolding_all rfl))
  | (refine' Call_ ?_ ?z1; (case z1 => with_unfolding_all rfl))
  | (refine' s_own ?z1 ?z2 ?z3 ?z4 ?z5 ?z6 ?z7 ?z8 ?z9 ?_; (case z1 => assumption); (case z2 => assumption); (case z3 => assumption); (case z4 => first | with_unfolding_all assumption | with_unfolding_all exact SelfAt.f (by assumption)); (case z5 => k_is); (case z6 => k_is); (case z7 => k_is); (case z8 => k_is); (case z9 => k_handed))
  | (refine' s_meth ?z1 ?z2 ?z3 ?z4 ?z5 ?z6 ?z7 ?_; (case z1 => assumption); (case z2 => assumption); (case z3 => assumption); (case z4 => simp [clsNames]); (case z5 => k_is); (case z6 => k_is); (case z7 => k_is))
  | (refine' s_stat ?z1 ?z2 ?z3 ?z4 ?z5 ?z6 ?z7 ?z8 ?z9 ?z10 ?z11 ?z12 ?z13 ?_; (case z1 => assumption); (case z2 => assumption); (case z3 => assumption); (case z4 => simp [clsNames]); (case z5 => k_is); (case z6 => k_is); (case z7 => k_is); (case z8 => k_is); (case z9 => k_is); (case z10 => k_is); (case z11 => decide +kernel); (case z12 => k_is); (case z13 => k_handed))
  | (refine' callWith_S ?z1 ?z2 ?_ ?z3; (case z1 => exact (Ok.k (by assumption))); (case z2 => k_is); (case z3 => with_unfolding_all rfl))
  | (refine' star_seq (T := "tuple") ?z1 ?z2 ?z3 ?z4 ?z5 (Or.inr rfl) ?z6 ?z7 ?_; (case z1 => assumption); (case z2 => assumption); (case z3 => first | exact List.mem_cons_self | exact List.mem_cons_of_mem _ List.mem_cons_self | exact List.mem_cons_of_mem _ (List.mem_cons_of_mem _ List.mem_cons_self) | assumption); (case z4 => with_unfolding_all rfl); (case z5 => with_unfolding_all rfl); (case z6 => with_unfolding_all rfl); (case z7 => rw [sizeLine_eq]; simp); intro _ F N; (try dsimp only))
  | (refine' star_seq (T := "list") ?z1 ?z2 ?z3 ?z4 ?z5 (Or.inl rfl) ?z6 ?z7 ?_; (case z1 => assumption); (case z2 => assumption); (case z3 => first | exact List.mem_cons_self | exact List.mem_cons_of_mem _ List.mem_cons_self | exact List.mem_cons_of_mem _ (List.mem_cons_of_mem _ List.mem_cons_self) | assumption); (case z4 => with_unfolding_all rfl); (case z5 => with_unfolding_all rfl); (case z6 => with_unfolding_all rfl); (case z7 => rw [sizeLine_eq]; simp); intro _ F N; (try dsimp only))
  | (refine' callWith_K ?z1 ?z2 ?_ ?z3 ?z4; (case z1 => exact (Ok.k (by assumption))); (case z2 => k_is); (case z3 => with_unfolding_all rfl); (case z4 => with_unfolding_all rfl))
  | (refine ⟨inOf (by assumption) (by assumption), ?_⟩; dsimp only [List.nil_append, List.cons_append])
  | (refine' args_cons ?_ ?z1; (case z1 => with_unfolding_all rfl))
  | refine args_nil ?_
  | refine List_ ?_
  | refine Tuple_ ?_
  | (refine' PyProof.Rows.callWith_builtin1 ?_ ?z1 ?z2; (case z1 => with_unfolding_all rfl); (case z2 => with_unfolding_all rfl))
  | (refine' PyProof.Rows.callWith_type1 ?_ ?z1 ?z2; (case z1 => with_unfolding_all rfl); (case z2 => with_unfolding_all rfl))
  | (refine' newList_N ?z1 ?z2 ?_ (Nat.le_of_ble_eq_true rfl); (case z1 => assumption); (case z2 => assumption); intro _ F N; (try dsimp only))
  | (refine' newTuple_N ?z1 ?z2 ?_ (Nat.le_of_ble_eq_true rfl); (case z1 => assumption); (case z2 => assumption); intro _ F N; (try dsimp only))
  | refine assignInOrder_cons ?_
  | refine wpAny_assign_Name ?_
  | refine assignInOrder_nil ?_
  | refine bindName_ ?_
  | (refine' unpackItemsN_ ?z1 ?z2 ?z3 ?z4 ?z5 ?_; (case z1 => assumption); (case z2 => assumption); (case z3 => exact (News.isTup (by assumption) List.mem_cons_self)); (case z4 => with_unfolding_all assumption); (case z5 => with_unfolding_all rfl); intro _ F N; dsimp only [List.reverse, List.reverseAux, List.map])
  | refine PyProof.Rows.lt_int ?_
  | refine PyProof.Rows.eq_int ?_
  | refine PyProof.Rows.ne_int ?_
  | refine PyProof.Rows.add_int ?_
  | refine PyProof.Rows.sub_int ?_
  | refine PyProof.Rows.iadd_int ?_
  | refine PyProof.Rows.isub_int ?_
  | refine PyProof.Rows.eq_str ?_
  | refine PyProof.Rows.ne_str ?_
  | (refine' PyProof.Rows.len_str ?z1 ?_; (case z1 => omega))
  | refine wpAny_truthy_bool ?_
  | refine PyProof.Rows.UnaryOp_ ?_
  | (refine' PyProof.Rows.mod_int ?z1 ?_; (case z1 => decide))
  | (refine' PyProof.Rows.floordiv_int ?z1 ?_ ?z2; (case z1 => decide); (case z2 => exact (Or.inl (PyProof.noPylong_small (by decide)))))
  | refine BoolOp_or ?_
  | refine wpAny_Slice ?_
  | refine evalPart_N ?_
  | refine evalPart_S ?_
  | refine BoolOp_one ?_
  | refine IfExp_ ?_
  | refine PyProof.Rows.neg_int ?_
  | refine PyProof.Rows.not_of ?_
  | refine add_int_bool ?_
  | (refine' stE_L ?z1 ?z2 ?z3 ?z4 ?z5 ?_; (case z1 => with_unfolding_all rfl); (case z2 => with_unfolding_all rfl); (case z3 => assumption); (case z4 => assumption); (case z5 => with_unfolding_all rfl); intro _ _ F N; (try dsimp only))
  | (refine' ldE_L ?z1 ?z2 ?z3 ?z4 ?z5 ?_; (case z1 => with_unfolding_all rfl); (case z2 => with_unfolding_all rfl); (case z3 => assumption); (case z4 => with_unfolding_all rfl); (case z5 => first | with_unfolding_all rfl | with_unfolding_all assumption))
  | (refine' nmE_L ?z1 ?z2 ?z3 ?z4 ?z5 ?z6 ?_; (case z1 => with_unfolding_all rfl); (case z2 => with_unfolding_all rfl); (case z3 => decide); (case z4 => assumption); (case z5 => with_unfolding_all rfl); (case z6 => first | with_unfolding_all rfl | with_unfolding_all assumption))
  | (refine' nmE_C ?z1 ?z2 ?z3 ?z4 ?z5 ?z6 ?z7 ?_; (case z1 => with_unfolding_all rfl); (case z2 => with_unfolding_all rfl); (case z3 => with_unfolding_all rfl); (case z4 => decide); (case z5 => assumption); (case z6 => first | exact List.mem_cons_self | exact List.mem_cons_of_mem _ List.mem_cons_self | exact List.mem_cons_of_mem _ (List.mem_cons_of_mem _ List.mem_cons_self) | exact List.mem_cons_of_mem _ (List.mem_cons_of_mem _ (List.mem_cons_of_mem _ List.mem_cons_self)) | assumption); (case z7 => assumption))
  | (refine' nmE_boot ?z1 ?z2 ?z3 ?z4 ?z5 ?z6 ?z7 ?z8 ?z9 ?z10 ?_; (case z1 => with_unfolding_all rfl); (case z2 => with_unfolding_all rfl); (case z3 => with_unfolding_all rfl); (case z4 => with_unfolding_all rfl); (case z5 => decide); (case z6 => k_is); (case z7 => first | exact bt_len | exact bt_max | exact bt_min | exact bt_all | exact bt_isinstance | exact bt_int | exact bt_range | exact bt_enumerate | exact bt_list | exact bt_set | exact bt_map | exact bt_zip | exact bt_str | exact bt_tuple); (case z8 => decide); (case z9 => assumption); (case z10 => assumption))
  | (refine' if_is_T ?z1 ?_; (case z1 => with_unfolding_all rfl))
  | (refine' if_is_F ?z1 ?_; (case z1 => with_unfolding_all rfl))
  | (refine' nmE_glob ?z1 ?z2 ?z3 ?z4 ?z5 ?z6 ?z7 ?_; (case z1 => with_unfolding_all rfl); (case z2 => with_unfolding_all rfl); (case z3 => with_unfolding_all rfl); (case z4 => decide); (case z5 => k_is); (case z6 => assumption); (case z7 => assumption)))

-- part Dyn
section
open PySem PySem.W PySem.Calls PyProof.Rows PySem.Spec
theorem dyn_pure {prog : Program} {w : World} {A : Around} {s : Shared} {x y : Str} {t u : Tok} {self : Value} (O : Ok w s.heap) (C : Calm A 1) (hx : x.length ≤ 1000) (hy : y.length ≤ 1000) :
    Gives prog w A (.ref 203) [self, .str x t, .str y u] (fun v _ => ∃ t', v = .str ⟨(tr x.cps.toList y.cps.toList x.length y.length []).toArray⟩ t') s := by
  refine Gives.mk ?_
  refine' enterC (binds := [("self", self), ("seq1", .str x t), ("seq2", .str y u)]) (n := 0) O C ?ho ?hcd ?hb ?hl ?hc ?_ ?hco ?hg ?hk
  case ho => k_is
  case hcd => k_is
  case hb => exact BindsTo.of_eq rfl
  case hl => exact rfl
  case hc => decide +kernel
  case hco => rfl
  case hg => rfl
  case hk => rfl
  intro L h₁ tk cells F N Y O1 C1
  obtain ⟨oc, rfl, hoc⟩ := CellsAre.one Y
  replace hoc : oc.data = .cell (some (.str y u)) := hoc
  replace F : Fr s.heap L h₁ (fun z => if z = "seq1" then some (.str x t) else if z = "self" then some self else none) := F
  boot_fact
  refine' listcomp_store (h₀ := s.heap) (x.length + 1) (fun _ => true) (fun lim _ y' h => RowAt lim (List.replicate (y.length + 1) 0) y' h) ?a1 ?a2 ?a3 ?a4 ?a5 ?a6 ?a7 ?a8 ?a9 ?a10 ?_ ?a11
  case a1 => rfl
  case a2 => rfl
  case a3 => decide
  case a4 => rfl
  case a5 => decide
  case a6 => rfl
  case a7 => rfl
  case a8 => rfl
  case a9 => exact fun lim i y' h h' g k => g.above k
  case a10 => exact fun lim i y' h g => g.live
  case a11 => intro _; rfl
  repeat boot_fact
  refine range_it (n := x.length + 1) C1.hh F N (by omega) (by omega) ?_
  intro I St h2 tk2 F2 N2 S2
  have hLs : L < h2.objs.size := nslt F2.ns
  refine ⟨_, _, F2, N2, S2.newL, ⟨⟨I, [I], _, St, rfl, S2.walks, S2.low, by rw [sizeLine_eq]; omega, S2.st, ?_, ?_⟩⟩, ?_⟩
  · intro i v s₃ m₃ hi hv hn hm hk
    exact wpAny_pure ⟨rfl, (Kept.rfl' _).toC hn⟩
  · intro i v s₃ m₃ hi hv _ hn hm hk
    have hk0 : ∀ b o, s.heap.get? b = some o → s₃.heap.get? b = some o := fun b o e => hk b o (fun q => by rw [q, S2.base] at e; cases e) (F2.keep b o e)
    have F3 : Fr s.heap (h2.objs.size + 1) s₃.heap m₃ := ⟨hn, hk0, Nat.le_trans F2.above (Nat.le_succ_of_le (Nat.le_of_lt hLs))⟩
    obtain ⟨all, NA, hall⟩ := allNews s.heap (h2.objs.size + 1) s₃.heap
    have N3 : News s.heap (h2.objs.size + 1) s₃.heap ((L + 1, oc) :: all) := fun q hq => by
      rcases List.mem_cons.mp hq with rfl | hq
      · have hq : (L + 1, oc) ∈ [(L + 1, oc)] := .head _
        exact ⟨hk _ _ (S2.apart _ hq) (N2 _ hq).1, Nat.ne_of_lt (Nat.lt_succ_of_lt (nlt (N2 _ hq).1)), (N2 _ hq).2.2⟩
      · exact NA q hq
    have hall' : ∀ b o, b ≠ h2.objs.size + 1 → s.heap.get? b = none → s₃.heap.get? b = some o → (b, o) ∈ (L + 1, oc) :: all := fun b o x y z => .tail _ (hall b o x y z)
    clear hall NA
    clear F F2 N N2
    repeat boot_fact
    rename Fr _ _ _ _ => F4
    rename News _ _ _ _ => N4
    refine' mul_list ?f ?n ?e0 ?e1 ?e2 ?e3 ?_
    case f => exact F4
    case n => exact N4
    case e0 => exact N4.get (.head _)
    case e1 => omega
    case e2 => omega
    case e3 => simp; omega
    intro h5 F5 N5
    refine ⟨⟨_, _, _, rfl, Nat.succ_le_of_lt (nslt F4.ns), N5.get (.head _), ?_⟩, ⟨_, _, rfl, keptOf F5 N5 hk0 fun b o x y z => .tail _ (.tail _ (hall' b o x y z)), F5.ns⟩, ?_⟩
    · rw [listMul_foldl_if]
      have : ((y.length : Int) + 1).toNat = y.length + 1 := by omega
      rw [this]
      simpa using ints_zeros (y.length + 1) _
    · exact newValOf (keptOf F4 N4 hk0 fun b o x y z => .tail _ (hall' b o x y z)) F4.ns
  · intro h' tk ys k F3 N3 hap hP
    replace F3 : Fr s.heap L h' _ := F3
    replace N3 : News s.heap L h' _ := N3
    dsimp only at F3 N3 hP ⊢
    have hys : (List.range (x.length + 1)).filter (fun _ => true) = List.range (x.length + 1) := by simp
    rw [hys] at hP
    have hL1 : @LT.lt Nat instLTNat (L + 1) h2.objs.size := nlt (N2 (L + 1, oc) (.head _)).1
    obtain ⟨r, vs, kk, eys, inj, hrow, hlim, NR⟩ := rows_of (h₀ := s.heap) (L := L) (Nat.lt_of_lt_of_le hLs (Nat.le_add_right _ 2)) (Nat.le_trans F2.above (Nat.le_trans (Nat.le_of_lt hLs) (Nat.le_add_right _ 2))) hP hap
    obtain ⟨T, hT⟩ : ∃ T, T = h2.objs.size := ⟨_, rfl⟩
    have hTr : ∀ p, p < x.length + 1 → ∀ q ∈ [(T, listOf ys k), (L + 1, oc)], q.1 ≠ r p := by
      intro p hp q hq e
      have h1 := hlim p hp
      rcases List.mem_cons.mp hq with rfl | hq
      · subst hT
        dsimp only at e
        have : @Eq Nat _ _ := e
        omega
      · rw [List.mem_singleton.mp hq] at e
        dsimp only at e
        have : @Eq Nat _ _ := e
        omega
    rw [← hT] at F3 N3
    have NT : News s.heap L h' ([(T, listOf ys k), (L + 1, oc)] ++ rowsLed (x.length + 1) r fun p => listOf (vs p) (kk p)) := fun q hq => by
      rcases List.mem_append.mp hq with hq | hq
      · exact N3 q hq
      · exact NR q hq
    have hyr : ∀ p, p < x.length + 1 → ys.toList[p]? = some (.ref (r p)) := fun p hp => by rw [eys]; simp [hp]
    have hrow : ∀ p, p < x.length + 1 → IntsAre (vs p).toList ((List.range (y.length + 1)).map fun q => (cell x.cps.toList y.cps.toList 0 0 p q : Int)) := by
      intro p hp
      have h1 := hrow p hp
      have : ((List.range (y.length + 1)).map fun q => (cell x.cps.toList y.cps.toList 0 0 p q : Int)) = List.replicate (y.length + 1) 0 := by
        apply List.ext_getElem?
        intro q
        by_cases hq : q < y.length + 1
        · simp [hq, cell_zero]
        · rw [List.getElem?_eq_none (by simp; omega), List.getElem?_eq_none (by simp; omega)]
      rw [this]
      exact h1
    clear hP NR N3 N N2 F F2 hap S2
    have hls_signs : ∀ x : Str, (signs x).length = x.length := fun x => by rw [signs_length]
    boot_fact
    have hh := C1.hh
    refine' For_pair3F F3 hh ?b1 ?b2 ?b3 ?_ ?b5 ?b6
    case b1 => rfl
    case b2 => rfl
    case b3 => rfl
    case b5 => intro _; rfl
    case b6 => passes_own
    repeat boot_fact
    refine call_enum_str hh F3 NT fun h3 e3 F5 N5 S5 => ?_
    refine' S5 _ rfl _ _ _ _ (fun i m news => ∃ vs : Nat → Array Value, news = [(T, listOf ys k), (L + 1, oc)] ++ rowsLed (x.length + 1) r (fun p => listOf (vs p) (kk p)) ∧
      (∀ p, p < x.length + 1 → IntsAre (vs p).toList ((List.range (y.length + 1)).map fun q => (cell x.cps.toList y.cps.toList i 0 p q : Int))) ∧ m "lengths" = some (.ref T) ∧ m "seq1" = some (.str x t)) ⟨vs, rfl, hrow, rfl, rfl⟩ ?step ?done
    case step =>
      clear hrow N5 F5 S5 F3 NT
      rintro i a t1 v1 m₁ news₁ s₁ own ⟨h, tk₁, rfl⟩ ha hKa ⟨vs₁, rfl, hrow₁, hm1, hm2⟩ hadr hown F N
      obtain ⟨u1, rfl⟩ := hKa
      have hmc : (L + 1, oc) ∈ own ++ ([(T, listOf ys k), (L + 1, oc)] ++ rowsLed (x.length + 1) r fun p => listOf (vs₁ p) (kk p)) := List.mem_append_right _ (List.mem_append_left _ (.tail _ (.head _)))
      replace F : Fr s.heap L h _ := F
      replace N : News s.heap L h _ := N
      dsimp only
      boot_fact
      refine' For_pair3F F hh ?b1 ?b2 ?b3 ?_ ?b5 ?b6
      case b1 => rfl
      case b2 => rfl
      case b3 => rfl
      case b5 => intro _; rfl
      case b6 => passes_own
      repeat boot_fact
      refine call_enum_str hh F N fun h3 e3 F5 N5 S5 => ?_
      have hadr1 : ∀ p, p < x.length + 1 → ∀ q ∈ own, q.1 ≠ r p := fun p hp q hq e => hown q hq (r p, _) (List.mem_append_right _ (rowsLed_mem hp)) e
      refine' S5 _ rfl _ _ _ _ (fun j m news => ∃ vs : Nat → Array Value, news = own ++ ([(T, listOf ys k), (L + 1, oc)] ++ rowsLed (x.length + 1) r (fun p => listOf (vs p) (kk p))) ∧
        (∀ p, p < x.length + 1 → IntsAre (vs p).toList ((List.range (y.length + 1)).map fun q => (cell x.cps.toList y.cps.toList i j p q : Int))) ∧ m "lengths" = some (.ref T) ∧ m "seq1" = some (.str x t) ∧ m "i" = some (.int i t1) ∧ m "char1" = some (.str a u1)) ⟨vs₁, rfl, hrow₁, hm1, hm2, rfl, rfl⟩ ?step2 ?done2
      case step2 =>
        clear hrow₁ N5 F5 S5 F N hm1 hm2 hmc
        rintro j b t2 v m₁ news₁ s₁ own2 ⟨h, tk₁, rfl⟩ hb hKb ⟨vs₁, rfl, hrow₁, hm1, hm2, hm3, hm4⟩ _ hown2 F N
        obtain ⟨u2, rfl⟩ := hKb
        replace F : Fr s.heap L h _ := F
        replace N : News s.heap L h _ := N
        dsimp only
        have hij := sign_lt ha
        have hjj := sign_lt hb
        have h1 : ∀ p, p < x.length + 1 → ∀ q ∈ own2 ++ own, q.1 ≠ r p := fun p hp q hq => by
          rcases List.mem_append.mp hq with hq | hq
          · exact fun e => hown2 q hq (r p, _) (List.mem_append_right _ (List.mem_append_right _ (rowsLed_mem hp))) e
          · exact hadr1 p hp q hq
        rw [← List.append_assoc] at N
        have hmT : (T, listOf ys k) ∈ (own2 ++ own) ++ ([(T, listOf ys k), (L + 1, oc)] ++ rowsLed (x.length + 1) r fun p => listOf (vs₁ p) (kk p)) := List.mem_append_right _ (List.mem_append_left _ (.head _))
        have hmR : ∀ p, p < x.length + 1 → (r p, listOf (vs₁ p) (kk p)) ∈ (own2 ++ own) ++ ([(T, listOf ys k), (L + 1, oc)] ++ rowsLed (x.length + 1) r fun p => listOf (vs₁ p) (kk p)) := fun p hp => List.mem_append_right _ (List.mem_append_right _ (rowsLed_mem hp))
        repeat boot_fact
        refine PyProof.Rows.split_bool (fun heq => ?_) (fun hne => ?_)
        · repeat boot_fact
          refine read_ref N hmT (k := i) rfl (by omega) (hyr i (by omega)) ?_
          repeat boot_fact
          refine read_int N (hmR i (by omega)) (hrow₁ i (by omega)) (k := j) rfl (by omega) (by omega) (fun t3 => ?_)
          repeat boot_fact
          refine read_ref N hmT (k := i + 1) (by omega) (by omega) (hyr (i + 1) (by omega)) ?_
          repeat boot_fact
          refine set_rows (q := j + 1) F N hrow₁ (p := i + 1) (by omega) inj (h1 (i + 1) (by omega)) (hTr (i + 1) (by omega)) (by omega) (by omega) (by omega) (fun h4 F4 N4 => ?_)
          repeat boot_fact
          refine LoopStep3.of2 (LoopStep2.intro F4 (by rw [List.append_assoc] at N4; exact N4) ?_ ⟨_, rfl, ?_, hm1, hm2, hm3, hm4⟩)
          · simp [rowsLed_fst]
          · intro p hp
            rw [cell_map (z := (cell x.cps.toList y.cps.toList i j i j : Int) + 1)]
            · exact rows_set hrow₁ (by omega) p hp
            · rw [signs_beq ha hb] at heq
              rw [cell_old, lc_succ, if_pos (of_decide_eq_true heq)]; rfl
        · repeat boot_fact
          refine read_ref N hmT (k := i + 1) (by omega) (by omega) (hyr (i + 1) (by omega)) ?_
          repeat boot_fact
          refine read_int N (hmR (i + 1) (by omega)) (hrow₁ (i + 1) (by omega)) (k := j) rfl (by omega) (by omega) (fun t3 => ?_)
          repeat boot_fact
          refine read_ref N hmT (k := i) rfl (by omega) (hyr i (by omega)) ?_
          repeat boot_fact
          refine read_int N (hmR i (by omega)) (hrow₁ i (by omega)) (k := j + 1) (by omega) (by omega) (by omega) (fun t4 => ?_)
          repeat boot_fact
          refine max_two_N hh F N fun h4 tk4 F4 N4 => ?_
          repeat boot_fact
          refine read_ref N4 hmT (k := i + 1) (by omega) (by omega) (hyr (i + 1) (by omega)) ?_
          repeat boot_fact
          refine set_rows (q := j + 1) F4 N4 hrow₁ (p := i + 1) (by omega) inj (h1 (i + 1) (by omega)) (hTr (i + 1) (by omega)) (by omega) (by omega) (by omega) (fun h4 F4 N4 => ?_)
          repeat boot_fact
          refine LoopStep3.of2 (LoopStep2.intro F4 (by rw [List.append_assoc] at N4; exact N4) ?_ ⟨_, rfl, ?_, hm1, hm2, hm3, hm4⟩)
          · simp [rowsLed_fst]
          · intro p hp
            rw [cell_map (z := if (cell x.cps.toList y.cps.toList i j i (j + 1) : Int) > (cell x.cps.toList y.cps.toList i j (i + 1) j : Int) then (cell x.cps.toList y.cps.toList i j i (j + 1) : Int) else (cell x.cps.toList y.cps.toList i j (i + 1) j : Int))]
            · exact rows_set hrow₁ (by omega) p hp
            · rw [signs_beq ha hb] at hne
              rw [cell_old, cell_left, lc_succ, if_neg (of_decide_eq_false hne)]
              split <;> omega
      case done2 =>
        rintro h4 tk4 m4 news4 F4 N4 hadr4 ⟨vs4, rfl, hrow4, e1, e2, e3, e4⟩
        replace F4 : Fr s.heap L h4 _ := F4
        replace N4 : News s.heap L h4 _ := N4
        dsimp only
        repeat boot_fact
        refine LoopStep3.of2 (LoopStep2.intro F4 N4 ?_ ⟨_, rfl, ?_, e1, e2⟩)
        · simp [rowsLed_fst]
        · intro p hp
          rw [cell_map_turn]
          have := hrow4 p hp
          rw [hls_signs y] at this
          exact this
    case done =>
      rintro h4 tk4 m4 news4 F4 N4 hadr4 ⟨vs4, rfl, hrow4, e1, e2⟩
      replace F4 : Fr s.heap L h4 _ := F4
      replace N4 : News s.heap L h4 _ := N4
      dsimp only
      have hmc : (L + 1, oc) ∈ [(T, listOf ys k), (L + 1, oc)] ++ rowsLed (x.length + 1) r fun p => listOf (vs4 p) (kk p) := List.mem_append_left _ (.tail _ (.head _))
      repeat boot_fact
      refine Assign_Tuple_swapped (names := ["i", "j"]) ?_ (by rfl) (by rfl)
      repeat boot_fact
      rename Fr _ _ _ _ => F6
      rename News _ _ _ _ => N6
      replace F6 : Fr s.heap L _ _ := F6
      replace N6 : News s.heap L _ _ := N6
      replace N6 := PyProof.Rows.News.tail' N6
      refine wpAny_While ?_
      refine codeAny_whileLoop (fun n s' => ∃ i j acc h' tk m ti tj t' zi zj zr, s' = { s with heap := h', toks := tk } ∧ n = i + j ∧ i ≤ x.length ∧ j ≤ y.length ∧ tr x.cps.toList y.cps.toList i j acc = tr x.cps.toList y.cps.toList x.length y.length [] ∧ acc.length + i ≤ x.length ∧ Fr s.heap L h' m ∧
        News s.heap L h' ([(T, listOf ys k), (L + 1, oc)] ++ rowsLed (x.length + 1) r (fun p => listOf (vs4 p) (kk p))) ∧ m "lengths" = some (.ref T) ∧ m "seq1" = some (.str x t) ∧ m "i" = some (.int zi ti) ∧ m "j" = some (.int zj tj) ∧ m "result" = some (.str zr t') ∧ zi = (i : Int) ∧ zj = (j : Int) ∧ zr = ⟨acc.toArray⟩) ?_ (x.length + y.length) ⟨x.length, y.length, [], _, _, _, _, _, _, _, _, _, rfl, rfl, Nat.le_refl _, Nat.le_refl _, rfl, by simp, F6, N6, e1, e2, rfl, rfl, rfl, rfl, rfl, rfl⟩
      have hrow5 : ∀ p, p < x.length + 1 → IntsAre (vs4 p).toList ((List.range (y.length + 1)).map fun q => (lc x.cps.toList y.cps.toList p q : Int)) := by
        intro p hp
        have h1 := hrow4 p hp
        rw [hls_signs x] at h1
        have h2 : ((List.range (y.length + 1)).map fun q => (cell x.cps.toList y.cps.toList x.length 0 p q : Int)) = (List.range (y.length + 1)).map fun q => (lc x.cps.toList y.cps.toList p q : Int) := List.map_congr_left fun q _ => by rw [cell_full _ _ _ _ _ (by omega)]
        rw [h2] at h1
        exact h1
      clear hrow4 F4 N4 F6 N6 e1 e2 hmc F5 N5 S5 F3 NT hrow hadr4
      rintro n _ ⟨i, j, acc, h6, tk6, m6, ti, tj, t', zi, zj, zr, rfl, rfl, hi, hj, htr, hacc, F, N, e1, e2, e3, e4, e5, rfl, rfl, rfl⟩
      have hmc : (L + 1, oc) ∈ [(T, listOf ys k), (L + 1, oc)] ++ rowsLed (x.length + 1) r fun p => listOf (vs4 p) (kk p) := List.mem_append_left _ (.tail _ (.head _))
      repeat boot_fact
      refine PyProof.Rows.split_bool (fun c1 => ?_) (fun c1 => ?_)
      · repeat boot_fact
        refine PyProof.Rows.split_bool (fun c2 => ?_) (fun c2 => ?_)
        · obtain ⟨i, rfl⟩ : ∃ i', i = i' + 1 := ⟨i - 1, by have : ¬ i = 0 := (fun h => by subst h; exact absurd c1 (by decide)); omega⟩
          obtain ⟨j, rfl⟩ : ∃ j', j = j' + 1 := ⟨j - 1, by have : ¬ j = 0 := (fun h => by subst h; exact absurd c2 (by decide)); omega⟩
          have hmT : (T, listOf ys k) ∈ [(T, listOf ys k), (L + 1, oc)] ++ rowsLed (x.length + 1) r fun p => listOf (vs4 p) (kk p) := List.mem_append_left _ (.head _)
          have hmR : ∀ p, p < x.length + 1 → (r p, listOf (vs4 p) (kk p)) ∈ [(T, listOf ys k), (L + 1, oc)] ++ rowsLed (x.length + 1) r fun p => listOf (vs4 p) (kk p) := fun p hp => List.mem_append_right _ (rowsLed_mem hp)
          repeat boot_fact
          refine read_ref N hmT (k := i + 1) rfl (by omega) (hyr (i + 1) (by omega)) ?_
          repeat boot_fact
          refine read_int N (hmR (i + 1) (by omega)) (hrow5 (i + 1) (by omega)) (k := j + 1) rfl (by omega) (by omega) (fun t3 => ?_)
          repeat boot_fact
          refine read_ref N hmT (k := i) (by omega) (by omega) (hyr i (by omega)) ?_
          repeat boot_fact
          refine read_int N (hmR i (by omega)) (hrow5 i (by omega)) (k := j + 1) rfl (by omega) (by omega) (fun t4 => ?_)
          repeat boot_fact
          refine PyProof.Rows.split_bool (fun d1 => ?_) (fun d1 => ?_)
          · repeat boot_fact
            rename Fr _ _ _ _ => F6
            rename News _ _ _ _ => N6
            replace d1 : (lc x.cps.toList y.cps.toList (i + 1) (j + 1) : Int) = (lc x.cps.toList y.cps.toList i (j + 1) : Int) := by simpa using d1
            refine ⟨i + (j + 1), by omega, i, j + 1, acc, _, _, _, _, _, _, _, _, _, rfl, rfl, by omega, hj, ?_, by omega, F6, N6, e1, e2, rfl, e4, e5, by omega, by omega, rfl⟩
            rw [← htr, tr_succ, if_pos (by omega)]
          · repeat boot_fact
            refine read_ref N hmT (k := i + 1) rfl (by omega) (hyr (i + 1) (by omega)) ?_
            repeat boot_fact
            refine read_int N (hmR (i + 1) (by omega)) (hrow5 (i + 1) (by omega)) (k := j + 1) rfl (by omega) (by omega) (fun t3 => ?_)
            repeat boot_fact
            refine read_ref N hmT (k := i + 1) rfl (by omega) (hyr (i + 1) (by omega)) ?_
            repeat boot_fact
            refine read_int N (hmR (i + 1) (by omega)) (hrow5 (i + 1) (by omega)) (k := j) (by omega) (by omega) (by omega) (fun t4 => ?_)
            repeat boot_fact
            have d1' : ¬ lc x.cps.toList y.cps.toList (i + 1) (j + 1) = lc x.cps.toList y.cps.toList i (j + 1) := by
              have : ¬ (lc x.cps.toList y.cps.toList (i + 1) (j + 1) : Int) = (lc x.cps.toList y.cps.toList i (j + 1) : Int) := by simpa using d1
              omega
            refine PyProof.Rows.split_bool (fun d2 => ?_) (fun d2 => ?_)
            · repeat boot_fact
              rename Fr _ _ _ _ => F6
              rename News _ _ _ _ => N6
              have d2' : lc x.cps.toList y.cps.toList (i + 1) (j + 1) = lc x.cps.toList y.cps.toList (i + 1) j := by
                have : (lc x.cps.toList y.cps.toList (i + 1) (j + 1) : Int) = (lc x.cps.toList y.cps.toList (i + 1) j : Int) := by simpa using d2
                omega
              refine ⟨(i + 1) + j, by omega, i + 1, j, acc, _, _, _, _, _, _, _, _, _, rfl, rfl, hi, by omega, ?_, by omega, F6, N6, e1, e2, e3, rfl, e5, by omega, by omega, rfl⟩
              rw [← htr, tr_succ, if_neg d1', if_pos d2']
            · have d2' : ¬ lc x.cps.toList y.cps.toList (i + 1) (j + 1) = lc x.cps.toList y.cps.toList (i + 1) j := by
                have : ¬ (lc x.cps.toList y.cps.toList (i + 1) (j + 1) : Int) = (lc x.cps.toList y.cps.toList (i + 1) j : Int) := by simpa using d2
                omega
              have hsame := tr_same _ _ _ _ d1' d2'
              have hxi : i < x.cps.size := hi
              have hyj : j < y.cps.size := hj
              have hsame' : x.cps.getD i 0 = y.cps.getD j 0 := by
                rw [Array.getElem?_toList, Array.getElem?_toList] at hsame
                simp [Array.getD_eq_getD_getElem?, hsame]
              repeat boot_fact
              refine wpAny_Assert_holds ?_
              repeat boot_fact
              refine read_str (k := i) (by omega) (by omega) (by omega) ?_
              repeat boot_fact
              refine read_str (k := j) (by omega) (by omega) (by omega) ?_
              repeat boot_fact
              refine ⟨by rw [one_beq, decide_eq_true hsame'], ?_⟩
              repeat boot_fact
              refine read_str (k := i) (by omega) (by omega) (by omega) ?_
              repeat boot_fact
              refine PyProof.Rows.add_str (fun t7 tk7 => ?_) (by rw [sizeLine_eq]; show 1 + acc.toArray.size ≤ _; simp; omega)
              repeat boot_fact
              rename Fr _ _ _ _ => F6
              rename News _ _ _ _ => N6
              refine ⟨i + j, by omega, i, j, x.cps.toList.getD i 0 :: acc, _, _, _, _, _, _, _, _, _, rfl, rfl, by omega, by omega, ?_, by simp; omega, F6, N6, e1, e2, rfl, rfl, rfl, by omega, by omega, ?_⟩
              · rw [← htr, tr_succ, if_neg d1', if_neg d2']
              · show (⟨#[x.cps.getD i 0] ++ acc.toArray⟩ : Str) = _
                simp [Array.getD_eq_getD_getElem?]
        · repeat boot_fact
          have : j = 0 := by have := c2; simp at this; omega
          subst this
          rw [tr_zero_right] at htr
          exact ⟨⟨t', by rw [← htr]⟩, _, _, rfl, F.keep⟩
      · repeat boot_fact
        have : i = 0 := by have := c1; simp at this; omega
        subst this
        rw [tr_zero_left] at htr
        exact ⟨⟨t', by rw [← htr]⟩, _, _, rfl, F.keep⟩
end

-- part Ident
section
open PySem PySem.W PySem.Calls PyProof.Rows PySem.Spec
theorem ident2 {prog : Program} {w : World} {A : Around} {s : Shared} {x y : Str} {t u : Tok} (O : Ok w s.heap) (C : Calm A 1) :
    Gives prog w A (.ref 100) [.str x t, .str y u] (fun v _ => v = .bool (decide (x = y))) s := by
  refine Gives.mk ?_
  refine' enterV (n := 0) (vs := [.str x t, .str y u]) (binds := fun D => [("elements", .ref D)]) O C ?ho ?hcd ?hp ?hg ?hl ?_ ?hc ?hco ?hgen ?hk
  case ho => k_is
  case hcd => k_is
  case hp => exact rfl
  case hg => intro D; exact rfl
  case hl => intro D; exact locs rfl
  case hc => decide
  case hco => rfl
  case hgen => rfl
  case hk => rfl
  intro D L h₁ tk hDL F N O1 C1
  have hh := C1.hh
  boot_fact
  refine wpAny_Try_except ?_
  repeat boot_fact
  refine set_tuple_N hh F N (.head _) (.cons x t (.cons y u .nil)) (by simp) fun h2 tk2 o F2 N2 S2 => ?_
  repeat boot_fact
  refine len_sl1 (own := []) N2 S2 (by have := met_len [x, y] 2; simp; omega) ?_
  repeat boot_fact
  refine ⟨?_, _, _, rfl, F2.keep⟩
  show Value.bool (((met [x, y] 2).length : Int) == 1) = _
  rw [met_two]
  by_cases e : x = y <;> simp [e]
end

-- part Cyc
section
open PySem PySem.W PySem.Calls PyProof.Rows PySem.Spec
theorem cyc_pure {prog : Program} {w : World} {A : Around} {s : Shared} {x y : Str} {t u : Tok} {me : Addr} {es : List DictEntry} {n : Nat} (O : Ok w s.heap) (C : Calm A 2) (hx : x.length ≤ 1000) (hy : y.length ≤ 1000) (S : SelfAt s.heap me 266 es n) :
    Gives prog w A (.ref 256) [.ref me, .str x t, .str y u] (fun v _ => ∃ t', v = .int (lev x.cps.toList y.cps.toList x.length y.length : Nat) t') s := by
  refine Gives.mk ?_
  refine' enter (binds := [("self", .ref me), ("s1", .str x t), ("s2", .str y u)]) (n := 1) O C ?ho ?hcd ?hb ?hl ?_ ?hc ?hco ?hg ?hk
  case ho => k_is
  case hcd => k_is
  case hb => exact BindsTo.of_eq rfl
  case hl => exact locs rfl
  case hc => decide +kernel
  case hco => rfl
  case hg => rfl
  case hk => rfl
  intro L h₁ tk F N O1 C1
  have hh := C1.hh
  repeat boot_fact
  rename Fr _ _ _ _ => F1
  rename News _ _ _ _ => N1
  refine mk_range F1 N1 fun h2 F2 N2 => ?_
  repeat boot_fact
  refine' list_range_ints (n := y.length + 1) hh F2 N2 (.head _) ?e1 (by omega) ?_
  case e1 => omega
  intro h2 tk2 vs c F2 N2 hv
  repeat boot_fact
  rename Fr _ _ _ _ => F3
  rename News _ _ _ _ => N3
  dsimp only at F3 N3
  refine' For_invV s.heap ?a ?b ?_ ?c ?d
  case a => rfl
  case b => rfl
  case c => intro _; rfl
  case d => passes_own
  repeat boot_fact
  refine' range1_it (n := x.length) hh F3 N3 ?e1 (by omega) ?_
  case e1 => omega
  intro I St h4 tk4 F4 N4 S4 hI
  refine loop_src (fun i m news => ∃ (a : Addr) (vs : Array Value) (c : Nat), (a, listOf vs c) ∈ news ∧ IntsAre vs.toList ((List.range (y.length + 1)).map fun q => (lev x.cps.toList y.cps.toList i q : Int)) ∧ m "cur" = some (.ref a) ∧ m "s1" = some (.str x t) ∧ m "s2" = some (.str y u) ∧ m "self" = some (.ref me) ∧ ∃ tc, m "cols" = some (.int ((y.length : Int) + 1) tc)) F4 N4 S4 hI ⟨_, vs, c, .head _, ?_, rfl, rfl, rfl, rfl, ?_⟩ ?turn ?done
  · simpa only [lev_zero_left] using hv
  · exact ⟨_, rfl⟩
  case turn =>
    clear F4 N4 S4 F3 N3 F2 N2 F1 N1
    rintro i v m₁ news₁ h5 tk5 own hi ⟨tv, rfl⟩ ⟨a, vs, c, hmem, hv, e1, e2, e3, e4, tc, e5⟩ hoff ⟨oI, hoI⟩ hfp F N
    replace F : Fr s.heap L h5 _ := F
    replace N : News s.heap L h5 _ := N
    dsimp only
    boot_fact
    refine Assign_Tuple_swapped (names := ["prev", "cur"]) ?_ (by rfl) (by rfl)
    repeat boot_fact
    rename Fr _ _ _ _ => F1
    rename News _ _ _ _ => N1
    refine' mul_zero (n := y.length) F1 N1 (.head _) ?e1 (by omega) ?_
    case e1 => omega
    intro h6 zs F2 N2 hzs
    refine add_lists F2 N2 (N2.isList (.tail _ (.tail _ (.head _)))) (N2.isList (.head _)) (fun h7 F7 N7 => ?_) ?e2
    case e2 => have := hzs.length; simp at this; rw [sizeLine_eq]; simp; omega
    dsimp only at N2 F2 F7 N7 ⊢
    have hcI := fresh_ne N2 (Nat.le_refl _)
    obtain ⟨cA, hcA⟩ : ∃ cA : Addr, cA = h6.objs.size := ⟨_, rfl⟩
    rw [← hcA] at hcI N7 ⊢
    replace N7 : News s.heap L h7 ((cA, listOf (.int (1 + (i : Int)) tv :: zs.toList).toArray 0) :: (a, listOf vs c) :: own) := fun q hq => by
      rcases List.mem_cons.mp hq with rfl | hq
      · exact N7 _ (.head _)
      · rcases List.mem_cons.mp hq with rfl | hq
        · exact N7 _ (.tail _ (.tail _ (.tail _ (.tail _ (List.mem_append_right _ hmem)))))
        · exact N7 _ (.tail _ (.tail _ (.tail _ (.tail _ (List.mem_append_left _ hq)))))
    have haI : ∀ q ∈ (a, listOf vs c) :: own, q.1 ≠ cA := fun q hq => by
      rcases List.mem_cons.mp hq with rfl | hq
      · exact hcI _ (.tail _ (.tail _ (.tail _ (List.mem_append_right _ hmem))))
      · exact hcI _ (.tail _ (.tail _ (.tail _ (List.mem_append_left _ hq))))
    have hrow : IntsAre (.int (1 + (i : Int)) tv :: zs.toList) ((List.range (y.length + 1)).map fun q => if q ≤ 0 then (lev x.cps.toList y.cps.toList (i + 1) q : Int) else 0) := by
      rw [List.range_succ_eq_map, List.map_cons, List.map_map]
      have e : ((if (0 : Nat) ≤ 0 then (lev x.cps.toList y.cps.toList (i + 1) 0 : Int) else 0)) = 1 + (i : Int) := by rw [if_pos (Nat.le_refl _), lev_zero_right]; omega
      rw [e]
      refine .cons _ tv ?_
      have e2 : (List.range y.length).map ((fun (q : Nat) => if q ≤ 0 then (lev x.cps.toList y.cps.toList (i + 1) q : Int) else 0) ∘ Nat.succ) = List.replicate y.length 0 := by
        apply List.ext_getElem?
        intro q
        by_cases hq : q < y.length
        · simp [hq]
        · rw [List.getElem?_eq_none (by simp; omega), List.getElem?_eq_none (by simp; omega)]
      rw [e2]
      exact hzs
    clear N2 F2 N1 F1 N F hcA
    repeat boot_fact
    rename Fr _ _ _ _ => F8
    rename News _ _ _ _ => N8
    replace N8 := PyProof.Rows.News.tail' N8
    refine' For_invV s.heap ?a2 ?b2 ?_ ?c2 ?d2
    case a2 => rfl
    case b2 => rfl
    case c2 => intro _; rfl
    case d2 => passes_own
    repeat boot_fact
    refine' range1_it (n := y.length) hh F8 N8 ?e3 (by omega) ?_
    case e3 => omega
    intro I2 St2 h9 tk9 F9 N9 S9 hI9
    refine loop_src (fun j m news => ∃ vs2 : Array Value, news = (cA, listOf vs2 0) :: (a, listOf vs c) :: own ∧ IntsAre vs2.toList ((List.range (y.length + 1)).map fun q => if q ≤ j then (lev x.cps.toList y.cps.toList (i + 1) q : Int) else 0) ∧ m "cur" = some (.ref cA) ∧ m "prev" = some (.ref a) ∧ m "s1" = some (.str x t) ∧ m "s2" = some (.str y u) ∧ m "self" = some (.ref me) ∧ m "r" = some (.int (1 + (i : Int)) tv) ∧ m "cols" = some (.int ((y.length : Int) + 1) tc)) F9 N9 S9 hI9 ⟨_, rfl, hrow, rfl, rfl, e2, e3, e4, rfl, e5⟩ ?turn2 ?done2
    case turn2 =>
      clear F9 N9 S9 F8 N8 F7 N7 e1 e2 e3 e4 e5 hrow
      rintro j v m₂ news₂ h6 tk6 own2 hj ⟨tw, rfl⟩ ⟨vs2, rfl, hrow, e1, e2, e3, e4, e5, e6, e7⟩ hoff2 ⟨oI2, hoI2⟩ hfp2 F N
      replace F : Fr s.heap L h6 _ := F
      replace N : News s.heap L h6 _ := N
      dsimp only
      have hma : (a, listOf vs c) ∈ own2 ++ (cA, listOf vs2 0) :: (a, listOf vs c) :: own := List.mem_append_right _ (.tail _ (.head _))
      have hmc : (cA, listOf vs2 0) ∈ own2 ++ (cA, listOf vs2 0) :: (a, listOf vs c) :: own := List.mem_append_right _ (.head _)
      repeat boot_fact
      refine' read_int N hma hv (k := j + 1) ?r1 (by omega) (by omega) ?_
      case r1 => omega
      intro t3
      repeat boot_fact
      rename Fr _ _ _ _ => F1
      rename News _ _ _ _ => N1
      refine' read_int N1 hmc hrow (k := j) ?r2 (by omega) (by omega) ?_
      case r2 => omega
      intro t4
      rw [if_pos (Nat.le_refl j)]
      repeat boot_fact
      refine' read_str (k := i) ?r3 (by omega) (by omega) ?_
      case r3 => omega
      repeat boot_fact
      refine' read_str (k := j) ?r4 (by omega) (by omega) ?_
      case r4 => omega
      repeat boot_fact
      rename Fr _ _ _ _ => F2
      rename News _ _ _ _ => N2
      refine' Gives.use ?g ?gF ?gN ?_
      case gF => exact F2
      case gN => exact N2
      case g => exact ident2 (O.keeps F2.keep) (C1.le (by omega))
      intro v h7 tk7 hv7 F7 N7
      subst hv7
      clear F2 N2 F1 N1 F N
      have hma : (a, listOf vs c) ∈ own2 ++ (cA, listOf vs2 0) :: (a, listOf vs c) :: own := List.mem_append_right _ (.tail _ (.head _))
      have hmc : (cA, listOf vs2 0) ∈ own2 ++ (cA, listOf vs2 0) :: (a, listOf vs c) :: own := List.mem_append_right _ (.head _)
      repeat boot_fact
      rename Fr _ _ _ _ => F2
      rename News _ _ _ _ => N2
      refine' read_int N2 hma hv (k := j) ?r5 (by omega) (by omega) ?_
      case r5 => omega
      intro t6
      repeat boot_fact
      rename Fr _ _ _ _ => F2
      rename News _ _ _ _ => N2
      refine' min3_N hh ?g2 ?g3 ?_
      case g2 => exact F2
      case g3 => exact N2
      intro h8 tk8 t8 F8 N8
      repeat boot_fact
      rename Fr _ _ _ _ => F2
      rename News _ _ _ _ => N2
      have hlen2 := hrow.length
      rw [List.length_map, List.length_range] at hlen2
      refine' set_cell1 (pre := own2) (post := (a, listOf vs c) :: own) (q := j + 1) ?s1 ?s2 ?s3 haI ?s4 ?s5 (by omega) ?_
      case s1 => exact F2
      case s2 => exact N2
      case s3 => exact fun p hp e => hoff2 (cA, listOf vs2 0) (.head _) (by have := List.mem_singleton.mp (hfp2 p hp); rw [← this, ← e])
      case s4 => omega
      case s5 => omega
      intro h10 F10 N10
      repeat boot_fact
      refine LoopStepU.intro F10 N10 ?_ ⟨_, rfl, ?_, e1, e2, e3, e4, e5, e6, e7⟩
      · intro p hp hm
        rcases List.mem_cons.mp hp with rfl | hp
        · exact hoff2 (cA, listOf vs2 0) (.head _) (List.mem_singleton.mp hm)
        · exact hoff2 p (.tail _ hp) (List.mem_singleton.mp hm)
      · have h := ints_set (q := j + 1) (z := (lev x.cps.toList y.cps.toList (i + 1) (j + 1) : Int)) (t := t8) hrow
        rw [range_map_set, row_step (f := fun q => (lev x.cps.toList y.cps.toList (i + 1) q : Int)) rfl] at h
        rw [lev_cell (by omega) (by omega)]
        exact h
    case done2 =>
      rintro m₂ news₂ h6 tk6 ⟨vs2, rfl, hrow, e1, e2, e3, e4, e5, e6, e7⟩ F N
      replace F : Fr s.heap L h6 _ := F
      replace N : News s.heap L h6 _ := N
      dsimp only
      repeat boot_fact
      refine LoopStepU.intro (news₂ := [(cA, listOf vs2 0)]) F (fun q hq => ?_) ?_ ⟨cA, vs2, 0, .head _, ?_, e1, e3, e4, e5, tc, e7⟩
      · rcases List.mem_append.mp hq with hq | hq
        · exact N q (.tail _ (.tail _ hq))
        · rw [List.mem_singleton.mp hq]; exact N _ (.head _)
      · intro p hp hm
        rw [List.mem_singleton.mp hp] at hm
        exact haI (I, oI) (.tail _ hoI) (List.mem_singleton.mp hm).symm
      · rw [row_full (f := fun q => (lev x.cps.toList y.cps.toList (i + 1) q : Int))] at hrow
        exact hrow
  case done =>
    rintro m₂ news₂ h6 tk6 ⟨a, vs, c, hmem, hv, e1, e2, e3, e4, tc, e5⟩ F N
    replace F : Fr s.heap L h6 _ := F
    replace N : News s.heap L h6 _ := N
    dsimp only
    repeat boot_fact
    refine' item_list_ints_negR ?i1 hv (by omega) ?i2 (by omega) ?_
    case i1 => exact News.isList N hmem
    case i2 => simp; omega
    intro t9
    repeat boot_fact
    refine ⟨⟨t9, ?_⟩, _, _, rfl, F.keep⟩
    dsimp only
    congr 1
    simp only [List.length_map, List.length_range]
    have e : (-1 + ((y.length + 1 : Nat) : Int)).toNat = y.length := by omega
    rw [e]
    simp
end

-- part Quick
section
open PySem PySem.W PySem.Calls PyProof.Rows PySem.Spec
theorem maximum2 {prog : Program} {w : World} {A : Around} {s : Shared} {x y : Str} {t u : Tok} (O : Ok w s.heap) (C : Calm A 1) (hx : x.length ≤ 1000) (hy : y.length ≤ 1000) :
    Gives prog w A (.ref 55) [.str x t, .str y u] (fun v _ => ∃ t', v = .int ((max x.length y.length : Nat) : Int) t') s := by
  refine Gives.mk ?_
  refine' enterV (n := 0) (vs := [.str x t, .str y u]) (binds := fun D => [("sequences", .ref D)]) O C ?ho ?hcd ?hp ?hg ?hl ?_ ?hc ?hco ?hgen ?hk
  case ho => k_is
  case hcd => k_is
  case hp => exact rfl
  case hg => intro D; exact rfl
  case hl => intro D; exact locs rfl
  case hc => decide
  case hco => rfl
  case hgen => rfl
  case hk => rfl
  intro D L h₁ tk hDL F N O1 C1
  have hh := C1.hh
  repeat boot_fact
  refine mk_map F N (.head _) fun I T it h2 F2 N2 i1 i2 i3 => ?_
  repeat boot_fact
  refine max_map hh F2 N2 i1 i2 i3 (.head _) (by omega) (by omega) fun h3 tk3 t3 F3 N3 => ?_
  repeat boot_fact
  exact ⟨⟨t3, rfl⟩, _, _, rfl, F3.keep⟩
theorem getseq2 {prog : Program} {w : World} {A : Around} {s : Shared} {x y : Str} {t u : Tok} {me C₀ : Addr} {es : List DictEntry} {n : Nat} (O : Ok w s.heap) (C : Calm A 1) (S : SelfAt s.heap me C₀ es n) (hC : C₀ = 225 ∨ C₀ = 266) :
    Gives prog w A (.ref 108) [.ref me, .str x t, .str y u] (RetList s.heap [.str x t, .str y u]) s := by
  refine Gives.mk ?_
  refine' enterVC (n := 0) (vs := [.str x t, .str y u]) (binds := fun D => [("self", .ref me), ("sequences", .ref D)]) O C ?ho ?hcd ?hp ?hg ?hl ?hnd ?_ ?hco ?hgen ?hk
  case ho => k_is
  case hcd => k_is
  case hp => exact rfl
  case hg => intro D; exact rfl
  case hl => intro D; exact rfl
  case hnd => decide +kernel
  case hco => rfl
  case hgen => rfl
  case hk => rfl
  intro D L h₁ tk cells F N Y O1 C1
  have hh := C1.hh
  obtain ⟨oc, rfl, hoc⟩ := CellsAre.one Y
  replace hoc : oc.data = .cell (some (.ref me)) := hoc
  replace F : Fr s.heap L h₁ _ := F
  dsimp only [List.cons_append, List.nil_append] at N
  obtain ⟨tq, hq⟩ := S.q
  rcases hC with rfl | rfl
  all_goals
    repeat boot_fact
    refine call_list_seq D (.inr rfl) (N _ (.tail _ (.head _))).1 rfl rfl (fun h' c' hk hg => ?_) (by rw [sizeLine_eq]; simp)
    repeat boot_fact
    exact ⟨⟨_, c', rfl, Heap.get?_none_of_le (Nat.le_trans F.above (Nat.le_of_lt (nslt F.ns))), hg⟩, _, _, rfl, fun b o e => hk b o (F.keep b o e)⟩
theorem quick2 {prog : Program} {w : World} {A : Around} {s : Shared} {x y : Str} {t u : Tok} {me : Addr} {es : List DictEntry} {n : Nat} (O : Ok w s.heap) (C : Calm A 2) (S : SelfAt s.heap me 266 es n) (hx : x.length ≤ 1000) (hy : y.length ≤ 1000) :
    Gives prog w A (.ref 93) [.ref me, .str x t, .str y u] (fun v _ => if x = y then ∃ t', v = .int 0 t' else if x.length = 0 ∨ y.length = 0 then ∃ t', v = .int ((max x.length y.length : Nat) : Int) t' else v = .none) s := by
  refine Gives.mk ?_
  refine' enterV (n := 1) (vs := [.str x t, .str y u]) (binds := fun D => [("self", .ref me), ("sequences", .ref D)]) O C ?ho ?hcd ?hp ?hg ?hl ?_ ?hc ?hco ?hgen ?hk
  case ho => k_is
  case hcd => k_is
  case hp => exact rfl
  case hg => intro D; exact rfl
  case hl => intro D; exact locs rfl
  case hc => decide
  case hco => rfl
  case hgen => rfl
  case hk => rfl
  intro D L h₁ tk hDL F N O1 C1
  have hh := C1.hh
  repeat boot_fact
  rename Fr _ _ _ _ => F2
  rename News _ _ _ _ => N2
  refine' Gives.use ?g ?gF ?gN ?_
  case gF => exact F2
  case gN => exact N2
  case g => exact ident2 (O.keeps F2.keep) (C1.le (by omega))
  intro v h3 tk3 hv F3 N3
  subst hv
  try dsimp only at F3 N3
  clear F2 N2
  repeat boot_fact
  refine PyProof.Rows.split_bool (fun c1 => ?_) (fun c1 => ?_)
  · have c1 := of_decide_eq_true c1
    repeat boot_fact
    dsimp only
    rw [if_pos c1]
    exact ⟨⟨_, rfl⟩, _, _, rfl, F3.keep⟩
  · have c1 := of_decide_eq_false c1
    repeat boot_fact
    refine all_two hh F3 N3 (.head _) (by omega) (by omega) fun h4 tk4 F4 N4 => ?_
    repeat boot_fact
    refine PyProof.Rows.split_bool (fun c2 => ?_) (fun c2 => ?_)
    · have c2 : x.length = 0 ∨ y.length = 0 := by
        simp at c2
        omega
      repeat boot_fact
      rename Fr _ _ _ _ => F5
      rename News _ _ _ _ => N5
      refine' Gives.use ?g2 ?gF2 ?gN2 ?_
      case gF2 => exact F5
      case gN2 => exact N5
      case g2 => exact maximum2 (O.keeps F5.keep) (C1.le (by omega)) hx hy
      intro v h6 tk6 hv F6 N6
      repeat boot_fact
      dsimp only
      rw [if_neg c1, if_pos c2]
      exact ⟨hv, _, _, rfl, F6.keep⟩
    · have c2 : ¬ (x.length = 0 ∨ y.length = 0) := by
        simp at c2
        omega
      repeat boot_fact
      dsimp only
      rw [if_neg c1, if_neg c2]
      exact ⟨rfl, _, _, rfl, F4.keep⟩
end

-- part Levc
section
open PySem PySem.W PySem.Calls PyProof.Rows PySem.Spec
def LevD (x y : Str) (d : Nat) : Prop := if x = y then d = 0 else if x.length = 0 ∨ y.length = 0 then d = max x.length y.length else d = lev x.cps.toList y.cps.toList x.length y.length
theorem lev_call {prog : Program} {w : World} {A : Around} {s : Shared} {x y : Str} {t u : Tok} {me : Addr} {es : List DictEntry} {n : Nat} (O : Ok w s.heap) (C : Calm A 4) (hx : x.length ≤ 1000) (hy : y.length ≤ 1000) (S : SelfAt s.heap me 266 es n) :
    Gives prog w A (.ref 263) [.ref me, .str x t, .str y u] (fun v _ => ∃ (d : Nat) (t' : Tok), v = .int (d : Int) t' ∧ LevD x y d) s := by
  refine Gives.mk ?_
  refine' enter (binds := [("self", .ref me), ("s1", .str x t), ("s2", .str y u)]) (n := 3) O C ?ho ?hcd ?hb ?hl ?_ ?hc ?hco ?hg ?hk
  case ho => k_is
  case hcd => k_is
  case hb => exact BindsTo.of_eq rfl
  case hl => exact locs rfl
  case hc => decide +kernel
  case hco => rfl
  case hg => rfl
  case hk => rfl
  intro L h₁ tk F N O1 C1
  have hh := C1.hh
  boot_fact
  refine Assign_Tuple ?_ (by rfl) (by rfl)
  repeat boot_fact
  refine' Gives.use ?g ?gF ?gN ?_
  case gF => exact F
  case gN => exact N
  case g => exact getseq2 (O.keeps F.keep) (C1.le (by omega)) (S.keeps F.keep) (.inr rfl)
  intro v h2 tk2 hR F2 N2
  obtain ⟨a, k, rfl, N3⟩ := newsOfRet F hR
  refine' kun_list ?u1 ?u2 ?u3 hh ?u4 ?u5 ?_
  case u1 => exact F2
  case u2 => exact N3
  case u3 => exact N3.isList (.head _)
  case u4 => rfl
  case u5 => rfl
  intro h3 F3 N3
  dsimp only [assignEach, List.map]
  repeat boot_fact
  rename Fr _ _ _ _ => F4
  rename News _ _ _ _ => N4
  refine' Gives.use ?g2 ?gF2 ?gN2 ?_
  case gF2 => exact F4
  case gN2 => exact N4
  case g2 => exact quick2 (O.keeps F4.keep) (C1.le (by omega)) (S.keeps F4.keep) hx hy
  intro v h5 tk5 hv F5 N5
  clear F4 N4 F3 N3 F2 N2
  have key : (v = .none ∧ ¬ x = y ∧ ¬ (x.length = 0 ∨ y.length = 0)) ∨ ∃ (d : Nat) (t' : Tok), v = .int (d : Int) t' ∧ LevD x y d := by
    by_cases c1 : x = y
    · rw [if_pos c1] at hv
      obtain ⟨t', rfl⟩ := hv
      exact .inr ⟨0, t', rfl, by unfold LevD; rw [if_pos c1]⟩
    · rw [if_neg c1] at hv
      by_cases c2 : x.length = 0 ∨ y.length = 0
      · rw [if_pos c2] at hv
        obtain ⟨t', rfl⟩ := hv
        exact .inr ⟨_, t', rfl, by unfold LevD; rw [if_neg c1, if_pos c2]⟩
      · rw [if_neg c2] at hv
        exact .inl ⟨hv, c1, c2⟩
  clear hv
  rcases key with ⟨rfl, c1, c2⟩ | ⟨d, t', rfl, hd⟩
  · repeat boot_fact
    rename Fr _ _ _ _ => F6
    rename News _ _ _ _ => N6
    refine' Gives.use ?g3 ?gF3 ?gN3 ?_
    case gF3 => exact F6
    case gN3 => exact N6
    case g3 => exact cyc_pure (O.keeps F6.keep) (C1.le (by omega)) hx hy (S.keeps F6.keep)
    intro v h7 tk7 hv F7 N7
    repeat boot_fact
    obtain ⟨t', rfl⟩ := hv
    exact ⟨⟨_, t', rfl, by unfold LevD; rw [if_neg c1, if_neg c2]⟩, _, _, rfl, F7.keep⟩
  · repeat boot_fact
    rename Fr _ _ _ _ => F6
    refine wpAny_Assert_holds ?_
    repeat boot_fact
    refine PySem.IsiPair.int_int ?_
    repeat boot_fact
    refine ⟨rfl, ?_⟩
    repeat boot_fact
    exact ⟨⟨d, t', rfl, hd⟩, _, _, rfl, F6.keep⟩
theorem lev_dist {prog : Program} {w : World} {A : Around} {s : Shared} {x y : Str} {t u : Tok} {me : Addr} {es : List DictEntry} {n : Nat} (O : Ok w s.heap) (C : Calm A 5) (hx : x.length ≤ 1000) (hy : y.length ≤ 1000) (S : SelfAt s.heap me 266 es n) :
    Gives prog w A (.ref 65) [.ref me, .str x t, .str y u] (fun v _ => ∃ (d : Nat) (t' : Tok), v = .int (d : Int) t' ∧ LevD x y d) s := by
  refine Gives.mk ?_
  refine' enterV (n := 4) (vs := [.str x t, .str y u]) (binds := fun D => [("self", .ref me), ("sequences", .ref D)]) O C ?ho ?hcd ?hp ?hg ?hl ?_ ?hc ?hco ?hgen ?hk
  case ho => k_is
  case hcd => k_is
  case hp => exact rfl
  case hg => intro D; exact rfl
  case hl => intro D; exact locs rfl
  case hc => decide
  case hco => rfl
  case hgen => rfl
  case hk => rfl
  intro D L h₁ tk hDL F N O1 C1
  have hh := C1.hh
  repeat boot_fact
  refine s_star (x := me) (C := 266) (es := es) (n := n) ?_ (by with_unfolding_all rfl)
  repeat boot_fact
  rename Fr _ _ _ _ => F2
  rename News _ _ _ _ => N2
  refine ⟨S.keeps F2.keep, ?_⟩
  dsimp only [List.nil_append]
  refine' Gives.use ?g ?gF ?gN ?_
  case gF => exact F2
  case gN => exact N2
  case g => exact Gives.self (O.keeps F2.keep) (S.keeps F2.keep) (lev_call (O.keeps F2.keep) (C1.le (by omega)) hx hy (S.keeps F2.keep)) (by k_is) (by k_is) (by k_is)
  intro v h3 tk3 hv F3 N3
  repeat boot_fact
  exact ⟨hv, _, _, rfl, F3.keep⟩
end

-- part Lcsc
section
open PySem PySem.W PySem.Calls PyProof.Rows PySem.Spec
/-- the longest common row of letters that the code tells -/
def told (x y : Str) : Str := ⟨(tr x.cps.toList y.cps.toList x.length y.length []).toArray⟩
theorem lcs_call {prog : Program} {w : World} {A : Around} {s : Shared} {x y : Str} {t u : Tok} {me : Addr} {es : List DictEntry} {n : Nat} (O : Ok w s.heap) (C : Calm A 3) (hx : x.length ≤ 1000) (hy : y.length ≤ 1000) (S : SelfAt s.heap me 225 es n) :
    Gives prog w A (.ref 215) [.ref me, .str x t, .str y u] (fun v _ => ∃ t', v = .str (told x y) t') s := by
  refine Gives.mk ?_
  refine' enterV (n := 2) (vs := [.str x t, .str y u]) (binds := fun D => [("self", .ref me), ("sequences", .ref D)]) O C ?ho ?hcd ?hp ?hg ?hl ?_ ?hc ?hco ?hgen ?hk
  case ho => k_is
  case hcd => k_is
  case hp => exact rfl
  case hg => intro D; exact rfl
  case hl => intro D; exact locs rfl
  case hc => decide
  case hco => rfl
  case hgen => rfl
  case hk => rfl
  intro D L h₁ tk hDL F N O1 C1
  have hh := C1.hh
  repeat boot_fact
  refine callWith_SM (w := w) (g := 108) (self := .ref me) (by k_is) ?_ (by with_unfolding_all rfl)
  repeat boot_fact
  rename Fr _ _ _ _ => F2
  rename News _ _ _ _ => N2
  refine ⟨⟨(N2 _ (.head _)).1, (O.keeps F2.keep).k⟩, ?_⟩
  refine' Gives.useM ?gq ?g ?gF ?gN ?_
  case gF => exact F2
  case gN => exact N2
  case gq => exact .head _
  case g => exact getseq2 (O.keeps F2.keep) (C1.le (by omega)) (S.keeps F2.keep) (.inl rfl)
  intro v h3 tk3 hR F3 N3
  obtain ⟨a, k, rfl, N4⟩ := newsOfRet F2 hR
  clear N3 N2
  repeat boot_fact
  rename Fr _ _ _ _ => F5
  rename News _ _ _ _ => N5
  refine PyProof.Rows.len_list (N5.isList (.head _)) (by simp) ?_
  clear F2
  repeat boot_fact
  refine callWith_SM (w := w) (g := 203) (self := .ref me) (by k_is) ?_ (by with_unfolding_all rfl)
  repeat boot_fact
  rename Fr _ _ _ _ => F2
  rename News _ _ _ _ => N2
  refine ⟨⟨(N2 _ (.head _)).1, (O.keeps F2.keep).k⟩, ?_⟩
  refine' Gives.useM ?gq3 ?g3 ?gF3 ?gN3 ?_
  case gF3 => exact F2
  case gN3 => exact N2
  case gq3 => exact .head _
  case g3 => exact dyn_pure (O.keeps F2.keep) (C1.le (by omega)) hx hy
  intro v h6 tk6 hv F6 N6
  repeat boot_fact
  exact ⟨hv, _, _, rfl, F6.keep⟩
theorem lcs_sim {prog : Program} {w : World} {A : Around} {s : Shared} {x y : Str} {t u : Tok} {me : Addr} {es : List DictEntry} {n : Nat} (O : Ok w s.heap) (C : Calm A 4) (hx : x.length ≤ 1000) (hy : y.length ≤ 1000) (S : SelfAt s.heap me 225 es n) (ht : (told x y).length ≤ 1000) :
    Gives prog w A (.ref 222) [.ref me, .str x t, .str y u] (fun v _ => ∃ t', v = .int ((told x y).length : Int) t') s := by
  refine Gives.mk ?_
  refine' enterV (n := 3) (vs := [.str x t, .str y u]) (binds := fun D => [("self", .ref me), ("sequences", .ref D)]) O C ?ho ?hcd ?hp ?hg ?hl ?_ ?hc ?hco ?hgen ?hk
  case ho => k_is
  case hcd => k_is
  case hp => exact rfl
  case hg => intro D; exact rfl
  case hl => intro D; exact locs rfl
  case hc => decide
  case hco => rfl
  case hgen => rfl
  case hk => rfl
  intro D L h₁ tk hDL F N O1 C1
  have hh := C1.hh
  repeat boot_fact
  refine s_star (x := me) (C := 225) (es := es) (n := n) ?_ (by with_unfolding_all rfl)
  repeat boot_fact
  rename Fr _ _ _ _ => F2
  rename News _ _ _ _ => N2
  refine ⟨S.keeps F2.keep, ?_⟩
  dsimp only [List.nil_append]
  refine' Gives.use ?g ?gF ?gN ?_
  case gF => exact F2
  case gN => exact N2
  case g => exact Gives.self (O.keeps F2.keep) (S.keeps F2.keep) (lcs_call (O.keeps F2.keep) (C1.le (by omega)) hx hy (S.keeps F2.keep)) (by k_is) (by k_is) (by k_is)
  rintro v h3 tk3 ⟨t', rfl⟩ F3 N3
  repeat boot_fact
  exact ⟨⟨_, rfl⟩, _, _, rfl, F3.keep⟩
theorem lcs_dist {prog : Program} {w : World} {A : Around} {s : Shared} {x y : Str} {t u : Tok} {me : Addr} {es : List DictEntry} {n : Nat} (O : Ok w s.heap) (C : Calm A 5) (hx : x.length ≤ 1000) (hy : y.length ≤ 1000) (S : SelfAt s.heap me 225 es n) (ht : (told x y).length ≤ 1000) :
    Gives prog w A (.ref 164) [.ref me, .str x t, .str y u] (fun v _ => ∃ t', v = .int (((max x.length y.length : Nat) : Int) - ((told x y).length : Int)) t') s := by
  refine Gives.mk ?_
  refine' enterV (n := 4) (vs := [.str x t, .str y u]) (binds := fun D => [("self", .ref me), ("sequences", .ref D)]) O C ?ho ?hcd ?hp ?hg ?hl ?_ ?hc ?hco ?hgen ?hk
  case ho => k_is
  case hcd => k_is
  case hp => exact rfl
  case hg => intro D; exact rfl
  case hl => intro D; exact locs rfl
  case hc => decide
  case hco => rfl
  case hgen => rfl
  case hk => rfl
  intro D L h₁ tk hDL F N O1 C1
  have hh := C1.hh
  repeat boot_fact
  rename Fr _ _ _ _ => F2
  rename News _ _ _ _ => N2
  refine' Gives.use ?g ?gF ?gN ?_
  case gF => exact F2
  case gN => exact N2
  case g => exact maximum2 (O.keeps F2.keep) (C1.le (by omega)) hx hy
  rintro v h3 tk3 ⟨t', rfl⟩ F3 N3
  clear F2 N2
  repeat boot_fact
  refine callWith_SM (w := w) (g := 222) (self := .ref me) (by k_is) ?_ (by with_unfolding_all rfl)
  repeat boot_fact
  rename Fr _ _ _ _ => F2
  rename News _ _ _ _ => N2
  refine ⟨⟨(N2 _ (.head _)).1, (O.keeps F2.keep).k⟩, ?_⟩
  refine' Gives.useM ?gq2 ?g2 ?gF2 ?gN2 ?_
  case gF2 => exact F2
  case gN2 => exact N2
  case gq2 => exact .head _
  case g2 => exact lcs_sim (O.keeps F2.keep) (C1.le (by omega)) hx hy (S.keeps F2.keep) ht
  rintro v h4 tk4 ⟨t2, rfl⟩ F4 N4
  repeat boot_fact
  exact ⟨⟨_, rfl⟩, _, _, rfl, F4.keep⟩
end

-- part Pure
section
theorem take_last {a : List Nat} {i : Nat} {x : Nat} (h : a[i]? = some x) : a.take (i + 1) = a.take i ++ [x] := by
  rw [List.take_add_one, h]; rfl
theorem sub_last {p l : List Nat} {x : Nat} (h : p.Sublist (l ++ [x])) : p.Sublist l ∨ ∃ q, p = q ++ [x] ∧ q.Sublist l := by
  obtain ⟨p1, p2, rfl, h1, h2⟩ := List.sublist_append_iff.mp h
  cases h2 with
  | cons _ h3 =>
    have := List.sublist_nil.mp h3
    subst this
    exact .inl (by simpa using h1)
  | cons_cons _ h3 =>
    have := List.sublist_nil.mp h3
    subst this
    exact .inr ⟨p1, rfl, h1⟩
theorem some_of_lt {a : List Nat} {i : Nat} (h : i < a.length) : ∃ x, a[i]? = some x := ⟨a[i], List.getElem?_eq_getElem h⟩
/-- no common row is longer -/
theorem lc_ge (a b : List Nat) (i j : Nat) (hi : i ≤ a.length) (hj : j ≤ b.length) : ∀ p : List Nat, p.Sublist (a.take i) → p.Sublist (b.take j) → p.length ≤ lc a b i j := by
  induction i generalizing j with
  | zero =>
    intro p h1 _
    have := List.sublist_nil.mp (by simpa using h1)
    subst this
    exact Nat.zero_le _
  | succ i ih =>
    induction j with
    | zero =>
      intro p _ h2
      have := List.sublist_nil.mp (by simpa using h2)
      subst this
      exact Nat.zero_le _
    | succ j ihj =>
      intro p h1 h2
      obtain ⟨x, hx⟩ := some_of_lt (a := a) (i := i) (by omega)
      obtain ⟨y, hy⟩ := some_of_lt (a := b) (i := j) (by omega)
      have h1' := h1
      have h2' := h2
      rw [take_last hx] at h1
      rw [take_last hy] at h2
      rw [lc_succ, hx, hy]
      by_cases e : x = y
      · subst e
        rw [if_pos rfl]
        rcases sub_last h1 with g1 | ⟨q, eq, g1⟩
        · rcases sub_last h2 with g2 | ⟨q, eq, g2⟩
          · exact Nat.le_succ_of_le (ih j (by omega) (by omega) p g1 g2)
          · subst eq
            have := ih j (by omega) (by omega) q ((List.sublist_append_left q [x]).trans g1) g2
            simp; omega
        · subst eq
          have h2q : q.Sublist (b.take j) := by
            rcases sub_last h2 with g2 | ⟨q', e', g2⟩
            · exact (List.sublist_append_left q [x]).trans g2
            · have := List.append_inj_left' e' rfl
              rw [this]; exact g2
          have := ih j (by omega) (by omega) q g1 h2q
          simp; omega
      · rw [if_neg (by simpa using e)]
        rcases sub_last h1 with g1 | ⟨q, eq, g1⟩
        · have := ih (j + 1) (by omega) hj p g1 h2'
          omega
        · subst eq
          rcases sub_last h2 with g2 | ⟨q', e', _⟩
          · have := ihj (by omega) _ h1' g2
            omega
          · have := List.append_inj_right' e' rfl
            exact absurd (by simpa using this) e
/-- what is walked back is one, and as long as the table says -/
theorem tr_spec (a b : List Nat) (i j : Nat) (hi : i ≤ a.length) (hj : j ≤ b.length) : ∀ acc, ∃ t, tr a b i j acc = t ++ acc ∧ t.Sublist (a.take i) ∧ t.Sublist (b.take j) ∧ t.length = lc a b i j := by
  induction i generalizing j with
  | zero => intro acc; exact ⟨[], by rw [tr_zero_left]; rfl, List.nil_sublist _, List.nil_sublist _, by rw [lc_zero_left]; rfl⟩
  | succ i ih =>
    induction j with
    | zero => intro acc; exact ⟨[], by rw [tr_zero_right]; rfl, List.nil_sublist _, List.nil_sublist _, by rw [lc_zero_right]; rfl⟩
    | succ j ihj =>
      intro acc
      obtain ⟨x, hx⟩ := some_of_lt (a := a) (i := i) (by omega)
      obtain ⟨y, hy⟩ := some_of_lt (a := b) (i := j) (by omega)
      rw [tr_succ]
      by_cases h1 : lc a b (i + 1) (j + 1) = lc a b i (j + 1)
      · rw [if_pos h1]
        obtain ⟨t, e, s1, s2, l⟩ := ih (j + 1) (by omega) hj acc
        exact ⟨t, e, s1.trans (by rw [take_last hx]; exact List.sublist_append_left _ _), s2, l.trans h1.symm⟩
      · rw [if_neg h1]
        by_cases h2 : lc a b (i + 1) (j + 1) = lc a b (i + 1) j
        · rw [if_pos h2]
          obtain ⟨t, e, s1, s2, l⟩ := ihj (by omega) acc
          exact ⟨t, e, s1, s2.trans (by rw [take_last hy]; exact List.sublist_append_left _ _), l.trans h2.symm⟩
        · rw [if_neg h2]
          have hs := tr_same a b i j h1 h2
          obtain ⟨t, e, s1, s2, l⟩ := ih j (by omega) (by omega) (a.getD i 0 :: acc)
          have hg : a.getD i 0 = x := by simp [List.getD_eq_getElem?_getD, hx]
          have hxy : x = y := by rw [hx, hy] at hs; exact Option.some.inj hs
          refine ⟨t ++ [x], by rw [e, hg]; simp, ?_, ?_, ?_⟩
          · rw [take_last hx]; exact s1.append (List.Sublist.refl _)
          · rw [take_last hy, ← hxy]; exact s2.append (List.Sublist.refl _)
          · rw [lc_succ, if_pos hs, ← l]; simp
/-- the table's steps -/
theorem lc_steps (a b : List Nat) : ∀ i j, (lc a b i j ≤ lc a b (i + 1) j ∧ lc a b (i + 1) j ≤ lc a b i j + 1) ∧ (lc a b i j ≤ lc a b i (j + 1) ∧ lc a b i (j + 1) ≤ lc a b i j + 1) ∧
    (lc a b (i + 1) j ≤ lc a b (i + 1) (j + 1) ∧ lc a b (i + 1) (j + 1) ≤ lc a b (i + 1) j + 1) ∧ (lc a b i (j + 1) ≤ lc a b (i + 1) (j + 1) ∧ lc a b (i + 1) (j + 1) ≤ lc a b i (j + 1) + 1) := by
  have cell : ∀ i j, (lc a b i j ≤ lc a b (i + 1) j ∧ lc a b (i + 1) j ≤ lc a b i j + 1) → (lc a b i j ≤ lc a b i (j + 1) ∧ lc a b i (j + 1) ≤ lc a b i j + 1) →
      (lc a b (i + 1) j ≤ lc a b (i + 1) (j + 1) ∧ lc a b (i + 1) (j + 1) ≤ lc a b (i + 1) j + 1) ∧ (lc a b i (j + 1) ≤ lc a b (i + 1) (j + 1) ∧ lc a b (i + 1) (j + 1) ≤ lc a b i (j + 1) + 1) := by
    intro i j h1 h2
    rw [lc_succ]
    split <;> omega
  intro i
  induction i with
  | zero =>
    intro j
    have hv : lc a b 0 j ≤ lc a b 0 (j + 1) ∧ lc a b 0 (j + 1) ≤ lc a b 0 j + 1 := by rw [lc_zero_left, lc_zero_left]; omega
    induction j with
    | zero =>
      have hh : lc a b 0 0 ≤ lc a b 1 0 ∧ lc a b 1 0 ≤ lc a b 0 0 + 1 := by rw [lc_zero_right, lc_zero_right]; omega
      exact ⟨hh, hv, cell 0 0 hh hv⟩
    | succ j ihj =>
      have hh := (ihj (by rw [lc_zero_left, lc_zero_left]; omega)).2.2.2
      exact ⟨hh, hv, cell 0 (j + 1) hh hv⟩
  | succ i ih =>
    intro j
    have hv := (ih j).2.2.1
    induction j with
    | zero =>
      have hh : lc a b (i + 1) 0 ≤ lc a b (i + 1 + 1) 0 ∧ lc a b (i + 1 + 1) 0 ≤ lc a b (i + 1) 0 + 1 := by rw [lc_zero_right, lc_zero_right]; omega
      exact ⟨hh, hv, cell (i + 1) 0 hh hv⟩
    | succ j ihj =>
      have hh := (ihj (ih j).2.2.1).2.2.2
      exact ⟨hh, hv, cell (i + 1) (j + 1) hh hv⟩
theorem lev_le (a b : List Nat) (i j : Nat) : lev a b i j + 2 * lc a b i j ≤ i + j := by
  induction i generalizing j with
  | zero => rw [lev_zero_left, lc_zero_left]; omega
  | succ i ih =>
    induction j with
    | zero => rw [lev_zero_right, lc_zero_right]; omega
    | succ j ihj =>
      have h1 := ih j
      have h2 := ih (j + 1)
      rw [lev_succ, lc_succ]
      split <;> omega
theorem lev_ge (a b : List Nat) (i j : Nat) : i ≤ lev a b i j + lc a b i j ∧ j ≤ lev a b i j + lc a b i j := by
  induction i generalizing j with
  | zero => rw [lev_zero_left, lc_zero_left]; omega
  | succ i ih =>
    induction j with
    | zero => rw [lev_zero_right, lc_zero_right]; omega
    | succ j ihj =>
      have h1 := ih j
      have h2 := ih (j + 1)
      have hs := lc_steps a b i j
      have e := lc_succ a b i j
      rw [lev_succ]
      split
      · rename_i h
        rw [if_pos h] at e
        omega
      · omega
theorem lc_self (a : List Nat) : a.length ≤ lc a a a.length a.length :=
  lc_ge a a a.length a.length (Nat.le_refl _) (Nat.le_refl _) a (by simp) (by simp)
theorem lc_le_right (a b : List Nat) (i j : Nat) : lc a b i j ≤ j := by
  have := lev_le a b i j
  have := lev_ge a b i j
  omega

/-- the law's reading from left to right -/
def gStep (p : List Nat) (k c : Nat) : Nat := if p[k]? = some c then k + 1 else k
theorem greedy (p : List Nat) : ∀ (y : List Nat) (k : Nat), k ≤ p.length → (y.foldl (gStep p) k = p.length ↔ (p.drop k).Sublist y)
  | [], k, hk => by
    simp only [List.foldl_nil]
    constructor
    · intro h
      subst h
      simp
    · intro h
      have := List.sublist_nil.mp h
      have := List.drop_eq_nil_iff.mp this
      omega
  | c :: y, k, hk => by
    simp only [List.foldl_cons]
    by_cases hlt : k < p.length
    · have hd : p.drop k = p[k] :: p.drop (k + 1) := List.drop_eq_getElem_cons hlt
      have hp : p[k]? = some p[k] := List.getElem?_eq_getElem hlt
      by_cases e : p[k] = c
      · have : gStep p k c = k + 1 := by unfold gStep; rw [hp, e, if_pos rfl]
        rw [this, greedy p y (k + 1) hlt, hd, e]
        exact ⟨fun h => h.cons_cons c, fun h => List.cons_sublist_cons.mp h⟩
      · have : gStep p k c = k := by unfold gStep; rw [hp, if_neg (by simpa using e)]
        rw [this, greedy p y k hk, hd]
        constructor
        · exact fun h => h.cons c
        · intro h
          cases h with
          | cons _ h => exact h
          | cons_cons _ h => exact absurd rfl e
    · have hk' : k = p.length := by omega
      subst hk'
      have : gStep p p.length c = p.length := by unfold gStep; rw [List.getElem?_eq_none (Nat.le_refl _)]; simp
      rw [this, greedy p y p.length (Nat.le_refl _)]
      simp
/-- the law's parts: rows of a's letters, read from left to right, that b has -/
def withins (b p : List Nat) : Bool := b.foldl (gStep p) 0 == p.length
theorem withins_iff (b p : List Nat) : withins b p = true ↔ p.Sublist b := by
  unfold withins
  rw [beq_iff_eq, greedy p b 0 (Nat.zero_le _)]
  simp
def parts (b : List Nat) : List Nat → List (List Nat) → List (List Nat)
  | [], ps => ps
  | c :: r, ps => parts b r (ps ++ (ps.map (· ++ [c])).filter (withins b))
theorem parts_snoc (b : List Nat) : ∀ (a : List Nat) (c : Nat) (ps : List (List Nat)), parts b (a ++ [c]) ps = parts b a ps ++ ((parts b a ps).map (· ++ [c])).filter (withins b)
  | [], c, ps => rfl
  | d :: a, c, ps => by
    show parts b (a ++ [c]) _ = _
    rw [parts_snoc b a c]
    rfl
theorem parts_spec (b : List Nat) (a : List Nat) : ∀ i, i ≤ a.length → ∀ p, p ∈ parts b (a.take i) [[]] ↔ p.Sublist (a.take i) ∧ p.Sublist b := by
  intro i
  induction i with
  | zero =>
    intro _ p
    show p ∈ parts b [] [[]] ↔ p.Sublist [] ∧ _
    simp only [parts, List.mem_singleton, List.sublist_nil]
    constructor
    · rintro rfl; exact ⟨rfl, List.nil_sublist _⟩
    · exact fun h => h.1
  | succ i ih =>
    intro hi p
    obtain ⟨x, hx⟩ := some_of_lt (a := a) (i := i) (by omega)
    have ih := ih (by omega)
    rw [take_last hx, parts_snoc, List.mem_append, List.mem_filter, List.mem_map, ih]
    constructor
    · rintro (⟨h1, h2⟩ | ⟨⟨q, hq, rfl⟩, h⟩)
      · exact ⟨h1.trans (List.sublist_append_left _ _), h2⟩
      · have := (ih q).mp hq
        exact ⟨this.1.append (List.Sublist.refl _), (withins_iff _ _).mp h⟩
    · rintro ⟨h1, h2⟩
      rcases sub_last h1 with g1 | ⟨q, eq, g1⟩
      · exact .inl ⟨g1, h2⟩
      · subst eq
        exact .inr ⟨⟨q, (ih q).mpr ⟨g1, (List.sublist_append_left _ _).trans h2⟩, rfl⟩, (withins_iff _ _).mpr h2⟩
theorem parts_length (b : List Nat) (a : List Nat) : ∀ i, (parts b (a.take i) [[]]).length ≤ 2 ^ i := by
  intro i
  induction i with
  | zero => exact Nat.le_refl _
  | succ i ih =>
    cases hx : a[i]? with
    | none =>
      rw [List.take_add_one, hx]
      have : (a.take i ++ (none : Option Nat).toList) = a.take i := by simp
      rw [this, Nat.pow_succ]; omega
    | some x =>
      rw [take_last hx, parts_snoc, List.length_append, Nat.pow_succ]
      have := List.length_filter_le (withins b) ((parts b (a.take i) [[]]).map (· ++ [x]))
      rw [List.length_map] at this
      omega
/-- the longest of the parts is as long as the table says -/
theorem parts_most (a b : List Nat) : (∀ p ∈ parts b a [[]], p.length ≤ lc a b a.length b.length) ∧ ∃ p ∈ parts b a [[]], p.length = lc a b a.length b.length := by
  have h := parts_spec b a a.length (Nat.le_refl _)
  rw [List.take_length] at h
  constructor
  · intro p hp
    obtain ⟨h1, h2⟩ := (h p).mp hp
    exact lc_ge a b _ _ (Nat.le_refl _) (Nat.le_refl _) p (by simpa using h1) (by simpa using h2)
  · obtain ⟨t, _, s1, s2, l⟩ := tr_spec a b a.length b.length (Nat.le_refl _) (Nat.le_refl _) []
    exact ⟨t, (h t).mpr ⟨by simpa using s1, by simpa using s2⟩, l⟩
theorem lc_comm (a b : List Nat) : lc a b a.length b.length = lc b a b.length a.length := by
  have key : ∀ a b : List Nat, lc a b a.length b.length ≤ lc b a b.length a.length := by
    intro a b
    obtain ⟨t, _, s1, s2, l⟩ := tr_spec a b a.length b.length (Nat.le_refl _) (Nat.le_refl _) []
    rw [← l]
    exact lc_ge b a _ _ (Nat.le_refl _) (Nat.le_refl _) t s2 s1
  exact Nat.le_antisymm (key a b) (key b a)
end

-- part Pure2
section
open PySem PySem.W PySem.Calls PyProof.Rows PySem.Spec
abbrev S (p : List Nat) : Str := ⟨p.toArray⟩
theorem S_len (p : List Nat) : (S p).length = p.length := by show p.toArray.size = _; simp
theorem S_self (x : Str) : S x.cps.toList = x := by cases x; simp [S]
theorem within_S (p : List Nat) (y : Str) : within (S p) y = withins y.cps.toList p := by
  unfold within withins
  rw [S_len]
  have : wStep (S p) = gStep p := by
    funext k c
    unfold wStep gStep
    have e : (S p).cps[k]? = p[k]? := by simp [S]
    rw [e]
  rw [this]
theorem within_iff (p y : Str) : within p y = true ↔ p.cps.toList.Sublist y.cps.toList := by
  rw [← S_self p, within_S, withins_iff]
theorem S_snoc (p : List Nat) (c : Nat) : S p ++ (⟨#[c]⟩ : Str) = S (p ++ [c]) := by
  show (⟨p.toArray ++ #[c]⟩ : Str) = _
  simp [S]
theorem strs_paired {f : Nat → Str} : ∀ {l : List Nat} {ys : List Value}, Paired (fun i y => ∃ t, y = Value.str (f i) t) l ys → StrsAre ys (l.map f)
  | _, _, .nil => .nil
  | _, _, .cons hr r => by
    obtain ⟨t, rfl⟩ := hr
    exact .cons _ t (strs_paired r)
theorem ints_paired {f : Nat → Int} : ∀ {l : List Nat} {ys : List Value}, Paired (fun i y => ∃ t, y = Value.int (f i) t) l ys → IntsAre ys (l.map f)
  | _, _, .nil => .nil
  | _, _, .cons hr r => by
    obtain ⟨t, rfl⟩ := hr
    exact .cons _ t (ints_paired r)
theorem range_getD {α : Type} (ps : List α) (d : α) : (List.range ps.length).map (fun i => ps.getD i d) = ps := by
  apply List.ext_getElem?
  intro i
  by_cases hi : i < ps.length
  · simp [hi, List.getD_eq_getElem?_getD]
  · rw [List.getElem?_eq_none (by simp; omega), List.getElem?_eq_none (by omega)]
theorem filter_range {α β : Type} (ps : List α) (d : α) (q : α → Bool) (g : α → β) : ((List.range ps.length).filter fun i => q (ps.getD i d)).map (fun i => g (ps.getD i d)) = (ps.filter q).map g := by
  have h := range_getD ps d
  have e : ps.filter q = ((List.range ps.length).filter fun i => q (ps.getD i d)).map fun i => ps.getD i d := by
    have := List.filter_map (f := fun i => ps.getD i d) (p := q) (l := List.range ps.length)
    rw [h] at this
    exact this
  rw [e, List.map_map]
  rfl
section
variable {M : Model} {A : Around} {E : Value → Shared → Prop} {s : Shared} {env : Env}
theorem tests_none {R : Bool → Shared → Prop} (h : R true s) : wpAny M A (testsOf env []) R E s := wpAny_pure h
theorem tests_one {c : Expr} {R : Bool → Shared → Prop} (h : wpAny M A (isTrue c env (eval c env)) R E s) : wpAny M A (testsOf env [c]) R E s := by
  show wpAny M A (forIn [c] true _) R E s
  simp only [List.forIn_cons, List.forIn_nil, if_true]
  simp only [bind_assoc, pure_bind, bind_pure]
  exact h
end

/-- the frame of a comprehension's block -/
theorem comp_frame {h₀ h2 h3 : Heap} {L I : Addr} {m m3 : Str → Option Value} {cells news : List (Addr × Obj)} (F : Fr h₀ L h2 m) (N : News h₀ L h2 news) (hI : h₀.get? I = none) (hIn : ∀ q ∈ cells, q.1 ≠ I) (hsub : ∀ q ∈ cells, q ∈ news) (hn : h3.Ns (h2.objs.size + 1) m3)
    (hk : ∀ b o, b ≠ I → h2.get? b = some o → h3.get? b = some o) :
    ∃ all, Fr h₀ (h2.objs.size + 1) h3 m3 ∧ News h₀ (h2.objs.size + 1) h3 (cells ++ all) ∧ (∀ b o, h₀.get? b = some o → h3.get? b = some o) ∧ ∀ b o, b ≠ h2.objs.size + 1 → h₀.get? b = none → h3.get? b = some o → (b, o) ∈ cells ++ all := by
  have hk0 : ∀ b o, h₀.get? b = some o → h3.get? b = some o := fun b o e => hk b o (fun q => by rw [q, hI] at e; cases e) (F.keep b o e)
  obtain ⟨all, NA, hall⟩ := allNews h₀ (h2.objs.size + 1) h3
  refine ⟨all, ⟨hn, hk0, Nat.le_trans F.above (Nat.le_succ_of_le (Nat.le_of_lt (nslt F.ns)))⟩, fun q hq => ?_, hk0, fun b o x y z => List.mem_append_right _ (hall b o x y z)⟩
  rcases List.mem_append.mp hq with hq | hq
  · exact ⟨hk _ _ (hIn q hq) (N q (hsub q hq)).1, Nat.ne_of_lt (Nat.lt_succ_of_lt (nlt (N q (hsub q hq)).1)), (N q (hsub q hq)).2.2⟩
  · exact NA q hq

/-- a def with plain parameters, over an older base -/
theorem enterB {prog : Program} {w : World} {A : Around} {s : Shared} {E : Value → Shared → Prop} {h₀ : Heap} {Q : Value → Shared → Prop} {name qual : Str} {params : Arguments} {body : List Stmt} {scope : Scope} {dV kV doc pm cdv ct oc : Value} {an od : Option Addr} {osl : Array (Option Value)} {f : Addr} {args : Args} {binds : List (Str × Value)} {n : Nat} {pre : List (Addr × Obj)}
    (O : Ok w s.heap) (C : Calm A (n + 1)) (hk₀ : ∀ b o, h₀.get? b = some o → s.heap.get? b = some o) (hsz : h₀.objs.size ≤ s.heap.objs.size) (hpre : Pre h₀ s.heap pre)
    (ho : (hd.heap_39 w.params).lookup f = some ⟨oc, od, .func (fnOf name qual params body scope dV kV doc pm an cdv ct), osl⟩) (hcd : codeIn (hd.heap_39 w.params) cdv qual = true)
    (hbind : BindsTo s (fnOf name qual params body scope dV kV doc pm an cdv ct) args binds) (hloc : ∀ y ∈ binds, scope.names.lookup y.1 = some .local)
    (h : ∀ L h₁ tk, Fr h₀ L h₁ (fun y => binds.reverse.lookup y) → News h₀ L h₁ pre → Ok w h₁ → Calm (A.deeper (envX qual scope L f cdv [])) n →
      wpAny (model prog w) (A.deeper (envX qual scope L f cdv [])) (execs body (envX qual scope L f cdv []))
        (fun fl s' => Q (match fl with | .ret v => v | _ => .none) s') (fun _ _ => False) { s with heap := h₁, toks := tk })
    (hcell : ∀ x ∈ scope.names, x.2 ≠ .cell) (hco : scope.isCoroutine = false) (hgen : scope.isGenerator = false) (hk : scope.kind = .function) :
    codeAny (model prog w) A (.call (.ref f) args) (fun r s' => match r with | .ok (.ret v) => Q v s' | .ok _ => False | .error e => E e s') s :=
  enter_raw O C ho hcd (hbind _ _ _ _ (env_plain O C hk₀ hsz hpre hloc h hcell hk)) hco hgen

theorem i_statA {prog : Program} {w : World} {A : Around} {E : Value → Shared → Prop} {s : Shared} {x C p L dx : Addr} {name : Str} {h₀ : Heap} {m : Str → Option Value} {news : List (Addr × Obj)} {es : List DictEntry} {n : Nat} {fv : Value} {rest : List Value} {expr : Bool} {Q : Value → Shared → Prop}
    (F : Fr h₀ L s.heap m) (O : Ok w h₀) (N : News h₀ L s.heap news) (h1 : (x, instObj C dx) ∈ news) (h2 : (dx, dictOf es n) ∈ news) (hl : getL name es = some none) (hg : plainGet (hd.heap_39 w.params) C name = true) (hh : hasDictIn (hd.heap_39 w.params) C = true) (ha : findIn (hd.heap_39 w.params) (.ref C) name = some (some (.ref p))) (ht : typeIn (hd.heap_39 w.params) (.ref p) = some (.type "staticmethod"))
    (hgf : specialIn (hd.heap_39 w.params) (.ref p) "__get__" = some (some (.builtin "staticmethod.__get__"))) (hts : takesIn (hd.heap_39 w.params) (.ref p) = some false) (hc : copiedNames.contains name = false) (hp : recIn (hd.heap_39 w.params) p "staticmethod" = some (fv :: rest)) (hv : handedIn fv = true)
    (h : Q fv { s with toks := s.toks + 1 }) : wpAny (model prog w) A (getAttr (.ref x) name expr) Q E s := by
  have I : InstAt s.heap x (instObj C dx) C (some (dictOf es n)) := InstAt.of_news N h1 h2
  exact get_bind (O.k.keeps F.keep) I (plainGet_of hg).1 (findObj_fn hh ha hgf hts hc (by show lookIn name (dictOf es n) = _; rw [lookIn_dict, hl])) (plainGet_of hg).2
      (wpAny_call (sm_get (s := { s with toks := s.toks + 1 }) (O.k.keeps F.keep) hp (handed_on hv h)))

theorem i_set {prog : Program} {w : World} {A : Around} {E : Value → Shared → Prop} {s : Shared} {x C L dx : Addr} {name : Str} {v : Value} {h₀ : Heap} {m : Str → Option Value} {all : List (Addr × Obj)} {es es' : List DictEntry} {n n' : Nat} {Q : Unit → Shared → Prop}
    (F : Fr h₀ L s.heap m) (O : Ok w h₀) (N : News h₀ L s.heap ((x, instObj C dx) :: (dx, dictOf es n) :: all)) (hne : x ≠ dx) (hall : ∀ p ∈ all, p.1 ≠ dx)
    (hs : findIn (hd.heap_39 w.params) (.ref C) "__setattr__" = some (some (.builtin "object.__setattr__"))) (hp : plainOver (hd.heap_39 w.params) C = true) (ht : takerIn (hd.heap_39 w.params) C name = some none) (hh : hasDictIn (hd.heap_39 w.params) C = true) (hl : (getL name es).isSome = true)
    (e : (putL name (PyData.keyHash w.params name) (.str name (s.toks + 1)) v es, putN name es n) = (es', n')) (hz : es'.length ≤ 1000)
    (h : ∀ h', Fr h₀ L h' m → News h₀ L h' ((x, instObj C dx) :: (dx, dictOf es' n') :: all) → Q () { s with heap := h', toks := s.toks + 2 }) :
    wpAny (model prog w) A (setAttr (.ref x) name v) Q E s :=
  set_dict F O.k N (InstAt.of_news N (.head _) (.tail _ (.head _))) rfl hs hp ht hh hl e (.tail hne (.head hall)) hz h
end

-- part Makes
section
open PySem PySem.W PySem.Calls PyProof.Rows PySem.Spec
theorem init225 {prog : Program} {w : World} {A : Around} {s : Shared} {h₀ : Heap} {x dx : Addr} {all : List (Addr × Obj)} (O : Ok w s.heap) (C : Calm A 1) (hk₀ : ∀ b o, h₀.get? b = some o → s.heap.get? b = some o) (hsz : h₀.objs.size ≤ s.heap.objs.size) (O0 : Ok w h₀)
    (hpre : Pre h₀ s.heap ((x, instObj 225 dx) :: (dx, dictOf [] 0) :: all)) (hne : x ≠ dx) (hall : ∀ p ∈ all, p.1 ≠ dx) :
    codeAny (model prog w) A (.call (.ref 198) ⟨[.ref x], []⟩) (fun r s' => match r with | .ok (.ret v) => (v = .none ∧ ∃ h' tk es n, s' = { s with heap := h', toks := tk } ∧ (∀ b o, h₀.get? b = some o → h'.get? b = some o) ∧ (∀ p ∈ all, h'.get? p.1 = some p.2) ∧ SelfAt h' x 225 es n) | .ok _ => False | .error e => False) s := by
  refine' enterB (n := 0) (h₀ := h₀) (pre := ((x, instObj 225 dx) :: (dx, dictOf [] 0) :: all)) (binds := [("self", .ref x), ("qval", .int 1 _), ("test_func", .none), ("external", .bool true)]) O C hk₀ hsz hpre ?ho ?hcd ?hb ?hl ?_ ?hc ?hco ?hg ?hk
  case ho => k_is
  case hcd => k_is
  case hb => exact kp_binds O.k (by intro S; rfl)
  case hl => exact locs rfl
  case hc => decide +kernel
  case hco => rfl
  case hg => rfl
  case hk => rfl
  intro L h₁ tk F N O1 C1
  have hh := C1.hh
  have KX := O0.k
  repeat boot_fact
  refine' i_set ?s11 O0 ?s12 hne hall ?s13 ?s14 ?s15 ?s16 ?s17 ?s18 ?s19 ?_
  case s11 => assumption
  case s12 => assumption
  case s13 => k_is
  case s14 => k_is
  case s15 => k_is
  case s16 => k_is
  case s17 => k_get
  case s18 => k_put
  case s19 => exact Nat.le_of_ble_eq_true rfl
  intro _ _ _
  dsimp only
  rename Fr _ _ _ _ => F2
  rename News _ _ _ _ => N2
  repeat boot_fact
  refine i_statA F2 O0 N2 (.head _) (.tail _ (.head _)) (by with_unfolding_all rfl) (by k_is) (by k_is) (by k_is) (by k_is) (by k_is) (by k_is) (by decide +kernel) (by k_is) (by k_handed) ?_
  repeat boot_fact
  refine' i_set ?s21 O0 ?s22 hne hall ?s23 ?s24 ?s25 ?s26 ?s27 ?s28 ?s29 ?_
  case s21 => assumption
  case s22 => assumption
  case s23 => k_is
  case s24 => k_is
  case s25 => k_is
  case s26 => k_is
  case s27 => k_get
  case s28 => k_put
  case s29 => exact Nat.le_of_ble_eq_true rfl
  intro _ _ _
  dsimp only
  repeat boot_fact
  refine' i_set ?s31 O0 ?s32 hne hall ?s33 ?s34 ?s35 ?s36 ?s37 ?s38 ?s39 ?_
  case s31 => assumption
  case s32 => assumption
  case s33 => k_is
  case s34 => k_is
  case s35 => k_is
  case s36 => k_is
  case s37 => k_get
  case s38 => k_put
  case s39 => exact Nat.le_of_ble_eq_true rfl
  intro _ _ _
  dsimp only
  repeat boot_fact
  rename Fr _ _ _ _ => F3
  rename News _ _ _ _ => N3
  refine ⟨rfl, _, _, _, _, rfl, F3.keep, fun p hp => N3.get (.tail _ (.tail _ hp)), ⟨⟨_, N3.get (.head _), N3.get (.tail _ (.head _))⟩, ⟨_, by with_unfolding_all rfl⟩, by with_unfolding_all rfl, ?_⟩⟩
  unfold clsNames
  simp only [List.forall_mem_cons]
  refine ⟨?_, ?_, ?_, ?_, ?_, ?_, ?_, ?_, ?_, fun _ h => nomatch h⟩ <;> with_unfolding_all rfl
theorem init266 {prog : Program} {w : World} {A : Around} {s : Shared} {h₀ : Heap} {x dx : Addr} {all : List (Addr × Obj)} (O : Ok w s.heap) (C : Calm A 1) (hk₀ : ∀ b o, h₀.get? b = some o → s.heap.get? b = some o) (hsz : h₀.objs.size ≤ s.heap.objs.size) (O0 : Ok w h₀)
    (hpre : Pre h₀ s.heap ((x, instObj 266 dx) :: (dx, dictOf [] 0) :: all)) (hne : x ≠ dx) (hall : ∀ p ∈ all, p.1 ≠ dx) :
    codeAny (model prog w) A (.call (.ref 242) ⟨[.ref x], []⟩) (fun r s' => match r with | .ok (.ret v) => (v = .none ∧ ∃ h' tk es n, s' = { s with heap := h', toks := tk } ∧ (∀ b o, h₀.get? b = some o → h'.get? b = some o) ∧ (∀ p ∈ all, h'.get? p.1 = some p.2) ∧ SelfAt h' x 266 es n) | .ok _ => False | .error e => False) s := by
  refine' enterB (n := 0) (h₀ := h₀) (pre := ((x, instObj 266 dx) :: (dx, dictOf [] 0) :: all)) (binds := [("self", .ref x), ("qval", .int 1 _), ("test_func", .none), ("external", .bool true)]) O C hk₀ hsz hpre ?ho ?hcd ?hb ?hl ?_ ?hc ?hco ?hg ?hk
  case ho => k_is
  case hcd => k_is
  case hb => exact kp_binds O.k (by intro S; rfl)
  case hl => exact locs rfl
  case hc => decide +kernel
  case hco => rfl
  case hg => rfl
  case hk => rfl
  intro L h₁ tk F N O1 C1
  have hh := C1.hh
  have KX := O0.k
  repeat boot_fact
  refine' i_set ?s41 O0 ?s42 hne hall ?s43 ?s44 ?s45 ?s46 ?s47 ?s48 ?s49 ?_
  case s41 => assumption
  case s42 => assumption
  case s43 => k_is
  case s44 => k_is
  case s45 => k_is
  case s46 => k_is
  case s47 => k_get
  case s48 => k_put
  case s49 => exact Nat.le_of_ble_eq_true rfl
  intro _ _ _
  dsimp only
  rename Fr _ _ _ _ => F2
  rename News _ _ _ _ => N2
  repeat boot_fact
  refine i_statA F2 O0 N2 (.head _) (.tail _ (.head _)) (by with_unfolding_all rfl) (by k_is) (by k_is) (by k_is) (by k_is) (by k_is) (by k_is) (by decide +kernel) (by k_is) (by k_handed) ?_
  repeat boot_fact
  refine' i_set ?s51 O0 ?s52 hne hall ?s53 ?s54 ?s55 ?s56 ?s57 ?s58 ?s59 ?_
  case s51 => assumption
  case s52 => assumption
  case s53 => k_is
  case s54 => k_is
  case s55 => k_is
  case s56 => k_is
  case s57 => k_get
  case s58 => k_put
  case s59 => exact Nat.le_of_ble_eq_true rfl
  intro _ _ _
  dsimp only
  repeat boot_fact
  refine' i_set ?s61 O0 ?s62 hne hall ?s63 ?s64 ?s65 ?s66 ?s67 ?s68 ?s69 ?_
  case s61 => assumption
  case s62 => assumption
  case s63 => k_is
  case s64 => k_is
  case s65 => k_is
  case s66 => k_is
  case s67 => k_get
  case s68 => k_put
  case s69 => exact Nat.le_of_ble_eq_true rfl
  intro _ _ _
  dsimp only
  repeat boot_fact
  rename Fr _ _ _ _ => F3
  rename News _ _ _ _ => N3
  refine ⟨rfl, _, _, _, _, rfl, F3.keep, fun p hp => N3.get (.tail _ (.tail _ hp)), ⟨⟨_, N3.get (.head _), N3.get (.tail _ (.head _))⟩, ⟨_, by with_unfolding_all rfl⟩, by with_unfolding_all rfl, ?_⟩⟩
  unfold clsNames
  simp only [List.forall_mem_cons]
  refine ⟨?_, ?_, ?_, ?_, ?_, ?_, ?_, ?_, ?_, fun _ h => nomatch h⟩ <;> with_unfolding_all rfl
theorem make225 {prog : Program} {w : World} {A : Around} {E : Value → Shared → Prop} {s : Shared} {h₀ : Heap} {L : Addr} {m : Str → Option Value} {news : List (Addr × Obj)} {Q : Value → Shared → Prop} (F : Fr h₀ L s.heap m) (N : News h₀ L s.heap news) (O : Ok w h₀) (CU : Calm (A.under (.builtin "type.__call__" ⟨[.ref 225], []⟩)) 1)
    (h : ∀ x dx h' tk es n, Fr h₀ L h' m → News h₀ L h' ((x, instObj 225 dx) :: (dx, dictOf es n) :: news) → SelfAt h' x 225 es n → Q (.ref x) { s with heap := h', toks := tk }) : wpAny (model prog w) A (call (.ref 225) []) Q E s := by
  refine' call_cls (K := hd.heap_39 w.params) F O.k N ?c1 ?c2 ?c3 ?_
  case c1 => k_is
  case c2 => k_is
  case c3 => k_is
  intro x dx h1 F1 N1 lt1 lt2
  obtain ⟨all, NA, cover⟩ := allNews h₀ dx h1
  have hpre : Pre h₀ h1 ((x, instObj 225 dx) :: (dx, dictOf [] 0) :: all) := fun q hq => by
    rcases List.mem_cons.mp hq with rfl | hq
    · exact ⟨(N1 _ (.head _)).1, (N1 _ (.head _)).2.2⟩
    · rcases List.mem_cons.mp hq with rfl | hq
      · exact ⟨(N1 _ (.tail _ (.head _))).1, (N1 _ (.tail _ (.head _))).2.2⟩
      · exact ⟨(NA q hq).1, (NA q hq).2.2⟩
  have hsz : h₀.objs.size ≤ h1.objs.size := Nat.le_trans F1.above (Nat.le_of_lt (nslt F1.ns))
  refine codeAny_mono (init225 (s := { s with heap := h1 }) (h₀ := h₀) (x := x) (dx := dx) (all := all) (O.keeps F1.keep) CU F1.keep hsz O hpre (Nat.ne_of_gt lt2) (fun p hp => (NA p hp).2.1)) fun r s' hr => ?_
  cases r with
  | error e => exact hr.elim
  | ok f =>
    cases f with
    | ret v =>
      obtain ⟨rfl, h', tk, es, n, rfl, hk, hall', S⟩ := hr
      have hdL : L ≠ dx := Ne.symm (N1 _ (.tail _ (.head _))).2.1
      have hL0 : h₀.get? L = none := Heap.get?_none_of_le F1.above
      refine ⟨rfl, h x dx h' tk es n ⟨F1.ns.at' fun o e => hall' (L, o) (cover L o hdL hL0 e), hk, F1.above⟩ (fun q hq => ?_) S⟩
      have hx := N1 _ (.head _)
      have hxa := hall' _ (cover x _ (Nat.ne_of_gt lt2) hx.2.2 hx.1)
      rcases List.mem_cons.mp hq with rfl | hq
      · exact ⟨hxa, hx.2⟩
      rcases List.mem_cons.mp hq with rfl | hq
      · obtain ⟨dx', g1, g2⟩ := S.dx
        rw [hxa] at g1
        cases g1
        exact ⟨g2, (N1 _ (.tail _ (.head _))).2⟩
      have hN := N1 q (.tail _ (.tail _ hq))
      exact ⟨hall' q (cover q.1 q.2 (Nat.ne_of_lt (lt1 q hq)) hN.2.2 hN.1), hN.2⟩
    | _ => exact hr.elim
theorem make266 {prog : Program} {w : World} {A : Around} {E : Value → Shared → Prop} {s : Shared} {h₀ : Heap} {L : Addr} {m : Str → Option Value} {news : List (Addr × Obj)} {Q : Value → Shared → Prop} (F : Fr h₀ L s.heap m) (N : News h₀ L s.heap news) (O : Ok w h₀) (CU : Calm (A.under (.builtin "type.__call__" ⟨[.ref 266], []⟩)) 1)
    (h : ∀ x dx h' tk es n, Fr h₀ L h' m → News h₀ L h' ((x, instObj 266 dx) :: (dx, dictOf es n) :: news) → SelfAt h' x 266 es n → Q (.ref x) { s with heap := h', toks := tk }) : wpAny (model prog w) A (call (.ref 266) []) Q E s := by
  refine' call_cls (K := hd.heap_39 w.params) F O.k N ?c1 ?c2 ?c3 ?_
  case c1 => k_is
  case c2 => k_is
  case c3 => k_is
  intro x dx h1 F1 N1 lt1 lt2
  obtain ⟨all, NA, cover⟩ := allNews h₀ dx h1
  have hpre : Pre h₀ h1 ((x, instObj 266 dx) :: (dx, dictOf [] 0) :: all) := fun q hq => by
    rcases List.mem_cons.mp hq with rfl | hq
    · exact ⟨(N1 _ (.head _)).1, (N1 _ (.head _)).2.2⟩
    · rcases List.mem_cons.mp hq with rfl | hq
      · exact ⟨(N1 _ (.tail _ (.head _))).1, (N1 _ (.tail _ (.head _))).2.2⟩
      · exact ⟨(NA q hq).1, (NA q hq).2.2⟩
  have hsz : h₀.objs.size ≤ h1.objs.size := Nat.le_trans F1.above (Nat.le_of_lt (nslt F1.ns))
  refine codeAny_mono (init266 (s := { s with heap := h1 }) (h₀ := h₀) (x := x) (dx := dx) (all := all) (O.keeps F1.keep) CU F1.keep hsz O hpre (Nat.ne_of_gt lt2) (fun p hp => (NA p hp).2.1)) fun r s' hr => ?_
  cases r with
  | error e => exact hr.elim
  | ok f =>
    cases f with
    | ret v =>
      obtain ⟨rfl, h', tk, es, n, rfl, hk, hall', S⟩ := hr
      have hdL : L ≠ dx := Ne.symm (N1 _ (.tail _ (.head _))).2.1
      have hL0 : h₀.get? L = none := Heap.get?_none_of_le F1.above
      refine ⟨rfl, h x dx h' tk es n ⟨F1.ns.at' fun o e => hall' (L, o) (cover L o hdL hL0 e), hk, F1.above⟩ (fun q hq => ?_) S⟩
      have hx := N1 _ (.head _)
      have hxa := hall' _ (cover x _ (Nat.ne_of_gt lt2) hx.2.2 hx.1)
      rcases List.mem_cons.mp hq with rfl | hq
      · exact ⟨hxa, hx.2⟩
      rcases List.mem_cons.mp hq with rfl | hq
      · obtain ⟨dx', g1, g2⟩ := S.dx
        rw [hxa] at g1
        cases g1
        exact ⟨g2, (N1 _ (.tail _ (.head _))).2⟩
      have hN := N1 q (.tail _ (.tail _ hq))
      exact ⟨hall' q (cover q.1 q.2 (Nat.ne_of_lt (lt1 q hq)) hN.2.2 hN.1), hN.2⟩
    | _ => exact hr.elim
end

-- part Told
section
open PySem PySem.W PySem.Calls PyProof.Rows PySem.Spec
theorem len_codes (x : Str) : x.cps.toList.length = x.length := by show _ = x.cps.size; simp
/-- how long the longest common row is -/
def common (x y : Str) : Nat := lc x.cps.toList y.cps.toList x.length y.length
theorem common_comm (x y : Str) : common x y = common y x := by
  unfold common
  rw [← len_codes x, ← len_codes y]
  exact lc_comm _ _
theorem told_spec (x y : Str) : (told x y).length = common x y ∧ within (told x y) x = true ∧ within (told x y) y = true := by
  obtain ⟨t, e, s1, s2, l⟩ := tr_spec x.cps.toList y.cps.toList x.length y.length (by rw [len_codes]; exact Nat.le_refl _) (by rw [len_codes]; exact Nat.le_refl _) []
  have h : told x y = S t := by unfold told S; rw [e]; simp
  rw [h, S_len, within_S, within_S, withins_iff, withins_iff]
  refine ⟨l, ?_, ?_⟩
  · rw [List.take_of_length_le (by rw [len_codes]; exact Nat.le_refl _)] at s1; exact s1
  · rw [List.take_of_length_le (by rw [len_codes]; exact Nat.le_refl _)] at s2; exact s2
theorem common_le (x y : Str) : common x y ≤ x.length ∧ common x y ≤ y.length := ⟨lc_le _ _ _ _, lc_le_right _ _ _ _⟩
theorem levD_bounds {x y : Str} {d : Nat} (h : LevD x y d) : max x.length y.length ≤ d + common x y ∧ d + 2 * common x y ≤ x.length + y.length := by
  have hc := common_le x y
  unfold LevD at h
  by_cases e : x = y
  · rw [if_pos e] at h
    subst e h
    have := lc_self x.cps.toList
    rw [len_codes] at this
    have : x.length ≤ common x x := this
    omega
  · rw [if_neg e] at h
    by_cases c : x.length = 0 ∨ y.length = 0
    · rw [if_pos c] at h
      omega
    · rw [if_neg c] at h
      subst h
      have h1 := lev_le x.cps.toList y.cps.toList x.length y.length
      have h2 := lev_ge x.cps.toList y.cps.toList x.length y.length
      unfold common
      omega
theorem selfNews {h₀ h h1 : Heap} {L x C dx : Addr} {es : List DictEntry} {n : Nat} {news : List (Addr × Obj)} (S : SelfAt h1 x C es n) (N : News h₀ L h news) (m1 : (x, instObj C dx) ∈ news) (m2 : (dx, dictOf es n) ∈ news) : SelfAt h x C es n := ⟨⟨dx, (N _ m1).1, (N _ m2).1⟩, S.q, S.f, S.no⟩
end

-- part Law02
section
open PySem PySem.W PySem.Calls PyProof.Rows PySem.Spec
theorem post_true (as : List WData) : PySem.Challenge.rw_br0037_02.row.claim.post as (.bool true) as = true := by with_unfolding_all rfl
theorem law02 : PySem.Challenge.rw_br0037_02.Holds := Mine.hd (by
  k_go0
  rename (hd.heap_39 _).In _ => KX
  rename Top _ _ _ _ _ _ => T
  rename IntsAre _ _ => hI
  rename Heap.IsList _ _ _ => hL
  rename Fr _ _ _ _ => F
  rename News _ _ _ _ => N0
  rename CellsAre _ _ _ => X0
  rename ¬ _ < _ => hc63
  rename _ = (#[] : Array GenState) => hgens
  rename _ = Data.cell _ => hcA
  have hcA' := hcA
  revert hcA
  rename _ = Data.cell _ => hcB
  intro hcA
  refine wpAny_mono (E := fun _ _ => False) ?_ (fun _ _ h => h) (fun _ _ h => h.elim)
  try (rename Ground _ _ _ _ _ _ _ _ => z; clear z)
  try (rename Hook.says _ _ _ => z; clear z)
  try (rename Flt.MathXP _ _ _ => z; clear z)
  try (rename LooseAre _ _ _ => z; clear z)
  try (rename Tables _ _ _ _ => z; clear z)
  try (rename TopE _ _ _ _ => z; clear z)
  try (rename TopW _ _ _ => z; clear z)
  try (rename BMod _ _ _ _ _ => z; clear z)
  try (rename ReadsAll _ _ _ _ => z; clear z)
  try (rename Well _ _ _ _ => z; clear z)
  try (rename Reads _ _ _ _ => z; clear z)
  try (rename Below _ _ _ _ => z; clear z)
  try (rename Dflts _ _ _ => z; clear z)
  try (rename CellsAre _ _ _ => z; clear z)
  try (rename Heap.CodeRec _ _ _ => z; clear z)
  rename World => w
  rename List Int => ns
  replace hcB : _ = Data.cell none := hcB
  replace hcA : _ = Data.cell none := hcA
  have O : Ok w _ := ⟨KX, _, _, _, _, topRead_of T⟩
  dsimp only
  have CC : ∀ e, Calm (callerA.deeper e) 10 := fun e => ⟨rfl, Nat.le_of_ble_eq_true rfl, Nat.le_of_ble_eq_true rfl⟩
  rename Shared => s₁
  rename List Value => vs
  have hh : ∀ e, (callerA.deeper e).handled = none := fun e => rfl
  have hlen : ns.length ≤ 63 := by omega
  repeat boot_fact
  rename Fr _ _ _ _ => F1
  rename News _ _ _ _ => N1
  refine' For_invV s₁.heap ?a2 ?b2 ?_ ?c2 ?d2
  case a2 => rfl
  case b2 => rfl
  case c2 => intro _; rfl
  case d2 => passes_own
  rename_i fa o pm doc mm hmm1 hmm2 mm3 cdl mm5 mm6 mm7 mm8 mm9 mm10 mm11 mm12 mm13 mm14
  obtain ⟨T0, tA, tB, m1, hT0, hmT, F1, N1, hTc⟩ : ∃ (T0 : Addr) (tA tB : Tok) (m1 : Str → Option Value), m1 "texts" = some (.ref T0) ∧ m1 "script" = some (.ref _) ∧ Fr s₁.heap s₁.heap.objs.size _ m1 ∧ News s₁.heap s₁.heap.objs.size _ [(T0, listOf #[.str "" tA, .str "" tB] 0), (s₁.heap.objs.size + 1 + 1, _), (s₁.heap.objs.size + 1, _)] ∧ ∀ p ∈ [(s₁.heap.objs.size + 1 + 1, mm7), (s₁.heap.objs.size + 1, mm8)], p.1 ≠ T0 := ⟨_, _, _, _, rfl, rfl, F1, N1, fun p hp => Nat.ne_of_lt (nlt (N0 p hp).1)⟩
  have hc7 : mm7.data = .cell none := mm9
  have hc8 : mm8.data = .cell none := hcB
  clear mm11 mm12 mm9 hcA hcB F N0
  refine wpAny_mono (Q := fun xv s' => ∃ (a : Addr) (its : Array Value) (k : Nat) (nums : List Int) (h' : Heap) (tk : Nat) (m : Str → Option Value), xv = .ref a ∧ s' = { s₁ with heap := h', toks := tk } ∧ m "texts" = some (.ref T0) ∧ Fr s₁.heap s₁.heap.objs.size h' m ∧
    News s₁.heap s₁.heap.objs.size h' [(a, listOf its k), (T0, listOf #[.str "" tA, .str "" tB] 0), (s₁.heap.objs.size + 1 + 1, mm7), (s₁.heap.objs.size + 1, mm8)] ∧ T0 ≠ a ∧ IntsAre its.toList nums ∧ nums.length ≤ 13) (E := fun _ _ => False) ?it (fun xv s' hx => ?_) (fun _ _ e => e)
  case it =>
    repeat boot_fact
    refine' slice_list ?w1 ?w2 ?w3 .none (.int 13 _) ?_ ?w4 ?w5 ?w6
    case w1 => exact F1
    case w2 => exact N1
    case w3 => exact F1.lst hL
    case w4 => with_unfolding_all rfl
    case w5 => intro _; with_unfolding_all rfl
    case w6 => have := hI.length; rw [sizeLine_eq]; simp; omega
    intro h2 F2 N2
    have e13 : slicePick vs.toArray none (some 13) none = (vs.take 13).toArray := by have := slicePick_upto' vs.toArray 13; simpa using this
    rw [e13] at N2
    have hI2 := hI.take 13
    refine wpAny_truthy_list (N2.isList (.head _)) (by simp; omega) ?_
    cases hemp : (!(vs.take 13).toArray.isEmpty) with
    | true =>
      repeat boot_fact
      refine ⟨_, _, _, _, _, _, _, rfl, rfl, hT0, F2, N2, ?_, by simpa using hI2, by simp; omega⟩
      exact Nat.ne_of_lt (Nat.lt_of_lt_of_le (nlt (N1 _ (.head _)).1) (Nat.le_succ _))
    | false =>
      repeat boot_fact
      rename Fr _ _ _ _ => F3
      rename News _ _ _ _ => N3
      refine ⟨_, _, _, [0, 2, 4, 1, 7, 5], _, _, _, rfl, rfl, hT0, F3, Mine.News.drop2 N3, ?_, .cons _ _ (.cons _ _ (.cons _ _ (.cons _ _ (.cons _ _ (.cons _ _ .nil))))), by decide⟩
      exact Nat.ne_of_lt (nlt (N2 _ (.tail _ (.head _))).1)
  obtain ⟨a, its, k, nums, h2, tk2, m2, rfl, rfl, hT0, F2, N2, haT, hI2, hn13⟩ := hx
  clear F1 N1 hmT
  refine' list_src (hh _) ?x1 ?x2 ?x3 ?_
  case x1 => exact F2
  case x2 => exact N2
  case x3 => exact .head _
  intro I St h3 F3 N3 S3 hSt haI
  have hlist : its.size = nums.length := by have := hI2.length; simpa using this
  refine loop_src (fun i m news => ∃ (x y : Str) (tx ty : Tok) (k : Nat), news = [(T0, listOf #[.str x tx, .str y ty] k), (s₁.heap.objs.size + 1 + 1, mm7), (s₁.heap.objs.size + 1, mm8)] ∧ x.length + y.length ≤ i ∧ m "texts" = some (.ref T0)) F3 (fun q hq => N3 q (.tail _ hq)) ⟨S3.walks, S3.low, S3.st, S3.off, S3.base, fun q hq => S3.apart q (.tail _ hq)⟩ hSt ⟨"", "", tA, tB, 0, rfl, by decide, hT0⟩ ?turn ?done
  case turn =>
    clear F3 N3 S3 F2 N2 hT0
    rintro i v m₁ news₁ h tk own hi hP ⟨x, y, tx, ty, k1, rfl, hxy, hT0⟩ hoff ⟨oI, hoI⟩ hfp F N
    obtain ⟨z, tz, rfl, hz⟩ := hI2.at i v (by rw [Array.getElem?_toList]; exact hP)
    dsimp only
    replace F : Fr s₁.heap s₁.heap.objs.size h _ := F
    replace N : News s₁.heap s₁.heap.objs.size h _ := N
    have e2 : z.fmod 2 = z % 2 := Int.fmod_eq_emod_of_nonneg z (by decide)
    have e4 : (z.fdiv 2).fmod 4 = (z.fdiv 2) % 4 := Int.fmod_eq_emod_of_nonneg _ (by decide)
    repeat boot_fact
    rename Fr _ _ _ _ => F2
    rename News _ _ _ _ => N2
    obtain ⟨pl, hpl, hpl2⟩ : ∃ pl : Nat, z.fmod 2 = pl ∧ pl < 2 := ⟨(z.fmod 2).toNat, by omega, by omega⟩
    obtain ⟨ql, hql, hql2⟩ : ∃ ql : Nat, (z.fdiv 2).fmod 4 = ql ∧ ql < 4 := ⟨((z.fdiv 2).fmod 4).toNat, by omega, by omega⟩
    obtain ⟨u, tu, hu, hul⟩ : ∃ (u : Str) (tu : Tok), (#[Value.str x tx, .str y ty] : Array Value).toList[pl]? = some (.str u tu) ∧ u.length ≤ i := by
      have : pl = 0 ∨ pl = 1 := by omega
      rcases this with rfl | rfl
      · exact ⟨x, tx, rfl, by omega⟩
      · exact ⟨y, ty, rfl, by omega⟩
    have hmem : (T0, listOf #[.str x tx, .str y ty] k1) ∈ own ++ [(T0, listOf #[.str x tx, .str y ty] k1), (s₁.heap.objs.size + 1 + 1, mm7), (s₁.heap.objs.size + 1, mm8)] := List.mem_append_right _ (.head _)
    refine' read_ref (k := pl) ?y1 hmem ?y2 (by omega) hu ?_ ?y3 ?y4
    case y1 => exact N2
    case y2 => exact hpl
    case y3 => with_unfolding_all rfl
    case y4 => intro _; with_unfolding_all rfl
    repeat boot_fact
    refine' read_str (k := ql) ?y5 ?y6 (by omega) ?_ ?y7 ?y8
    case y5 => exact hql
    case y6 => show ql < 4; exact hql2
    case y7 => with_unfolding_all rfl
    case y8 => intro _; with_unfolding_all rfl
    repeat boot_fact
    refine PyProof.Rows.add_str (fun t7 tk7 => ?_) (by rw [sizeLine_eq]; show u.length + 1 ≤ _; omega)
    generalize hcc : u ++ (⟨#[("abcd" : Str).cps.getD ql 0]⟩ : Str) = uc
    have huc : uc.length = u.length + 1 := by rw [← hcc]; show (u.cps ++ #[_]).size = u.cps.size + 1; simp
    repeat boot_fact
    have hT0own : ∀ p ∈ own, p.1 ≠ T0 := fun p hp e => by
      rcases List.mem_cons.mp (hfp p hp) with q | q
      · exact hoff _ (.head _) (e.symm.trans q)
      · exact haT (e.symm.trans (List.mem_singleton.mp q))
    have hpost : ∀ p ∈ [(s₁.heap.objs.size + 1 + 1, mm7), (s₁.heap.objs.size + 1, mm8)], p.1 ≠ T0 := fun p hp => hTc p hp
    refine' set_cell1 (pre := own) (post := [(s₁.heap.objs.size + 1 + 1, mm7), (s₁.heap.objs.size + 1, mm8)]) (q := pl) ?y9 ?y10 hT0own hpost ?y11 ?y12 (by omega) ?_
    case y9 => exact F2
    case y10 => exact N2
    case y11 => exact hpl
    case y12 => show pl < 2; exact hpl2
    intro h8 F8 N8
    repeat boot_fact
    have : pl = 0 ∨ pl = 1 := by omega
    have hend : ∃ (x' y' : Str) (tx' ty' : Tok), (((#[Value.str x tx, .str y ty] : Array Value).toList.set pl (.str uc t7)).toArray : Array Value) = #[.str x' tx', .str y' ty'] ∧ x'.length + y'.length ≤ i + 1 := by
      rcases this with rfl | rfl
      · simp at hu
        obtain ⟨rfl, rfl⟩ := hu
        exact ⟨uc, y, t7, ty, rfl, by omega⟩
      · simp at hu
        obtain ⟨rfl, rfl⟩ := hu
        exact ⟨x, uc, tx, t7, rfl, by omega⟩
    obtain ⟨x', y', tx', ty', earr, hxy'⟩ := hend
    rw [earr] at N8
    exact LoopStepU.intro F8 N8 (fun p hp hm => by
      rcases List.mem_cons.mp hp with rfl | hp
      · exact hoff _ (.head _) (List.mem_singleton.mp hm)
      · exact hoff _ (.tail _ hp) (List.mem_singleton.mp hm)) ⟨x', y', tx', ty', k1, rfl, hxy', hT0⟩
  case done =>
    rintro m₁ news₁ h5 tk5 ⟨x, y, tx, ty, k1, rfl, hxy, hT0⟩ F N
    have hxy : x.length + y.length ≤ 13 := by
      omega
    replace F : Fr s₁.heap s₁.heap.objs.size h5 _ := F
    replace N : News s₁.heap s₁.heap.objs.size h5 _ := N
    clear F3 N3 S3 F2 N2
    dsimp only
    repeat boot_fact
    refine Assign_Tuple ?_ (by rfl) (by rfl)
    repeat boot_fact
    refine' kun_list ?z1 ?z2 ?z3 (hh _) ?z4 ?z5 ?_
    case z1 => exact F
    case z2 => exact N
    case z3 => exact N.isList (.head _)
    case z4 => rfl
    case z5 => rfl
    intro h6 F6 N6
    dsimp only [assignEach, List.map]
    repeat boot_fact
    rename Fr _ _ _ _ => F7
    rename News _ _ _ _ => N7
    obtain ⟨m7, hone, htwo, F7⟩ : ∃ m7 : Str → Option Value, m7 "one" = some (.str x tx) ∧ m7 "two" = some (.str y ty) ∧ Fr s₁.heap s₁.heap.objs.size _ m7 := ⟨_, rfl, rfl, F7⟩
    clear F6 N6 F N
    refine Assign_Tuple ?_ (by rfl) (by rfl)
    refine wpAny_mono (Q := fun v s' => ∃ (D : Addr) (few many : Str) (tf tm : Tok) (h' : Heap) (tk : Nat), v = .ref D ∧ s' = { s₁ with heap := h', toks := tk } ∧ Fr s₁.heap s₁.heap.objs.size h' m7 ∧
      News s₁.heap s₁.heap.objs.size h' [(D, tupObj [.str few tf, .str many tm]), (T0, listOf #[.str x tx, .str y ty] k1), (s₁.heap.objs.size + 1 + 1, mm7), (s₁.heap.objs.size + 1, mm8)] ∧ ((few = x ∧ many = y ∧ x.length < y.length) ∨ (few = y ∧ many = x ∧ y.length ≤ x.length))) (E := fun _ _ => False) ?tup (fun v s' hx => ?_) (fun _ _ e => e)
    case tup =>
      repeat boot_fact
      refine PyProof.Rows.split_dec (fun c1 => ?_) (fun c1 => ?_)
      · repeat boot_fact
        rename Fr _ _ _ _ => F8
        rename News _ _ _ _ => N8
        exact ⟨_, x, y, tx, ty, _, _, rfl, rfl, F8, N8, .inl ⟨rfl, rfl, by omega⟩⟩
      · repeat boot_fact
        rename Fr _ _ _ _ => F8
        rename News _ _ _ _ => N8
        exact ⟨_, y, x, ty, tx, _, _, rfl, rfl, F8, N8, .inr ⟨rfl, rfl, by omega⟩⟩
    obtain ⟨D, few, many, tf, tm, h8, tk8, rfl, rfl, F8, N8, hfm⟩ := hx
    clear F7 N7
    refine' unpackN_ ?v1 ?v2 ?v3 (hh _) ?v4 ?v5 ?_
    case v1 => exact F8
    case v2 => exact N8
    case v3 => exact N8.isTup (.head _)
    case v4 => rfl
    case v5 => rfl
    intro h9 F9 N9
    dsimp only [assignEach, List.map]
    repeat boot_fact
    rename Fr _ _ _ _ => F10
    rename News _ _ _ _ => N10
    have N11 : News s₁.heap s₁.heap.objs.size _ ([(s₁.heap.objs.size + 1 + 1, mm7)] ++ (s₁.heap.objs.size + 1, mm8) :: []) := fun q hq => N10 q (.tail _ (.tail _ hq))
    have hcne : ∀ p ∈ [(s₁.heap.objs.size + 1 + 1, mm7)], p.1 ≠ s₁.heap.objs.size + 1 := fun p hp => by
      rw [List.mem_singleton.mp hp]
      exact Nat.succ_ne_self _
    refine stE_C (c := s₁.heap.objs.size + 1) (by with_unfolding_all rfl) (by with_unfolding_all rfl) (by with_unfolding_all rfl) F10 N11 hcne (fun _ hp => nomatch hp) hc8 fun h11 oM hoM F11 N12 => ?_
    dsimp only [List.cons_append, List.nil_append] at N12
    clear F9 N9 N10 N11 F10 F8 N8
    repeat boot_fact
    rename Fr _ _ _ _ => F13
    rename News _ _ _ _ => N13
    obtain ⟨P0, tP, m13, F13, N13, hpar, hfew, hone, htwo, hPc⟩ : ∃ (P0 : Addr) (tP : Tok) (m13 : Str → Option Value), Fr s₁.heap s₁.heap.objs.size _ m13 ∧
      News s₁.heap s₁.heap.objs.size _ [(P0, listOf #[.str "" tP] 0), (s₁.heap.objs.size + 1 + 1, mm7), (s₁.heap.objs.size + 1, oM)] ∧ m13 "parts" = some (.ref P0) ∧ m13 "few" = some (.str few tf) ∧ m13 "one" = some (.str x tx) ∧ m13 "two" = some (.str y ty) ∧
      ∀ p ∈ [(s₁.heap.objs.size + 1 + 1, mm7), (s₁.heap.objs.size + 1, oM)], p.1 ≠ P0 := ⟨_, _, _, F13, N13, rfl, rfl, hone, htwo, fun p hp => Nat.ne_of_lt (nlt (N12 p hp).1)⟩
    clear F11 N12
    have hfl : few.length ≤ 13 := by rcases hfm with ⟨rfl, _, _⟩ | ⟨rfl, _, _⟩ <;> omega
    have hml : many.length ≤ 13 := by rcases hfm with ⟨_, rfl, _⟩ | ⟨_, rfl, _⟩ <;> omega
    have hf6 : few.length ≤ 6 := by rcases hfm with ⟨rfl, rfl, _⟩ | ⟨rfl, rfl, _⟩ <;> omega
    refine For_turns (h₀ := s₁.heap) F13 ?_ (by intro _; rfl) (by passes_own)
    repeat boot_fact
    refine turns_str (hh _) (fun i m news => ∃ (a : Addr) (its : Array Value) (k : Nat) (oL : Obj) (v₀ : Option Value), news = [(a, listOf its k), (s₁.heap.objs.size + 1 + 1, oL), (s₁.heap.objs.size + 1, oM)] ∧ oL.data = .cell v₀ ∧ StrsAre its.toList ((parts many.cps.toList (few.cps.toList.take i) [[]]).map S) ∧
      m "parts" = some (.ref a) ∧ m "one" = some (.str x tx) ∧ m "two" = some (.str y ty) ∧ a ≠ s₁.heap.objs.size + 1 + 1 ∧ a ≠ s₁.heap.objs.size + 1) F13 N13 ⟨P0, _, _, _, _, rfl, hc7, .cons _ tP .nil, hpar, hone, htwo, (hPc _ (.head _)).symm, (hPc _ (.tail _ (.head _))).symm⟩ ?turnL ?doneL
    case turnL =>
      clear F13 N13 hpar hone htwo hfew hPc
      rintro i c u m₁ news₁ h tk own hc ⟨a, its, k, oL, v₀, rfl, hoL, hstrs, e1, e2, e3, ha1, ha2⟩ hnw hown ⟨oI, hoI⟩ F N
      replace F : Fr s₁.heap s₁.heap.objs.size h _ := F
      replace N : News s₁.heap s₁.heap.objs.size h _ := N
      refine wpAny_assign_Name ?_
      have N' : News s₁.heap s₁.heap.objs.size h ((own ++ [(a, listOf its k)]) ++ (s₁.heap.objs.size + 1 + 1, oL) :: [(s₁.heap.objs.size + 1, oM)]) := by
        have e : (own ++ [(a, listOf its k)]) ++ (s₁.heap.objs.size + 1 + 1, oL) :: [(s₁.heap.objs.size + 1, oM)] = own ++ [(a, listOf its k), (s₁.heap.objs.size + 1 + 1, oL), (s₁.heap.objs.size + 1, oM)] := by simp
        rw [e]; exact N
      refine stE_C (c := s₁.heap.objs.size + 1 + 1) (by with_unfolding_all rfl) (by with_unfolding_all rfl) (by with_unfolding_all rfl) F N' (fun p hp => ?_) (fun p hp => ?_) hoL fun h2 oL2 hoL2 F2 N2 => ?_
      · rcases List.mem_append.mp hp with hp | hp
        · rw [hown p hp]
          exact fun e => hnw _ (.tail _ (.head _)) e.symm
        · rw [List.mem_singleton.mp hp]; exact ha1
      · rw [List.mem_singleton.mp hp]
        exact Nat.ne_of_lt (Nat.lt_succ_self _)
      clear N N' F hoL
      repeat boot_fact
      obtain ⟨ps, hps⟩ : ∃ ps, ps = parts many.cps.toList (few.cps.toList.take i) [[]] := ⟨_, rfl⟩
      rw [← hps] at hstrs
      have hpl : its.size = ps.length := by have := hstrs.len_eq; simpa using this
      have hpx : ∀ q ∈ ps, q.length ≤ 13 := fun q hq => by
        have h1 : i ≤ few.cps.toList.length := by
          have : i < few.cps.size := by
            cases q' : decide (i < few.cps.size) with
            | true => exact of_decide_eq_true q'
            | false => rw [Array.getElem?_eq_none (by have := of_decide_eq_false q'; omega)] at hc; cases hc
          simp; omega
        have := ((parts_spec many.cps.toList few.cps.toList i h1 q).mp (hps ▸ hq)).2.length_le
        have e : many.cps.toList.length = many.length := by show _ = many.cps.size; simp
        omega
      have hps64 : ps.length ≤ 64 := by
        have h1 := parts_length many.cps.toList few.cps.toList i
        rw [← hps] at h1
        have hi6 : i ≤ 6 := by
          have : i < few.cps.size := by
            cases q' : decide (i < few.cps.size) with
            | true => exact of_decide_eq_true q'
            | false => rw [Array.getElem?_eq_none (by have := of_decide_eq_false q'; omega)] at hc; cases hc
          have e : few.cps.size = few.length := rfl
          omega
        exact Nat.le_trans h1 (Nat.pow_le_pow_right (by decide) hi6)
      refine' listcomp (h₀ := s₁.heap) (L := s₁.heap.objs.size) its.size (fun j => withins many.cps.toList (ps.getD j [] ++ [c])) (fun _ j y _ => ∃ t, y = Value.str (S (ps.getD j [] ++ [c])) t) ?l1 ?l2 ?l3 ?l4 ?l5 ?l6 ?l7 ?_ ?l9
      case l1 => rfl
      case l2 => decide
      case l3 => rfl
      case l4 => decide
      case l5 => rfl
      case l6 => exact fun _ _ _ _ _ g _ => g
      case l7 => rintro _ _ _ _ ⟨t, rfl⟩ b hb; cases hb
      case l9 => intro _; rfl
      repeat boot_fact
      refine' list_src (hh _) ?k1 ?k2 ?k3 ?_
      case k1 => exact F2
      case k2 => exact N2
      case k3 => exact List.mem_append_left _ (List.mem_append_right _ (.head _))
      intro I2 St2 h3 F3 N3 S3 hSt2 haI2
      have hit : ∀ j v, its[j]? = some v → ∃ t, v = Value.str (S (ps.getD j [])) t ∧ (ps.getD j []).length ≤ 13 := by
        intro j v hv
        obtain ⟨z, t, rfl, hz⟩ := hstrs.item j v (by rw [Array.getElem?_toList]; exact hv)
        rw [List.getElem?_map] at hz
        cases e : ps[j]? with
        | none => rw [e] at hz; cases hz
        | some q =>
          rw [e] at hz
          have hz : S q = z := by simpa using hz
          have hg : ps.getD j [] = q := by simp [List.getD_eq_getElem?_getD, e]
          refine ⟨t, by rw [hg, hz], ?_⟩
          rw [hg]
          exact hpx q (List.mem_of_getElem? e)
      have hcs : ∀ q ∈ [(s₁.heap.objs.size + 1 + 1, oL2), (s₁.heap.objs.size + 1, oM)], q ∈ own ++ [(a, listOf its k)] ++ [(s₁.heap.objs.size + 1 + 1, oL2), (s₁.heap.objs.size + 1, oM)] := fun q hq => List.mem_append_right _ hq
      refine ⟨_, _, F3, N3, S3.newL, ⟨⟨I2, [I2, a], _, St2, rfl, S3.walks, S3.low, by rw [sizeLine_eq]; omega, S3.st, ?_, ?_⟩⟩, ?_⟩
      · intro j v s₃ m₃ hj hv hn hm hk
        obtain ⟨t, rfl, hq13⟩ := hit j v hv
        obtain ⟨all, F5, N5, hk0, hall⟩ := comp_frame (cells := [(s₁.heap.objs.size + 1 + 1, oL2), (s₁.heap.objs.size + 1, oM)]) F3 N3 S3.base (fun q hq => S3.apart q (hcs q hq)) hcs hn hk
        dsimp only [List.cons_append, List.nil_append] at N5 hall
        clear F3 N3 F2 N2
        refine tests_one ?_
        repeat boot_fact
        refine PyProof.Rows.add_str (fun t7 tk7 => ?_) (by rw [sizeLine_eq, S_len]; show _ + 1 ≤ _; omega)
        rw [S_snoc]
        repeat boot_fact
        refine' Gives.use ?g1 ?g2 ?g3 ?_
        case g2 => exact F5
        case g3 => exact N5
        case g1 => exact within_pure (O.keeps hk0) ((CC _).le (by omega)) (by rw [S_len, List.length_append]; show _ + 1 ≤ _; omega)
        rintro v h7 tk8 rfl F7 N7
        repeat boot_fact
        refine ⟨within_S _ _, _, _, rfl, keptOf F7 N7 hk0 hall, F7.ns⟩
      · intro j v s₃ m₃ hj hv _ hn hm hk
        obtain ⟨t, rfl, hq13⟩ := hit j v hv
        obtain ⟨all, F5, N5, hk0, hall⟩ := comp_frame (cells := [(s₁.heap.objs.size + 1 + 1, oL2), (s₁.heap.objs.size + 1, oM)]) F3 N3 S3.base (fun q hq => S3.apart q (hcs q hq)) hcs hn hk
        dsimp only [List.cons_append, List.nil_append] at N5 hall
        clear F3 N3 F2 N2
        repeat boot_fact
        refine PyProof.Rows.add_str (fun t7 tk7 => ?_) (by rw [sizeLine_eq, S_len]; show _ + 1 ≤ _; omega)
        exact ⟨⟨t7, by rw [S_snoc]⟩, ⟨_, _, rfl, fun b o _ e => e, hn⟩, fun b hb => by cases hb⟩
      · intro h4 tk4 ys k4 F4 N4 hap hP
        have hys := strs_paired hP
        rw [hpl, filter_range ps [] (fun q => withins many.cps.toList (q ++ [c])) (fun q => S (q ++ [c]))] at hys
        clear F2 N2 F3 N3 hP
        repeat boot_fact
        refine' add_lists ?j1 ?j2 ?j3 ?j4 ?_ ?j5
        case j1 => exact F4
        case j2 => exact N4
        case j3 => exact N4.isList (.tail _ (List.mem_append_left _ (List.mem_append_right _ (.head _))))
        case j4 => exact N4.isList (.head _)
        case j5 =>
          have h1 := hstrs.len_eq
          have h2 := hys.len_eq
          have h3 := List.length_filter_le (fun q => withins many.cps.toList (q ++ [c])) ps
          rw [List.length_map] at h1 h2
          rw [sizeLine_eq]
          omega
        intro h5 F5 N5
        repeat boot_fact
        rename Fr _ _ _ _ => F6
        rename News _ _ _ _ => N6
        refine LoopStepU.intro (news₂ := [(_, listOf (its.toList ++ ys.toList).toArray 0), (s₁.heap.objs.size + 1 + 1, oL2), (s₁.heap.objs.size + 1, oM)]) F6 (fun q hq => ?_) ?_ ⟨_, _, _, _, _, rfl, hoL2, ?_, rfl, e2, e3, ?_, ?_⟩
        · rcases List.mem_append.mp hq with hq | hq
          · exact N6 q (.tail _ (.tail _ (List.mem_append_left _ (List.mem_append_left _ hq))))
          · rcases List.mem_cons.mp hq with rfl | hq
            · exact N6 _ (.head _)
            · exact N6 q (.tail _ (.tail _ (List.mem_append_right _ hq)))
        · intro p hp hm
          have hm := List.mem_singleton.mp hm
          rcases List.mem_cons.mp hp with rfl | hp
          · exact Nat.ne_of_lt (nlt (N4 (_, oI) (.tail _ (List.mem_append_left _ (List.mem_append_left _ hoI)))).1) hm.symm
          · rcases List.mem_cons.mp hp with rfl | hp
            · exact hnw _ (.tail _ (.head _)) hm
            · rw [List.mem_singleton.mp hp] at hm
              exact hnw _ (.tail _ (.tail _ (.head _))) hm
        · have hc' : few.cps.toList[i]? = some c := by rw [Array.getElem?_toList]; exact hc
          rw [take_last hc', parts_snoc, ← hps, List.map_append, List.filter_map, List.map_map]
          exact hstrs.append' hys
        · exact Nat.ne_of_gt (nlt (N4 (s₁.heap.objs.size + 1 + 1, oL2) (.tail _ (List.mem_append_right _ (.head _)))).1)
        · exact Nat.ne_of_gt (nlt (N4 (s₁.heap.objs.size + 1, oM) (.tail _ (List.mem_append_right _ (.tail _ (.head _))))).1)
    case doneL =>
      rintro m₁ news₁ h tk ⟨a, its, k, oL, v₀, rfl, hoL, hstrs, e1, e2, e3, ha1, ha2⟩ F N
      replace F : Fr s₁.heap s₁.heap.objs.size h _ := F
      replace N : News s₁.heap s₁.heap.objs.size h _ := N
      have htk : few.cps.toList.take few.cps.size = few.cps.toList := List.take_of_length_le (by simp)
      rw [htk] at hstrs
      clear F13 N13 hpar hone htwo hfew hPc
      obtain ⟨ps, hps⟩ : ∃ ps, ps = parts many.cps.toList few.cps.toList [[]] := ⟨_, rfl⟩
      rw [← hps] at hstrs
      have hmost := parts_most few.cps.toList many.cps.toList
      rw [← hps] at hmost
      have hpl : its.size = ps.length := by have := hstrs.len_eq; simpa using this
      have hfe : few.cps.toList.length = few.length := by show _ = few.cps.size; simp
      have hme : many.cps.toList.length = many.length := by show _ = many.cps.size; simp
      have hlcb : lc few.cps.toList many.cps.toList few.cps.toList.length many.cps.toList.length ≤ 6 := by
        have := lc_le few.cps.toList many.cps.toList few.cps.toList.length many.cps.toList.length
        omega
      have hps64 : ps.length ≤ 64 := by
        have h1 := parts_length many.cps.toList few.cps.toList few.cps.toList.length
        rw [List.take_length, ← hps] at h1
        have h2 : 2 ^ few.cps.toList.length ≤ 2 ^ 6 := Nat.pow_le_pow_right (by decide) (by omega)
        omega
      repeat boot_fact
      refine' listcomp (h₀ := s₁.heap) (L := s₁.heap.objs.size) its.size (fun _ => true) (fun _ j y _ => ∃ t, y = Value.int (((ps.getD j []).length : Nat) : Int) t) ?m1 ?m2 ?m3 ?m4 ?m5 ?m6 ?m7 ?_ ?m9
      case m1 => rfl
      case m2 => decide
      case m3 => rfl
      case m4 => decide
      case m5 => rfl
      case m6 => exact fun _ _ _ _ _ g _ => g
      case m7 => rintro _ _ _ _ ⟨t, rfl⟩ b hb; cases hb
      case m9 => intro _; rfl
      repeat boot_fact
      refine' list_src (hh _) ?n1 ?n2 ?n3 ?_
      case n1 => exact F
      case n2 => exact N
      case n3 => exact .head _
      intro I2 St2 h3 F3 N3 S3 hSt2 haI2
      refine ⟨_, _, F3, N3, S3.newL, ⟨⟨I2, [I2, a], _, St2, rfl, S3.walks, S3.low, by rw [sizeLine_eq]; omega, S3.st, ?_, ?_⟩⟩, ?_⟩
      · intro j v s₃ m₃ hj hv hn hm hk
        exact tests_none ⟨rfl, (Kept.rfl' _).toC hn⟩
      · intro j v s₃ m₃ hj hv _ hn hm hk
        obtain ⟨z, t, rfl, hz⟩ := hstrs.item j v (by rw [Array.getElem?_toList]; exact hv)
        rw [List.getElem?_map] at hz
        obtain ⟨all, F5, N5, hk0, hall⟩ := comp_frame (cells := []) F3 N3 S3.base (fun q hq => nomatch hq) (fun q hq => nomatch hq) hn hk
        clear F3 N3
        cases e : ps[j]? with
        | none => rw [e] at hz; cases hz
        | some q =>
          rw [e] at hz
          have hz : S q = z := by simpa using hz
          subst hz
          have hq6 : (S q).length ≤ 6 := by rw [S_len]; exact Nat.le_trans (hmost.1 q (List.mem_of_getElem? e)) hlcb
          repeat boot_fact
          have hsz2 : ((S q).length : Int) = (((ps.getD j []).length : Nat) : Int) := by rw [S_len]; simp [List.getD_eq_getElem?_getD, e]
          exact ⟨⟨_, congrArg (fun z => Value.int z _) hsz2⟩, ⟨_, _, rfl, fun b o _ e => e, hn⟩, fun b hb => by cases hb⟩
      · intro h4 tk4 ys k4 F4 N4 hap hP
        have hys := ints_paired hP
        rw [hpl, filter_range ps [] (fun _ => true) (fun q => (q.length : Int))] at hys
        have hft : ps.filter (fun _ => true) = ps := by simp
        rw [hft] at hys
        clear F N F3 N3 hP S3 hSt2
        repeat boot_fact
        refine' max_list_N (hh _) ?q1 ?q2 ?q3 hys ?q4 ?_
        case q1 => exact F4
        case q2 => exact N4
        case q3 => exact N4.isList (.head _)
        case q4 =>
          obtain ⟨q, hq, _⟩ := hmost.2
          rw [List.length_map]
          exact List.length_pos_of_mem hq
        intro h5 M tM tk5 F5 N5 hM1 hM2
        have hM : M = (lc few.cps.toList many.cps.toList few.cps.toList.length many.cps.toList.length : Nat) := by
          obtain ⟨q, hq, hql⟩ := hmost.2
          have h1 := hM2 (q.length : Int) (List.mem_map.mpr ⟨q, hq, rfl⟩)
          obtain ⟨q', hq', rfl⟩ := List.mem_map.mp hM1
          have h2 := hmost.1 q' hq'
          omega
        subst hM
        have hcm : lc few.cps.toList many.cps.toList few.cps.toList.length many.cps.toList.length = common x y := by
          rw [hfe, hme]
          rcases hfm with ⟨rfl, rfl, _⟩ | ⟨rfl, rfl, _⟩
          · rfl
          · exact common_comm _ _
        rw [hcm]
        have CU : ∀ e C, Calm ((callerA.deeper e).under (.builtin "type.__call__" ⟨[.ref C], []⟩)) 5 := fun e C => ⟨rfl, Nat.le_of_ble_eq_true rfl, Nat.le_of_ble_eq_true rfl⟩
        have hmn : many.length = max x.length y.length := by rcases hfm with ⟨_, rfl, _⟩ | ⟨_, rfl, _⟩ <;> omega
        obtain ⟨htl, htx, hty⟩ := told_spec x y
        obtain ⟨htl2, _, _⟩ := told_spec y x
        rw [common_comm y x] at htl2
        have hcl := common_le x y
        repeat boot_fact
        rename Fr _ _ _ _ => F6
        rename News _ _ _ _ => N6
        refine callWith_K0 ((O.keeps F6.keep).k) (by k_is) ?_
        dsimp only [List.nil_append]
        refine make225 F6 N6 O ((CU _ _).le (by omega)) fun ms dx h7 tk7 es n F7 N7 S7 => ?_
        repeat boot_fact
        rename Fr _ _ _ _ => F8
        rename News _ _ _ _ => N8
        refine kco_callWith (K := hd.heap_39 w.params) (f := 215) ((O.keeps F8.keep).k) (InstAt.of_news N8 (.head _) (.tail _ (.head _))) rfl (by k_is) ?_ (by with_unfolding_all rfl) (by with_unfolding_all rfl)
        repeat boot_fact
        rename Fr _ _ _ _ => F9
        rename News _ _ _ _ => N9
        refine ⟨⟨(O.keeps F9.keep).k, InstAt.of_news N9 (.head _) (.tail _ (.head _))⟩, ?_⟩
        dsimp only [List.nil_append]
        have S9 := selfNews S7 N9 (.head _) (.tail _ (.head _))
        refine' Gives.use ?t1 ?t2 ?t3 ?_
        case t2 => exact F9
        case t3 => exact N9
        case t1 => exact Gives.self (O.keeps F9.keep) S9 (lcs_call (O.keeps F9.keep) ((CC _).le (by omega)) (by omega) (by omega) S9) (by k_is) (by k_is) (by k_is)
        rintro v h10 tk10 ⟨tt, rfl⟩ F10 N10
        clear F6 N6 F7 N7 F9 N9
        repeat boot_fact
        rename Fr _ _ _ _ => F11
        rename News _ _ _ _ => N11
        clear F10 N10
        refine if_is_F (by rw [htl]; simp) ?_
        repeat boot_fact
        refine' Gives.use ?t4 ?t5 ?t6 ?_
        case t5 => exact F11
        case t6 => exact N11
        case t4 => exact within_pure (O.keeps F11.keep) ((CC _).le (by omega)) (by rw [htl]; omega)
        rintro v h12 tk12 rfl F12 N12
        rw [htx]
        clear F11 N11
        repeat boot_fact
        refine' Gives.use ?t7 ?t8 ?t9 ?_
        case t8 => exact F12
        case t9 => exact N12
        case t7 => exact within_pure (O.keeps F12.keep) ((CC _).le (by omega)) (by rw [htl]; omega)
        rintro v h13 tk13 rfl F13 N13
        rw [hty]
        clear F12 N12
        repeat boot_fact
        have S13 := selfNews S7 N13 (.head _) (.tail _ (.head _))
        obtain ⟨dI, I13⟩ := S13.inst
        refine method_inst F13 O.k I13 (by k_is) (by k_is) (by k_is) (S13.no "similarity" (by simp [clsNames])) ?_
        repeat boot_fact
        refine' Gives.use ?t10 ?t11 ?t12 ?_
        case t11 => exact F13
        case t12 => exact N13
        case t10 => exact lcs_sim (O.keeps F13.keep) ((CC _).le (by omega)) (by omega) (by omega) S13 (by rw [htl2]; omega)
        rintro v h14 tk14 ⟨t14, rfl⟩ F14 N14
        rw [htl2]
        clear F13 N13
        repeat boot_fact
        refine if_is_F (by simp) ?_
        repeat boot_fact
        have S14 := selfNews S7 N14 (.head _) (.tail _ (.head _))
        obtain ⟨dI2, I14⟩ := S14.inst
        refine method_inst F14 O.k I14 (by k_is) (by k_is) (by k_is) (S14.no "distance" (by simp [clsNames])) ?_
        repeat boot_fact
        refine' Gives.use ?t13 ?t14 ?t15 ?_
        case t14 => exact F14
        case t15 => exact N14
        case t13 => exact lcs_dist (O.keeps F14.keep) ((CC _).le (by omega)) (by omega) (by omega) S14 (by rw [htl]; omega)
        rintro v h15 tk15 ⟨t15, rfl⟩ F15 N15
        rw [htl]
        clear F14 N14
        repeat boot_fact
        refine nmE_C (c := s₁.heap.objs.size + 1) (o := oM) (by with_unfolding_all rfl) (by with_unfolding_all rfl) (by with_unfolding_all rfl) (by decide) N15 (by first | exact .tail _ (.tail _ (.tail _ (.head _))) | exact .tail _ (.tail _ (.tail _ (.tail _ (.head _)))) | exact .tail _ (.tail _ (.tail _ (.tail _ (.tail _ (.head _))))) | exact .tail _ (.tail _ (.tail _ (.tail _ (.tail _ (.tail _ (.head _))))))) hoM ?_
        repeat boot_fact
        refine if_is_F (by rw [hmn]; simp) ?_
        repeat boot_fact
        rename Fr _ _ _ _ => F16
        rename News _ _ _ _ => N16
        refine callWith_K0 ((O.keeps F16.keep).k) (by k_is) ?_
        dsimp only [List.nil_append]
        refine make266 F16 N16 O ((CU _ _).le (by omega)) fun mz dz h17 tk17 es2 n2 F17 N17 S17 => ?_
        have S17' := selfNews S17 N17 (.head _) (.tail _ (.head _))
        obtain ⟨dI3, I17⟩ := S17'.inst
        refine method_inst F17 O.k I17 (by k_is) (by k_is) (by k_is) (S17'.no "distance" (by simp [clsNames])) ?_
        repeat boot_fact
        refine' Gives.use ?t16 ?t17 ?t18 ?_
        case t17 => exact F17
        case t18 => exact N17
        case t16 => exact lev_dist (O.keeps F17.keep) ((CC _).le (by omega)) (by omega) (by omega) S17'
        rintro v h18 tk18 ⟨far, t18, rfl, hfar⟩ F18 N18
        have hb := levD_bounds hfar
        clear F16 N16 F17 N17
        repeat boot_fact
        rename Fr _ _ _ _ => F19
        rename News _ _ _ _ => N19
        clear F18 N18
        refine Compare_chain ?_ (by with_unfolding_all rfl)
        repeat boot_fact
        refine nmE_C (c := s₁.heap.objs.size + 1) (o := oM) (by with_unfolding_all rfl) (by with_unfolding_all rfl) (by with_unfolding_all rfl) (by decide) N19 (by first | exact .tail _ (.tail _ (.tail _ (.head _))) | exact .tail _ (.tail _ (.tail _ (.tail _ (.head _)))) | exact .tail _ (.tail _ (.tail _ (.tail _ (.tail _ (.head _))))) | exact .tail _ (.tail _ (.tail _ (.tail _ (.tail _ (.tail _ (.head _)))))) | exact .tail _ (.tail _ (.tail _ (.tail _ (.tail _ (.tail _ (.tail _ (.head _))))))) | exact .tail _ (.tail _ (.tail _ (.tail _ (.tail _ (.tail _ (.tail _ (.tail _ (.head _))))))))) hoM ?_
        repeat boot_fact
        refine chain_link ?_
        repeat boot_fact
        refine PyProof.Rows.le_int ?_
        rw [decide_eq_true (by omega)]
        repeat boot_fact
        refine chain_last ?_
        repeat boot_fact
        refine PyProof.Rows.mul_int ?_
        repeat boot_fact
        refine PyProof.Rows.le_int ?_
        rw [decide_eq_true (by omega)]
        repeat boot_fact
        dsimp only
        refine ⟨.inl ⟨_, .bool true, [], rfl, ?e1, ?e2, ?e3, ?e4⟩, ?e5, rfl, hgens⟩
        case e1 => intro _; rfl
        case e2 => exact .bool true
        case e3 => exact post_true _
        case e4 => exact fun _ => ⟨.nil, fun _ h => nomatch h⟩
        case e5 => exact F19.keep)
end

end
end Mine
theorem PySem.Challenge.cw_br0037_02_holds : PySem.Challenge.rw_br0037_02.Holds :=
  Mine.law02
