import PyProof.Rows.All
import Wide.All
import OpenK.AllK
import Wide.FinOn
import PySem.Challenge.RW_qw0043_01
open PySem PySem.W PySem.Calls PyProof.Rows
set_option Elab.async false
namespace Mine
set_option maxRecDepth 100000 in
set_option maxHeartbeats 8000000 in
open_top hd for PySem.Challenge.rw_qw0043_01
end Mine
namespace Mine
set_option maxRecDepth 100000

section
variable {prog : Program} {w : World} {A : Around} {E : Value → Shared → Prop} {s : Shared}
theorem sub_str : isSubtype (.type "str") (.type "str") = pure true := by first | rfl | decide +kernel | kernel_rfl
theorem meta_str : typeOf (.type "str") = pure (.type "type") := by first | rfl | kernel_rfl

theorem issub_nested {dep : Int} {tk : Tok} {Q : Fin → Shared → Prop} (hq : Q (.done (.ret (.bool true))) s) :
    wpAny (model prog w) A (Builtin.«issubclass.nested» ⟨[.type "str", .type "str", .int dep tk], []⟩) Q E s := by
  have hm := meta_str
  have hself := sub_str
  repeat (any_goals (first | assumption | (rw [hself]) | wp_step))

theorem kind_nested : builtinKind "issubclass.nested" = none := by decide +kernel
theorem plain_nested : plainId "issubclass.nested" = true := by decide +kernel
theorem args_nested (a b c : Value) : argsOk "issubclass.nested" ⟨[a, b, c], []⟩ := by unfold argsOk; kernel_rfl
theorem issub_meets {dep : Int} {tk : Tok} : Meets (Builtin.«issubclass.nested» ⟨[.type "str", .type "str", .int dep tk], []⟩) (fun _ R s => R (.ok (.ret (.bool true))) s) :=
  fun _ _ _ _ _ hs => issub_nested hs
theorem call_nested {dep : Int} {Q : Value → Shared → Prop} (h : Q (.bool true) s) : wpAny (model prog w) A (call (.builtin "issubclass.nested") [.type "str", .type "str", rawInt dep]) Q E s :=
  call_function_meets kind_nested plain_nested PySem.F.entry_issubclass_nested (args_nested _ _ _) issub_meets h

theorem issub_tuple {tp : Addr} {dd : Option Addr} {n : Nat} {sl : Array (Option Value)} {tk : Tok} :
    Meets (Builtin.«issubclass.nested» ⟨[.type "str", .ref tp, .int 0 tk], []⟩)
      (fun _ R s => s.heap.get? tp = some ⟨.type "tuple", dd, .seq #[Value.type "str", Value.type "bytes"] n, sl⟩ ∧ R (.ok (.ret (.bool true))) s) := by
  intro prog w A R s hs
  obtain ⟨h, g, d, tt, os⟩ := s
  obtain ⟨htp, hq⟩ := hs
  have hT2 : (⟨h, g, d, tt, os⟩ : Shared).TypeIs (.ref tp) "tuple" := ⟨_, htp, rfl⟩
  have f1 := PySem.F.isi_sub_tuple
  unfold Builtin.«issubclass.nested»
  repeat (any_goals (first | assumption | refine call_nested ?_ | wp_step))

theorem call_issub {tp : Addr} {dd : Option Addr} {n : Nat} {sl : Array (Option Value)} {Q : Value → Shared → Prop} (ht : s.heap.get? tp = some ⟨.type "tuple", dd, .seq #[Value.type "str", Value.type "bytes"] n, sl⟩) (h : Q (.bool true) s) :
    wpAny (model prog w) A (call (.builtin "issubclass") [.type "str", .ref tp]) Q E s :=
  call_issubclass (S := fun _ R s => s.heap.get? tp = some ⟨.type "tuple", dd, .seq #[Value.type "str", Value.type "bytes"] n, sl⟩ ∧ R (.ok (.ret (.bool true))) s)
    (fun prog w A R s hs => issubclass_outer (issub_tuple prog w A R s hs)) ⟨ht, h⟩
end
end Mine
namespace Mine
set_option maxRecDepth 100000

noncomputable abbrev prg : Program := PySem.Challenge.rw_qw0043_01.row.prog
noncomputable abbrev vw : Program := Mine.hd.view_39
noncomputable abbrev lo : List Str := looseW Mine.hd.view_39 [Str.ofString "_filemode_table"]

/-- a goal at which the walk rests -/
structure Hold (P : Prop) : Prop where
  out : P
/-- the end of a called def, where the walk rests -/
structure EndM (R : Result → Shared → Prop) (v : Value) (s' : Shared) : Prop where
  out : R (.ok (.ret v)) s'

abbrev Keeps (h h' : Heap) : Prop := ∀ b o, h.get? b = some o → h'.get? b = some o

theorem fr_keeps {h₀ h h' : Heap} {L : Addr} {m : Str → Option Value} (F : Fr h₀ L h m) (k : Keeps h h') : Fr h₀ L h' m :=
  ⟨F.ns.keeps k, fun b o e => k b o (F.keep b o e), F.above⟩
theorem news_keeps {h₀ h h' : Heap} {L : Addr} {news : List (Addr × Obj)} (N : News h₀ L h news) (k : Keeps h h') : News h₀ L h' news :=
  fun p hp => ⟨k _ _ (N p hp).1, (N p hp).2⟩

theorem news_cons {h₀ h h' : Heap} {L D : Addr} {m : Str → Option Value} {o : Obj} {news : List (Addr × Obj)} (F : Fr h₀ L h m) (N : News h₀ L h news) (k : Keeps h h') (hD : h'.get? D = some o) (hn : h.get? D = none) : News h₀ L h' ((D, o) :: news) := by
  intro p hp
  rcases List.mem_cons.mp hp with rfl | hp
  · refine ⟨hD, fun e => ?_, ?_⟩
    · obtain ⟨oL, _, _, hL, _⟩ := F.ns
      have e' : D = L := e
      rw [e', hL] at hn; cases hn
    · cases q : h₀.get? D with
      | none => rfl
      | some o' => rw [F.keep _ _ q] at hn; cases hn
  · exact news_keeps N k p hp

section
variable {prog : Program} {w : World} {A A₀ : Around} {s : Shared} {K : Frag} {L : Addr} {h₀ base : Heap} {m mg mb : Str → Option Value} {p : Program} {loose : List Str} {mean : ExcName → Option Value}
theorem enterM {env : Env} {outer : List Env} {R : Result → Shared → Prop} {name qual : Str} {params : Arguments} {body : List Stmt} {scope : Scope} {dV kV doc pm cdv ct oc : Value} {an od : Option Addr} {osl : Array (Option Value)} {f : Addr} {args : Args} {binds : List (Str × Value)}
    (B : Below A₀ base outer h₀) (F : Fr h₀ L s.heap m) (X₀ : K.In h₀) (T : Top p loose mean mg mb h₀) (hA : A.frames = some (env :: outer)) (hf : env.frame = some L) (hke : env.scope.kind = .function)
    (ho : K.lookup f = some ⟨oc, od, .func (fnOf name qual params body scope dV kV doc pm an cdv ct), osl⟩) (hcd : codeIn K cdv qual = true) (hroom : A.depth < recursionLimit)
    (hbind : BindsTo s (fnOf name qual params body scope dV kV doc pm an cdv ct) args binds) (hloc : ∀ y ∈ binds, scope.names.lookup y.1 = some .local)
    (h : ∀ L' h₁, Fr s.heap L' h₁ (fun y => binds.reverse.lookup y) → News s.heap L' h₁ [] → Below A base (env :: outer) s.heap → K.In s.heap → Top p loose mean mg mb s.heap →
      wpAny (model prog w) (A.deeper (envOf qual scope L' f cdv)) (execs body (envOf qual scope L' f cdv))
        (fun fl s' => EndM R (match fl with | .ret v => v | _ => .none) s')
        (fun e s' => wpAny (model prog w) (A.deeper (envOf qual scope L' f cdv)) (leaving (envOf qual scope L' f cdv) e) (fun _ s'' => R (.error e) s'') (fun e' s'' => R (.error e') s'') s')
        { s with heap := h₁, toks := s.toks + binds.length })
    (hco : scope.isCoroutine = false) (hgen : scope.isGenerator = false) (hk : scope.kind = .function)
    (hcell : ∀ x ∈ scope.names, x.2 ≠ .cell) : codeAny (model prog w) A (.call (.ref f) args) R s := by
  have X := X₀.keeps F.keep
  have T' := T.keeps F.keep
  have B₁ := pushX B F hf hke
  refine codeAny_call_def (fd := fnOf name qual params body scope dV kV doc pm an cdv ct) (body := body) (binds := binds) hroom (X _ _ ho) rfl T'.nolimit (codeRec_of X hcd) rfl hbind hcell hloc (fun h₁ hns hk₁ => ?_) hco hgen hk
  exact wpAny_mono (h s.heap.objs.size h₁ ⟨hns, hk₁, Nat.le_refl _⟩ News.nil ⟨hA, B₁.stays, B₁.frames⟩ X T') (fun _ _ z => z.out) fun _ _ z => z
end

theorem peek1_push {α : Type} {K : Frag} {M : Model} {A : Around} {E : Value → Shared → Prop} {Q : α → Shared → Prop} {s : Shared} {o : Obj} {r : Addr → α}
    (X : K.In s.heap) (q : Q (r s.heap.objs.size) { s with heap := s.heap.push o }) :
    ∀ (t : Sem α) (g : Addr → Option α), peek1 K ⟨M.prog, M.w.params⟩ t = some (o, g) → (∀ D, g D = some (r D)) → wpAny M A t Q E s := by
  intro t
  induction t with
  | rule _ k ih => intro g e hg Γ p hΓ; exact ih () g e hg Γ p hΓ
  | point _ k ih => intro g e hg Γ p hΓ; exact ih () g e hg Γ p hΓ
  | ask k ih => intro g e hg Γ p hΓ; exact ih _ g e hg Γ p hΓ
  | load a _ k ih =>
    intro g e hg Γ p hΓ
    simp only [peek1] at e
    split at e
    · rename_i ob ho; exact ⟨ob, X _ _ ho, ih ob g e hg Γ p hΓ⟩
    · cases e
  | alloc ob k _ =>
    intro g e hg
    have e : some (ob, fun D => peek K ⟨M.prog, M.w.params⟩ (k D)) = some (o, g) := e
    obtain ⟨e1, e2⟩ := Prod.mk.inj (Option.some.inj e)
    subst e1
    subst e2
    have X' : K.In (s.heap.push ob) := X.keeps fun b x hb => Heap.get?_push_of_some _ hb
    show wpAny M A (alloc ob >>= k) Q E s
    refine wpAny_bind (wpAny_alloc ?_)
    exact (Looks.of_peek (M := M) (h := s.heap.push ob) X' (hg s.heap.objs.size)).here (s := { s with heap := s.heap.push ob }) q
  | _ => intro g e; cases e

section
variable {prog : Program} {w : World} {A A₀ : Around} {s : Shared} {K : Frag} {L : Addr} {h₀ base : Heap} {m mg mb : Str → Option Value} {p : Program} {loose : List Str} {mean : ExcName → Option Value}
theorem enterR {env : Env} {outer : List Env} {R : Result → Shared → Prop} {name qual : Str} {params : Arguments} {body : List Stmt} {scope : Scope} {dV kV doc pm cdv ct oc : Value} {an od : Option Addr} {osl : Array (Option Value)} {f : Addr} {args : Args} {vs : List Value} {g₁ : Addr → Option (List (Str × Value))} {binds : Addr → List (Str × Value)}
    (B : Below A₀ base outer h₀) (F : Fr h₀ L s.heap m) (X₀ : K.In h₀) (T : Top p loose mean mg mb h₀) (hA : A.frames = some (env :: outer)) (hf : env.frame = some L) (hke : env.scope.kind = .function)
    (ho : K.lookup f = some ⟨oc, od, .func (fnOf name qual params body scope dV kV doc pm an cdv ct), osl⟩) (hcd : codeIn K cdv qual = true) (hroom : A.depth < recursionLimit)
    (hv : args.pos.drop (params.posonlyargs.length + params.args.length) = vs)
    (hp : peek1 K ⟨prog, w.params⟩ (bindArgs (fnOf name qual params body scope dV kV doc pm an cdv ct) args) = some (({ cls := .type "tuple", data := .seq vs.toArray } : Obj), g₁))
    (hg : ∀ D, g₁ D = some (binds D)) (hloc : ∀ D, ∀ y ∈ binds D, scope.names.lookup y.1 = some .local)
    (h : ∀ D L' h₁, Fr s.heap L' h₁ (fun y => (binds D).reverse.lookup y) → News s.heap L' h₁ [(D, ({ cls := .type "tuple", data := .seq vs.toArray } : Obj))] → Below A base (env :: outer) s.heap → K.In s.heap → Top p loose mean mg mb s.heap →
      wpAny (model prog w) (A.deeper (envOf qual scope L' f cdv)) (execs body (envOf qual scope L' f cdv))
        (fun fl s' => EndM R (match fl with | .ret v => v | _ => .none) s')
        (fun e s' => wpAny (model prog w) (A.deeper (envOf qual scope L' f cdv)) (leaving (envOf qual scope L' f cdv) e) (fun _ s'' => R (.error e) s'') (fun e' s'' => R (.error e') s'') s')
        { s with heap := h₁, toks := s.toks + (binds D).length })
    (hco : scope.isCoroutine = false) (hgen : scope.isGenerator = false) (hk : scope.kind = .function)
    (hcell : ∀ x ∈ scope.names, x.2 ≠ .cell) : codeAny (model prog w) A (.call (.ref f) args) R s := by
  have _ := hv
  have X := X₀.keeps F.keep
  have T' := T.keeps F.keep
  have B₁ := pushX B F hf hke
  refine codeAny_call_function (fd := fnOf name qual params body scope dV kV doc pm an cdv ct) (body := body) hroom (X _ _ ho) rfl hco hgen rfl (codeRec_of X hcd) ?_
  refine peek1_push (o := ({ cls := .type "tuple", data := .seq vs.toArray } : Obj)) X (r := binds) ?_ _ g₁ hp hg
  refine wpAny_newFunctionEnv hcell (hloc _) (fun h₁ hns hsb => ⟨(T'.nolimit.keeps fun b o e => Heap.get?_push_of_some _ e).fresh _ hsb, codeAny_func ?_⟩) hk
  have hk₁ : ∀ b o, (s.heap.push ({ cls := .type "tuple", data := .seq vs.toArray } : Obj)).get? b = some o → h₁.get? b = some o := fun b o e => hsb.extBut b o (Nat.ne_of_lt (Heap.lt_size e)) (Heap.get?_push_of_some _ e)
  have hD := Heap.get?_push_size s.heap (o := ({ cls := .type "tuple", data := .seq vs.toArray } : Obj)) rfl
  refine wpAny_mono (h s.heap.objs.size _ h₁ ⟨hns, fun b o e => hk₁ b o (Heap.get?_push_of_some _ e), ?_⟩ (fun p hp => ?_) ⟨hA, B₁.stays, B₁.frames⟩ X T') (fun _ _ z => z.out) fun _ _ z => z
  · rw [Heap.size_push]; exact Nat.le_succ _
  · obtain rfl := List.mem_singleton.mp hp
    refine ⟨hk₁ _ _ hD, Nat.ne_of_lt (Heap.lt_size hD), ?_⟩
    cases hq : s.heap.get? s.heap.objs.size with
    | none => rfl
    | some o' => exact absurd (Heap.lt_size hq) (Nat.lt_irrefl _)
end

/-- what a call of the def at f with vs brings, whoever calls: Z of the caller's wish -/
def Ctr (w : World) (mean : ExcName → Option Value) (mg mb : Str → Option Value) (f : Addr) (vs : List Value) (dd uu : Nat) (Z : (Value → Shared → Prop) → Shared → Prop) : Prop :=
  ∀ (dp un : Nat) (gd : Option (List Code)) (cn : Str) (cs : Scope) (a : Addr) (ccd : Value) (cl : List (Str × Addr)) (outer : List Env) (A₀ : Around) (base h₀ : Heap) (L : Addr) (m : Str → Option Value) (s : Shared) (Q E : Value → Shared → Prop),
    Below A₀ base outer h₀ → Fr h₀ L s.heap m → (Mine.hd.heap_39 w.params).In h₀ → Top vw lo mean mg mb h₀ → cs.kind = .function → dp + dd < recursionLimit → un + uu < cLine → Z Q s →
      wpAny (model prg w) (ktrTop dp un gd cn cs L a ccd cl outer) (call (.ref f) vs) Q E s

def RetStr (x : Str) (Q : Value → Shared → Prop) (s : Shared) : Prop := ∀ (t : Tok) (h' : Heap) (tk' : Nat), Keeps s.heap h' → Q (.str x t) { s with heap := h', toks := tk' }
def RetInt (x : Int) (Q : Value → Shared → Prop) (s : Shared) : Prop := ∀ (t : Tok) (h' : Heap) (tk' : Nat), Keeps s.heap h' → Q (.int x t) { s with heap := h', toks := tk' }

/-- what is left at a def's end: the value is the one that the contract names -/
structure EqM {α : Type} (y x : α) : Prop where
  eq : y = x
theorem end_str {x y : Str} {Q : Value → Shared → Prop} {s : Shared} {t : Tok} {h' : Heap} {tk' : Nat} {L : Addr} {m : Str → Option Value} (Z : RetStr x Q s) (F : Fr s.heap L h' m) (e : EqM y x) : Q (.str y t) { s with heap := h', toks := tk' } := by
  cases e with | mk e => subst e; exact Z t h' tk' F.keep
theorem end_int {x y : Int} {Q : Value → Shared → Prop} {s : Shared} {t : Tok} {h' : Heap} {tk' : Nat} {L : Addr} {m : Str → Option Value} (Z : RetInt x Q s) (F : Fr s.heap L h' m) (e : EqM y x) : Q (.int y t) { s with heap := h', toks := tk' } := by
  cases e with | mk e => subst e; exact Z t h' tk' F.keep
noncomputable abbrev tup3 (x y z : Str) (t1 t2 t3 : Tok) (n : Nat) : Obj := { cls := .type "tuple", data := .seq #[.str x t1, .str y t2, .str z t3] n }
def RetTup3 (x y z : Str) (Q : Value → Shared → Prop) (s : Shared) : Prop := ∀ (D : Addr) (t1 t2 t3 : Tok) (n : Nat) (h' : Heap) (tk' : Nat), Keeps s.heap h' → h'.get? D = some (tup3 x y z t1 t2 t3 n) → s.heap.get? D = none → Q (.ref D) { s with heap := h', toks := tk' }
theorem end_tup3 {x y z x' y' z' : Str} {Q : Value → Shared → Prop} {s : Shared} {D : Addr} {t1 t2 t3 : Tok} {n : Nat} {h' : Heap} {tk' : Nat} {L : Addr} {m : Str → Option Value} {news : List (Addr × Obj)} (Z : RetTup3 x y z Q s) (F : Fr s.heap L h' m) (N : News s.heap L h' news)
    (hm : (D, tup3 x' y' z' t1 t2 t3 n) ∈ news) (e1 : EqM (x', y', z') (x, y, z)) : Q (.ref D) { s with heap := h', toks := tk' } := by
  cases e1 with | mk e =>
  cases e
  exact Z D t1 t2 t3 n h' tk' F.keep (N _ hm).1 (N _ hm).2.2

noncomputable abbrev tup2 (x : Str) (b : Bool) (t1 : Tok) (n : Nat) : Obj := { cls := .type "tuple", data := .seq #[.str x t1, .bool b] n }
def RetTup2 (x : Str) (b : Bool) (Q : Value → Shared → Prop) (s : Shared) : Prop := ∀ (D : Addr) (t1 : Tok) (n : Nat) (h' : Heap) (tk' : Nat), Keeps s.heap h' → h'.get? D = some (tup2 x b t1 n) → s.heap.get? D = none → Q (.ref D) { s with heap := h', toks := tk' }
theorem end_tup2 {x x' : Str} {b b' : Bool} {Q : Value → Shared → Prop} {s : Shared} {D : Addr} {t1 : Tok} {n : Nat} {h' : Heap} {tk' : Nat} {L : Addr} {m : Str → Option Value} {news : List (Addr × Obj)} (Z : RetTup2 x b Q s) (F : Fr s.heap L h' m) (N : News s.heap L h' news)
    (hm : (D, tup2 x' b' t1 n) ∈ news) (e1 : EqM (x', b') (x, b)) : Q (.ref D) { s with heap := h', toks := tk' } := by
  cases e1 with | mk e =>
  cases e
  exact Z D t1 n h' tk' F.keep (N _ hm).1 (N _ hm).2.2

/-- what a contract brings to a caller: by the caller's heap, frame and list of new objects -/
abbrev Wish := Heap → Addr → (Str → Option Value) → List (Addr × Obj) → (Value → Shared → Prop) → Shared → Prop
def Con (w : World) (mean : ExcName → Option Value) (mg mb : Str → Option Value) (f : Addr) (vs : List Value) (dd uu : Nat) (W : Wish) : Prop :=
  ∃ Z, Ctr w mean mg mb f vs dd uu Z ∧ ∀ h₀ L m news Q s, Fr h₀ L s.heap m → News h₀ L s.heap news → W h₀ L m news Q s → Z Q s
noncomputable def AllNe (d : Nat) : List (Addr × Obj) → Prop
  | [] => True
  | p :: r => @Ne Nat p.1 d ∧ AllNe d r
theorem allNe_of {d : Addr} {h : Heap} (hd : h.get? d = none) : ∀ {l : List (Addr × Obj)}, (∀ p ∈ l, h.get? p.1 = some p.2) → AllNe d l
  | [], _ => trivial
  | p :: _, k => ⟨fun e => (by have := k p (.head _); rw [e, hd] at this; cases this), allNe_of hd fun q hq => k q (.tail _ hq)⟩

section
variable {w : World} {mean : ExcName → Option Value} {mg mb : Str → Option Value} {f : Addr} {vs : List Value} {dd uu : Nat} {dp un : Nat} {gd : Option (List Code)} {cn : Str} {cs : Scope} {a : Addr} {ccd : Value} {cl : List (Str × Addr)} {outer : List Env} {A₀ : Around} {base h₀ : Heap} {L : Addr} {m : Str → Option Value} {s : Shared} {Q E : Value → Shared → Prop} {news : List (Addr × Obj)}
theorem con_str {x : Str} (C : Ctr w mean mg mb f vs dd uu (RetStr x)) : Con w mean mg mb f vs dd uu fun h₀ L m news Q s => ∀ (t : Tok) (h' : Heap) (tk' : Nat), Fr h₀ L h' m → News h₀ L h' news → Q (.str x t) { s with heap := h', toks := tk' } :=
  ⟨_, C, fun _ _ _ _ _ _ F N h t h' tk' k => h t h' tk' (fr_keeps F k) (news_keeps N k)⟩
theorem con_int {x : Int} (C : Ctr w mean mg mb f vs dd uu (RetInt x)) : Con w mean mg mb f vs dd uu fun h₀ L m news Q s => ∀ (t : Tok) (h' : Heap) (tk' : Nat), Fr h₀ L h' m → News h₀ L h' news → Q (.int x t) { s with heap := h', toks := tk' } :=
  ⟨_, C, fun _ _ _ _ _ _ F N h t h' tk' k => h t h' tk' (fr_keeps F k) (news_keeps N k)⟩
theorem con_tup3 {x y z : Str} (C : Ctr w mean mg mb f vs dd uu (RetTup3 x y z)) : Con w mean mg mb f vs dd uu fun h₀ L m news Q s => ∀ (D : Addr) (t1 t2 t3 : Tok) (n : Nat) (h' : Heap) (tk' : Nat), AllNe D news → Fr h₀ L h' m → News h₀ L h' ((D, tup3 x y z t1 t2 t3 n) :: news) → Q (.ref D) { s with heap := h', toks := tk' } :=
  ⟨_, C, fun _ _ _ _ _ _ F N h D t1 t2 t3 n h' tk' k hD hn => h D t1 t2 t3 n h' tk' (allNe_of hn fun p hp => (N p hp).1) (fr_keeps F k) (news_cons F N k hD hn)⟩
theorem con_tup2 {x : Str} {b : Bool} (C : Ctr w mean mg mb f vs dd uu (RetTup2 x b)) : Con w mean mg mb f vs dd uu fun h₀ L m news Q s => ∀ (D : Addr) (t1 : Tok) (n : Nat) (h' : Heap) (tk' : Nat), AllNe D news → Fr h₀ L h' m → News h₀ L h' ((D, tup2 x b t1 n) :: news) → Q (.ref D) { s with heap := h', toks := tk' } :=
  ⟨_, C, fun _ _ _ _ _ _ F N h D t1 n h' tk' k hD hn => h D t1 n h' tk' (allNe_of hn fun p hp => (N p hp).1) (fr_keeps F k) (news_cons F N k hD hn)⟩
theorem use_any {W : Wish} (B : Below A₀ base outer h₀) (F : Fr h₀ L s.heap m) (X : (Mine.hd.heap_39 w.params).In h₀) (N : News h₀ L s.heap news) (T : Top vw lo mean mg mb h₀) (hk : cs.kind = .function) (C : Con w mean mg mb f vs dd uu W) (hd : dp + dd < recursionLimit) (hu : un + uu < cLine)
    (h : W h₀ L m news Q s) : wpAny (model prg w) (ktrTop dp un gd cn cs L a ccd cl outer) (call (.ref f) vs) Q E s :=
  let ⟨_, c, k⟩ := C
  c _ _ _ _ _ _ _ _ _ _ _ _ _ _ _ _ _ B F X T hk hd hu (k _ _ _ _ _ _ F N h)
end
end Mine
open Mine
local macro_rules | `(tactic| walk_at "mine enter") => `(tactic| (refine wpAny_call ?_; k_dflt (refine' enterM (by k_asm) (by k_asm) (by k_asm) (by k_asm) (by exact rfl) (by exact rfl) (by assumption) (by k_is) (by k_is) (by ktr_room) (by exact BindsTo.of_eq rfl) (by exact locs rfl) ?_ (by exact rfl) (by exact rfl) (by exact rfl) (by decide); k_whole; intros; (try dsimp only); (try k_fold))))
local macro_rules | `(tactic| walk_at "call builtin:issubclass") => `(tactic| k_dflt (refine' call_issub (by exact News.get (by k_asm) (by k_mem)) ?_; k_whole))
local macro_rules | `(tactic| walk_at "EndM") => `(tactic| (refine EndM.mk ?_; (try dsimp only); first | refine' end_str (by assumption) (by assumption) ?_ | refine' end_int (by assumption) (by assumption) ?_ | refine' end_tup3 (by assumption) (by assumption) (by assumption) (by first | k_mem | k_memK) ?_ | refine' end_tup2 (by assumption) (by assumption) (by assumption) (by first | k_mem | k_memK) ?_))
local macro_rules | `(tactic| walk_at "mine enter rest") => `(tactic| (refine wpAny_call ?_; k_dflt (refine' enterR (by k_asm) (by k_asm) (by k_asm) (by k_asm) (by exact rfl) (by exact rfl) (by assumption) (by k_is) (by k_is) (by ktr_room) (by kl_lit) (by exact rfl) (by exact fun _ => rfl) (by exact fun _ => locs rfl) ?_ (by exact rfl) (by exact rfl) (by exact rfl) (by decide); k_whole; intros; (try dsimp only); (try k_fold))))
local macro_rules | `(tactic| walk_at "truthy str") => `(tactic| (refine' KXt.truthy_pos (K := 4096) (by assumption) (by assumption) (Nat.le_of_ble_eq_true rfl) ?_; intros))
local macro_rules | `(tactic| walk_at "call ref") => `(tactic| (k_dflt (refine' use_any (by k_asm) (by k_asm) (by k_asm) (by k_asm) (by k_asm) (by first | exact rfl | assumption) (by walk_at "mine con") (by ktr_room) (by ktr_units) ?_; k_whole); intros; (try (rename AllNe _ _ => l9; simp only [AllNe, and_true] at l9)); (try k_sweep); (try dsimp only); (try k_fold)))
namespace Mine
set_option maxRecDepth 100000
theorem fillK03 (w : World) : PySem.Challenge.rw_qw0043_01 = PySem.Challenge.rw_qw0043_01 ∧ Mine.hd.heap_39 w.params = Mine.hd.heap_39 w.params := by
  k_fill
  exact ⟨rfl, rfl⟩
set_option maxHeartbeats 8000000 in
theorem c_fspath (w : World) (mean : ExcName → Option Value) (mg mb : Str → Option Value) (x : Str) (t : Tok) : Ctr w mean mg mb 94 [.str x t] 1 8 (RetStr x) := by
  intro dp un gd cn cs a ccd cl outer A₀ base h₀ L m s Q E B F X T hk hd hu Z
  w_top off
  walk_at "mine enter"
  k_steps
  exact ⟨rfl⟩
set_option maxHeartbeats 8000000 in
theorem c_get_sep (w : World) (mean : ExcName → Option Value) (mg mb : Str → Option Value) (x : Str) (t : Tok) : Ctr w mean mg mb 108 [.str x t] 1 8 (RetStr (Str.ofString "/")) := by
  intro dp un gd cn cs a ccd cl outer A₀ base h₀ L m s Q E B F X T hk hd hu Z
  w_top off
  walk_at "mine enter"
  k_steps
  exact ⟨rfl⟩
end Mine
local macro_rules | `(tactic| walk_at "mine con") => `(tactic| exact con_str (c_fspath _ _ _ _ _ _))
local macro_rules | `(tactic| walk_at "mine con") => `(tactic| exact con_str (c_get_sep _ _ _ _ _ _))
namespace Mine
set_option maxRecDepth 100000
noncomputable def joinF (x y : Str) : Str := if Txt.endswith x (Str.ofString "/") = true then x ++ y else x ++ (Str.ofString "/" ++ y)
set_option maxHeartbeats 8000000 in
theorem c_join (w : World) (mean : ExcName → Option Value) (mg mb : Str → Option Value) (x y : Str) (t u : Tok) (hx : 1 ≤ x.length) (hX : x.length ≤ 4096) (hY : y.length ≤ 4096) (hy : Txt.startswith y (Str.ofString "/") = false) :
    Ctr w mean mg mb 115 [.str x t, .str y u] 2 16 (RetStr (joinF x y)) := by
  intro dp un gd cn cs a ccd cl outer A₀ base h₀ L m s Q E B F X T hk hd hu Z
  w_top off
  walk_at "mine enter rest"
  k_steps
  all_goals first | exact ⟨(if_pos (by assumption)).symm⟩ | exact ⟨(if_neg (Bool.not_eq_true_eq_eq_false.mpr (by assumption))).symm⟩ | exact ⟨(if_neg (ne_true_of_eq_false (by assumption))).symm⟩
end Mine
local macro_rules | `(tactic| walk_at "pad 05") => `(tactic| skip)
namespace Mine
set_option maxRecDepth 100000
/-- a text by its signs' numbers -/
noncomputable abbrev S (l : List Nat) : Str := ⟨l.toArray⟩
theorem S_len (l : List Nat) : (S l).length = l.length := by simp [Str.length]
theorem S_slice (l : List Nat) {a b : Nat} (hab : a ≤ b) (hb : b ≤ l.length) : Txt.slice (S l) (some (a : Int)) (some (b : Int)) = S ((l.drop a).take (b - a)) := by
  have := StrLaws.sliceText_nat (S l) hab (by rw [S_len]; exact hb)
  show StrLaws.sliceText (S l) _ _ = _
  simpa using this
theorem S_slice_to (l : List Nat) {b : Nat} (hb : b ≤ l.length) : Txt.slice (S l) none (some (b : Int)) = S (l.take b) := by
  have := StrLaws.sliceText_to (x := S l) (j := (b : Int)) ⟨by omega, by simpa using hb⟩
  show StrLaws.sliceText (S l) _ _ = _
  simpa using this
theorem S_slice_from (l : List Nat) {a : Nat} (ha : a ≤ l.length) : Txt.slice (S l) (some (a : Int)) none = S (l.drop a) := by
  have := StrLaws.sliceText_from (x := S l) (i := (a : Int)) ⟨by omega, by simpa using ha⟩
  have e : ((l.length : Int) - (a : Int)).toNat = l.length - a := by omega
  simp [e] at this
  rw [← List.length_drop, List.take_length] at this
  exact this
theorem ofS_slash : Str.ofString "/" = S [47] := by decide +kernel
theorem S_inj {l l' : List Nat} (h : S l = S l') : l = l' := by
  have := congrArg (fun x => x.cps.toList) h
  simpa using this
/-- the roots: / and // -/
def IsRoot (r : List Nat) : Prop := r = [47] ∨ r = [47, 47]
section
variable {r y : List Nat} {c : Nat} {x : Str}
theorem sr_one (hr : IsRoot r) (hx : S (r ++ c :: y) = x) : Txt.slice x none (some 1) = Str.ofString "/" := by
  subst hx
  rw [ofS_slash]
  rcases hr with rfl | rfl
  · exact S_slice_to _ (b := 1) (by simp)
  · exact S_slice_to _ (b := 1) (by simp)
theorem sr_two (hr : IsRoot r) (hc : c ≠ 47) (hx : S (r ++ c :: y) = x) : (r = [47] ∧ Txt.slice x (some 1) (some 2) = S [c] ∧ Txt.slice x (some 1) none = S (c :: y)) ∨
    (r = [47, 47] ∧ Txt.slice x (some 1) (some 2) = Str.ofString "/" ∧ Txt.slice x (some 2) (some 3) = S [c] ∧ Txt.slice x none (some 2) = S [47, 47] ∧ Txt.slice x (some 2) none = S (c :: y)) := by
  subst hx
  rw [ofS_slash]
  rcases hr with rfl | rfl
  · exact .inl ⟨rfl, S_slice _ (a := 1) (b := 2) (by omega) (by simp), S_slice_from _ (a := 1) (by simp)⟩
  · exact .inr ⟨rfl, S_slice _ (a := 1) (b := 2) (by omega) (by simp), S_slice _ (a := 2) (b := 3) (by omega) (by simp), S_slice_to _ (b := 2) (by simp), S_slice_from _ (a := 2) (by simp)⟩
theorem S_ne_slash (hc : c ≠ 47) : S [c] ≠ Str.ofString "/" := by
  rw [ofS_slash]
  intro e
  have := S_inj e
  simp at this
  exact hc this
theorem sr_e1 (hr : IsRoot r) (hx : S (r ++ c :: y) = x) (h : (Txt.slice x none (some 1) != Str.ofString "/") = true) : False := by
  rw [sr_one hr hx] at h
  simp at h
theorem sr_e2 (hr : IsRoot r) (hc : c ≠ 47) (hx : S (r ++ c :: y) = x) (h : (Txt.slice x (some 1) (some 2) != Str.ofString "/") = true) :
    (Str.ofString "", Str.ofString "/", Txt.slice x (some 1) none) = (Str.ofString "", S r, S (c :: y)) := by
  rcases sr_two hr hc hx with ⟨e, _, h3⟩ | ⟨_, h2, _⟩
  · rw [h3, e, ofS_slash]
  · rw [h2] at h; simp at h
theorem sr_e3 (hr : IsRoot r) (hc : c ≠ 47) (hx : S (r ++ c :: y) = x) (h : (Txt.slice x (some 1) (some 2) != Str.ofString "/") = false) (h' : (Txt.slice x (some 2) (some 3) == Str.ofString "/") = true) : False := by
  rcases sr_two hr hc hx with ⟨_, h2, _⟩ | ⟨_, _, h3, _⟩
  · rw [h2] at h; simp at h; exact S_ne_slash hc h
  · rw [h3] at h'; simp at h'; exact S_ne_slash hc h'
theorem sr_e4 (hr : IsRoot r) (hc : c ≠ 47) (hx : S (r ++ c :: y) = x) (h : (Txt.slice x (some 1) (some 2) != Str.ofString "/") = false) :
    (Str.ofString "", Txt.slice x none (some 2), Txt.slice x (some 2) none) = (Str.ofString "", S r, S (c :: y)) := by
  rcases sr_two hr hc hx with ⟨_, h2, _⟩ | ⟨e, _, _, h4, h5⟩
  · rw [h2] at h; simp at h; exact absurd h (S_ne_slash hc)
  · rw [h4, h5, e]
end
set_option maxHeartbeats 8000000 in
theorem c_splitroot (w : World) (mean : ExcName → Option Value) (mg mb : Str → Option Value) (r y : List Nat) (c : Nat) (x : Str) (t : Tok) (hx : S (r ++ c :: y) = x) (hr : IsRoot r) (hc : c ≠ 47) (hX : x.length ≤ 4096) :
    Ctr w mean mg mb 122 [.str x t] 2 16 (RetTup3 (Str.ofString "") (S r) (S (c :: y))) := by
  intro dp un gd cn cs a ccd cl outer A₀ base h₀ L m s Q E B F X T hk hd hu Z
  w_top off
  walk_at "mine enter"
  k_steps
  all_goals first | exact (sr_e1 hr hx (by assumption)).elim | exact ⟨sr_e2 hr hc hx (by assumption)⟩ | exact (sr_e3 hr hc hx (by assumption) (by assumption)).elim | exact ⟨sr_e4 hr hc hx (by assumption)⟩
theorem join_vals {prog : Program} {w : World} {A : Around} {E : Value → Shared → Prop} {s : Shared} {h₀ : Heap} {L D : Addr} {news : List (Addr × Obj)} {n : Nat} {c : List (Str × Tok)} {ys : List Str} {x : Str} {t : Tok} {Q : Value → Shared → Prop} (N : News h₀ L s.heap news) (hm : (D, PySem.W.listOf (strValues c).toArray n) ∈ news) (e : c.map (·.1) = ys)
    (hok : (ys.map (·.length)).sum + ys.length * x.length ≤ 16777216) (h : ∀ t' k, Q (.str (Txt.join x ys) t') { s with toks := k }) : wpAny (model prog w) A (call (.builtin "str.join") [.str x t, .ref D]) Q E s :=
  SC.join ⟨_, (N _ hm).1, rfl, n, rfl⟩ e (joinOk_of hok) h
end Mine
local macro_rules | `(tactic| walk_at "mine con") => `(tactic| exact con_tup3 (c_splitroot _ _ _ _ _ _ _ _ _ (by assumption) (by assumption) (by assumption) (by assumption)))
local macro_rules | `(tactic| walk_at "call builtin:str.split") => `(tactic| (k_dflt (refine' KSpl.split1 (by k_asm) (by k_asm) (by decide) ?_ (by rw [PySem.sizeLine_eq]; (try simp only [S_len, List.length_cons] at *); omega); k_whole); intro D9 l9 h9 k9 e9 a9 F9 N9 l1; (try k_lt l1); (try k_sweep)))
local macro_rules | `(tactic| walk_at "call builtin:str.join") => `(tactic| (k_dflt (refine' join_vals (by k_asm) (by k_mem) (by assumption) (by assumption) ?_; k_whole); intros))
local macro_rules | `(tactic| walk_at "mine for") => `(tactic| (k_here; (rename Fr _ _ _ _ => lF'); (with_unfolding_all refine' For_invVF lF' (by exact rfl) (by exact rfl) ?_; k_whole)))
local macro_rules | `(tactic| walk_at "InvEndN") => `(tactic| refine Hold.out ?_)
namespace Mine
set_option maxRecDepth 100000
section
variable {prog : Program} {w : World} {A : Around} {E : Value → Shared → Prop} {s : Shared} {env : Env} {h₀ : Heap} {x : Str} {body : List Stmt} {Q : Flow → Shared → Prop}

/-- what holds between the turns of normpath's loop: a is the list that is filled, l the list that is gone through -/
def JN (a l : Addr) (lo : Obj) (rest : List (Addr × Obj)) (x : Str) (m₀ : Str → Option Value) (P : List (Str × Tok) → Prop) (m : Str → Option Value) (nx : List (Addr × Obj)) : Prop :=
  ∃ (c : List (Str × Tok)) (n : Nat), nx = (a, PySem.W.listOf (strValues c).toArray n) :: (l, lo) :: rest ∧ (∀ z, z ≠ x → m z = m₀ z) ∧ P c

theorem map_off {m₀ m₁ : Str → Option Value} {v : Option Value} (h : ∀ z, z ≠ x → m₁ z = m₀ z) : (fun y => if y = x then v else m₁ y) = fun y => if y = x then v else m₀ y := by
  funext y
  by_cases e : y = x
  · rw [if_pos e, if_pos e]
  · rw [if_neg e, if_neg e]; exact h y e

theorem loopN {a l : Addr} {ps : List (Str × Tok)} {nn : Nat} {rest : List (Addr × Obj)} {m₀ : Str → Option Value} (P : List Str → List (Str × Tok) → Prop)
    (hh : A.handled = none) (F : Fr h₀ env.locals s.heap m₀) (N : News h₀ env.locals s.heap ((a, PySem.W.listOf #[] 0) :: (l, PySem.W.listOf (strValues ps).toArray nn) :: rest)) (hp : P [] [])
    (turn : ∀ c n pre z t post h tk own, ps.map (·.1) = pre ++ z :: post → OwnOff own (a :: l :: rest.map (·.1)) → P pre c → Fr h₀ env.locals h (fun y => if y = x then some (.str z t) else m₀ y) →
      News h₀ env.locals h ((a, PySem.W.listOf (strValues c).toArray n) :: (l, PySem.W.listOf (strValues ps).toArray nn) :: (rest ++ own)) →
      wpAny (model prog w) A (execs body env) (InvPostG h₀ env.locals (fun m' nx => (l, PySem.W.listOf (strValues ps).toArray nn) ∈ nx ∧ JN a l (PySem.W.listOf (strValues ps).toArray nn) rest x m₀ (P (pre ++ [z])) m' nx) own { s with heap := h, toks := tk } Q) E { s with heap := h, toks := tk })
    (done : ∀ c n u h tk, P (ps.map (·.1)) c → Fr h₀ env.locals h (fun y => if y = x then u else m₀ y) → News h₀ env.locals h ((a, PySem.W.listOf (strValues c).toArray n) :: (l, PySem.W.listOf (strValues ps).toArray nn) :: rest) → Q .next { s with heap := h, toks := tk }) :
    wpAny (model prog w) A (pyIter (.ref l)) (fun it s₂ => LoopAtV prog w A h₀ env x body Q E it s₂) E s := by
  refine kdl_iter (fun i m nx => JN a l (PySem.W.listOf (strValues ps).toArray nn) rest x m₀ (P ((ps.map (·.1)).take i)) m nx) hh (.tail _ (.head _)) F N ⟨[], 0, rfl, fun _ _ => rfl, hp⟩ ?_ ?_
  · rintro i v m₁ news₁ h tk own hv hoff _ ⟨c, n, rfl, hm, hP⟩ F₁ N₁
    have hlt : i < ps.length := by
      have := (List.getElem?_eq_some_iff.mp hv).1
      simpa [strValues] using this
    have hv' : v = .str ps[i].1 ps[i].2 := by
      simp [strValues, hlt] at hv
      exact hv.symm
    subst hv'
    have hz : (ps.map (·.1))[i]? = some ps[i].1 := by simp [hlt]
    have hs : (ps.map (·.1)).take (i + 1) = (ps.map (·.1)).take i ++ [ps[i].1] := by rw [List.take_add_one, hz]; rfl
    have e : ps.map (·.1) = (ps.map (·.1)).take i ++ ps[i].1 :: (ps.map (·.1)).drop (i + 1) := by
      have ht := List.take_append_drop (i + 1) (ps.map (·.1))
      rw [hs, List.append_assoc] at ht
      exact ht.symm
    rw [hs]
    rw [map_off hm] at F₁
    exact turn c n _ _ _ _ h tk own e hoff hP F₁ N₁
  · rintro m₁ news₁ h tk ⟨c, n, rfl, hm, hP⟩ F₁ N₁
    have hl : (strValues ps).length = (ps.map (·.1)).length := by simp [strValues]
    rw [hl, List.take_length] at hP
    refine done c n (m₁ x) h tk hP ?_ N₁
    have em : (fun y => if y = x then m₁ x else m₀ y) = m₁ := by
      funext y
      by_cases e : y = x
      · rw [if_pos e, e]
      · rw [if_neg e]; exact (hm y e).symm
    rw [em]; exact F₁
end

section
variable {prog : Program} {w : World} {A : Around} {E : Value → Shared → Prop} {s : Shared} {h₀ : Heap} {L D : Addr} {m : Str → Option Value} {news news' : List (Addr × Obj)} {n : Nat} {us : List Value} {y : Value}
theorem truthy_snoc {Q : Bool → Shared → Prop} (N : News h₀ L s.heap news) (hm : (D, PySem.W.listOf (us ++ [y]).toArray n) ∈ news) (hl : us.length ≤ 4096) (h : ∀ k, Q true { s with toks := k }) : wpAny (model prog w) A (truthy (.ref D)) Q E s :=
  wpAny_truthy_list ⟨_, (N _ hm).1, rfl, n, rfl⟩ (by simp; omega) (by
    have e : (!(us ++ [y]).toArray.isEmpty) = true := by simp
    rw [e]; exact h _)
theorem last_snoc {value slice : PySem.Expr} {u : Tok} {Q : Value → Shared → Prop} (N : News h₀ L s.heap news) (hm : (D, PySem.W.listOf (us ++ [y]).toArray n) ∈ news) (hl : us.length ≤ 4096) (h : Q y s)
    (hs : subscripted slice false (.ref D) (.int (-1) u) = operate [.ref D, .int (-1) u] (getItem (.ref D) (.int (-1) u))) : wpAny (model prog w) A (subscriptTail value slice (.ref D) (.int (-1) u)) Q E s := by
  have hL : s.heap.IsList D (us ++ [y]).toArray := ⟨_, (N _ hm).1, rfl, n, rfl⟩
  refine tail_any hL.typeIs slot_list_getitem.lookup (wpAny_getItem_list_neg hL (by decide) (by simp; omega) (by decide) ?_ h) hs
  have e : ((-1 : Int) + ((us ++ [y]).toArray.size : Int)).toNat = us.length := by simp; omega
  rw [e]; simp
theorem pop_snoc {Q : Value → Shared → Prop} (F : Fr h₀ L s.heap m) (N : News h₀ L s.heap news) (U : Upd D (PySem.W.listOf (us ++ [y]).toArray n) (PySem.W.listOf us.toArray (n + 1)) news news') (hl : us.length ≤ 4096)
    (h : ∀ h', Fr h₀ L h' m → News h₀ L h' news' → Q y { s with heap := h' }) : wpAny (model prog w) A (call (.builtin "list.pop") [.ref D]) Q E s :=
  kl_pop F N (p := us) (y := y) (by simpa using kpa_last y us) U (by rw [PySem.sizeLine_eq]; simp; omega) h
theorem append_any {x : Value} {Q : Value → Shared → Prop} (F : Fr h₀ L s.heap m) (N : News h₀ L s.heap news) (U : Upd D (PySem.W.listOf us.toArray n) (PySem.W.listOf (us ++ [x]).toArray (n + 1)) news news') (hl : us.length ≤ 4096)
    (h : ∀ h', Fr h₀ L h' m → News h₀ L h' news' → Q .none { s with heap := h' }) : wpAny (model prog w) A (call (.builtin "list.append") [.ref D, x]) Q E s :=
  append_K F N (by have e : us.toArray.push x = (us ++ [x]).toArray := by simp
                   rw [e]; exact U) h (by rw [PySem.sizeLine_eq]; simp; omega)
end

/-- one part of a path, by normpath, behind a root -/
noncomputable def stepS (acc : List Str) (z : Str) : List Str :=
  if z.length = 0 ∨ z = Str.ofString "." then acc else if z ≠ Str.ofString ".." then acc ++ [z] else if acc = [] then acc else if acc.getLast? = some (Str.ofString "..") then acc ++ [z] else acc.dropLast

theorem endN {h₀ : Heap} {L a l : Addr} {lo : Obj} {rest own : List (Addr × Obj)} {x : Str} {m₀ : Str → Option Value} {P : List (Str × Tok) → Prop} {s₁ : Shared} {h' : Heap} {tk : Nat} {vs : Array Value} {v : Option Value} {n : Nat} (c : List (Str × Tok))
    (F : Fr h₀ L h' (fun y => if y = x then v else m₀ y)) (N : News h₀ L h' ((a, PySem.W.listOf vs n) :: (l, lo) :: (rest ++ own))) (hv : vs = (strValues c).toArray) (hoff : OwnOff own (a :: l :: rest.map (·.1))) (hP : P c) :
    InvEndG h₀ L (fun m' nx => (l, lo) ∈ nx ∧ JN a l lo rest x m₀ P m' nx) own s₁ { s₁ with heap := h', toks := tk } := by
  subst hv
  refine InvEndG.intro F N ⟨.tail _ (.head _), c, n, rfl, fun z hz => if_neg hz, hP⟩ hoff (fun p hp => ?_) fun p hp => .tail _ (.tail _ (List.mem_append.mpr (.inr hp)))
  rcases List.mem_cons.mp hp with rfl | hp
  · exact .head _
  · rcases List.mem_cons.mp hp with rfl | hp
    · exact .tail _ (.head _)
    · exact .tail _ (.tail _ (List.mem_append.mpr (.inl hp)))

def PN (pre : List Str) (c : List (Str × Tok)) : Prop := c.map (·.1) = pre.foldl stepS [] ∧ c.length ≤ pre.length
section
variable {pre : List Str} {c : List (Str × Tok)} {z z' : Str} {t t' : Tok} {acc : List Str}
theorem PN_same (hP : PN pre c) (h : stepS (c.map (·.1)) z = c.map (·.1)) : PN (pre ++ [z]) c := by
  refine ⟨?_, ?_⟩
  · rw [List.foldl_append, List.foldl_cons, List.foldl_nil, ← hP.1, h]
  · have := hP.2; simp; omega
theorem PN_push (hP : PN pre c) (h : stepS (c.map (·.1)) z = c.map (·.1) ++ [z]) : PN (pre ++ [z]) (c ++ [(z, t)]) := by
  refine ⟨?_, ?_⟩
  · rw [List.foldl_append, List.foldl_cons, List.foldl_nil, ← hP.1, h]; simp
  · have := hP.2; simp; omega
theorem PN_pop (hP : PN pre (c ++ [(z', t')])) (h : stepS (c.map (·.1) ++ [z']) z = c.map (·.1)) : PN (pre ++ [z]) c := by
  refine ⟨?_, ?_⟩
  · rw [List.foldl_append, List.foldl_cons, List.foldl_nil, ← hP.1]; simp [h]
  · have := hP.2; simp at this ⊢; omega
theorem ss_empty : stepS acc (Str.ofString "") = acc := by
  unfold stepS; rw [if_pos (.inl (by decide +kernel))]
theorem ss_dot (h : (z == Str.ofString ".") = true) : stepS acc z = acc := by
  unfold stepS; rw [if_pos (.inr (by simpa using h))]
theorem ss_push (hz : 1 ≤ z.length) (h1 : (z == Str.ofString ".") = false) (h2 : (z != Str.ofString "..") = true) : stepS acc z = acc ++ [z] := by
  unfold stepS
  rw [if_neg, if_pos]
  · simpa using h2
  · rintro (h | h)
    · omega
    · rw [h] at h1; simp at h1
theorem ss_at (h2 : (z != Str.ofString "..") = false) : stepS acc z = if acc = [] then acc else if acc.getLast? = some (Str.ofString "..") then acc ++ [z] else acc.dropLast := by
  have e : z = Str.ofString ".." := by simpa using h2
  subst e
  unfold stepS
  rw [if_neg (by decide +kernel), if_neg (by simp)]
theorem ss_nil (h2 : (z != Str.ofString "..") = false) : stepS [] z = [] := by rw [ss_at h2]; simp
theorem ss_dd (h2 : (z != Str.ofString "..") = false) (h3 : (z' == Str.ofString "..") = true) : stepS (acc ++ [z']) z = acc ++ [z'] ++ [z] := by
  rw [ss_at h2, if_neg (by simp), if_pos (by simpa using h3)]
theorem ss_pop (h2 : (z != Str.ofString "..") = false) (h3 : (z' == Str.ofString "..") = false) : stepS (acc ++ [z']) z = acc := by
  rw [ss_at h2, if_neg (by simp), if_neg (by simpa using h3)]; simp
theorem str_empty {z : Str} (h : z.length = 0) : z = Str.ofString "" := by
  obtain ⟨l⟩ := z
  have h1 : l.size = 0 := h
  have : l = #[] := by simpa using h1
  subst this
  decide +kernel
end

local macro_rules | `(tactic| walk_at "truthy ref") => `(tactic| (k_dflt (refine' truthy_snoc (by k_asm) (by k_mem) (by first | assumption | (simp only [List.length_append, List.length_cons, List.length_nil]; omega)) ?_; k_whole); intros))
local macro_rules | `(tactic| walk_at "subscriptTail Name UnaryOp ref int") => `(tactic| k_dflt (refine' last_snoc (by k_asm) (by k_mem) (by assumption) ?_ (by with_unfolding_all rfl); k_whole))
local macro_rules | `(tactic| walk_at "call builtin:list.pop") => `(tactic| (k_dflt (refine' pop_snoc (by k_asm) (by k_asm) (by k_upd) (by assumption) ?_; k_whole); intros; (try k_sweep)))
local macro_rules | `(tactic| walk_at "call builtin:list.append") => `(tactic| (k_dflt (refine' append_any (by k_asm) (by k_asm) (by k_upd) (by first | assumption | (simp only [List.length_append, List.length_cons, List.length_nil]; omega)) ?_; k_whole); intros; (try k_sweep)))
set_option maxHeartbeats 8000000 in
theorem c_normpath (w : World) (mean : ExcName → Option Value) (mg mb : Str → Option Value) (r y : List Nat) (c : Nat) (x : Str) (t : Tok) (zs : List Str) (hx : S (r ++ c :: y) = x) (hr : IsRoot r) (hc : c ≠ 47) (hX : x.length ≤ 4096) (hX1 : 1 ≤ x.length) (hY : (S (c :: y)).length ≤ 4096)
    (hR1 : 1 ≤ (S r).length) (hR2 : (S r).length ≤ 4096) (hsp : Txt.split (S (c :: y)) (Str.ofString "/") = zs) (hlen : zs.length ≤ 4096) (hzs : ∀ z ∈ zs, z.length ≤ 4096)
    (ys : List Str) (hys : zs.foldl stepS [] = ys) (hJ : (ys.map (·.length)).sum + ys.length * (Str.ofString "/").length ≤ 16777216) (hJ2 : (Txt.join (Str.ofString "/") ys).length ≤ 4096) (hJ3 : (S r ++ Txt.join (Str.ofString "/") ys).length ≤ 4096) :
    Ctr w mean mg mb 129 [.str x t] 3 32 (RetStr (S r ++ Txt.join (Str.ofString "/") ys)) := by
  intro dp un gd cn cs a ccd cl outer A₀ base h₀ L m s Q E B F X T hk hd hu Z
  w_top off
  walk_at "mine enter"
  k_steps
  rename List.map _ _ = Txt.split _ _ => e9
  rw [hsp] at e9
  rename Fr _ _ _ _ => F9
  rename News _ _ _ _ => N9
  refine loopN PN rfl F9 N9 ⟨rfl, Nat.le_refl _⟩ ?_ ?_
  · intro c n pre z t post h tk own hz hoff hP F' N'
    rw [e9] at hz
    have hMk9 := kstMark
    (try clear F9 N9)
    dsimp only [List.map_cons, List.map_nil, List.cons_append, List.nil_append] at N' hoff
    by_cases hzl : z.length = 0
    · obtain rfl := str_empty hzl
      k_steps
      exact endN c (by assumption) (by assumption) rfl hoff (PN_same hP ss_empty)
    · have hz1 : 1 ≤ z.length := by omega
      have hz2 : z.length ≤ 4096 := hzs z (by rw [hz]; simp)
      rcases List.eq_nil_or_concat c with rfl | ⟨c', ⟨z', t'⟩, rfl⟩
      · k_steps
        · exact endN _ (by assumption) (by assumption) rfl hoff (PN_same hP (ss_dot (by assumption)))
        · exact endN _ (by assumption) (by assumption) (by simp [strValues]) hoff (PN_push (t := t) hP (ss_push hz1 (by assumption) (by assumption)))
        · exact endN _ (by assumption) (by assumption) rfl hoff (PN_same hP (ss_nil (by assumption)))
      · rw [List.concat_eq_append] at hP N'
        have ev : strValues (c' ++ [(z', t')]) = strValues c' ++ [.str z' t'] := by simp [strValues]
        rw [ev] at N'
        have hcl : (strValues c').length ≤ 4095 := by
          have h1 := hP.2
          have h2 : zs.length = pre.length + (post.length + 1) := by rw [hz]; simp
          simp [strValues] at h1 ⊢; omega
        have hcl' : (strValues c').length ≤ 4096 := by omega
        k_steps
        · exact endN (c' ++ [(z', t')]) (by assumption) (by assumption) (by rw [ev]) hoff (PN_same hP (ss_dot (by assumption)))
        · exact endN (c' ++ [(z', t')] ++ [(z, t)]) (by assumption) (by assumption) (by simp [strValues]) hoff (PN_push hP (ss_push hz1 (by assumption) (by assumption)))
        · exact endN (c' ++ [(z', t')] ++ [(z, t)]) (by assumption) (by assumption) (by simp [strValues]) hoff (PN_push hP (by simpa using ss_dd (acc := c'.map (·.1)) (by assumption) (by assumption)))
        · exact endN c' (by assumption) (by assumption) rfl hoff (PN_pop hP (ss_pop (by assumption) (by assumption)))
  · intro c n u h tk hP F' N'
    (try clear F9 N9)
    have hMk9 := kstMark
    have hcy : c.map (·.1) = ys := by rw [hP.1, e9, hys]
    have hJ1 : 1 ≤ (S r ++ Txt.join (Str.ofString "/") ys).length := by rw [Str.length_append]; omega
    k_steps
    exact ⟨rfl⟩
end Mine
namespace Mine
set_option maxRecDepth 100000
/-! the plain laws of paths: no program in sight -/

theorem S_append (l l' : List Nat) : S l ++ S l' = S (l ++ l') := by
  apply Str.ext'
  rw [Str.cps_append]
  simp
theorem S_toList (l : List Nat) : (S l).cps.toList = l := by simp
theorem ends_S (l : List Nat) (c d : Nat) : Txt.endswith (S (l ++ [c])) (S [d]) = (c == d) := by
  unfold Txt.endswith
  rw [StrLaws.subAt_eq, S_len, S_len, S_toList, S_toList]
  have e : (l ++ [c]).length - [d].length = l.length := by simp
  rw [e]
  have e2 : List.drop l.length (l ++ [c]) = [c] := by simp
  rw [e2]
  simp
theorem starts_S (l : List Nat) (c d : Nat) : Txt.startswith (S (c :: l)) (S [d]) = (c == d) := by
  unfold Txt.startswith
  rw [StrLaws.subAt_eq, S_len, S_len, S_toList, S_toList]
  simp

/-- parts glued by slashes -/
noncomputable def ic : List (List Nat) → List Nat
  | [] => []
  | [p] => p
  | p :: q :: r => p ++ 47 :: ic (q :: r)
theorem join_ic : ∀ ps : List (List Nat), Str.join (S [47]) (ps.map S) = S (ic ps)
  | [] => rfl
  | [p] => rfl
  | p :: q :: r => by
    have ih := join_ic (q :: r)
    show S p ++ S [47] ++ Str.join (S [47]) ((q :: r).map S) = S (p ++ 47 :: ic (q :: r))
    rw [ih, S_append, S_append]
    simp
/-- cut at the slashes -/
noncomputable def sp : List Nat → List (List Nat)
  | [] => [[]]
  | c :: l => if c = 47 then [] :: sp l else match sp l with
    | p :: r => (c :: p) :: r
    | [] => [[c]]
theorem sp_free : ∀ {p : List Nat}, 47 ∉ p → sp p = [p]
  | [], _ => rfl
  | c :: p, h => by
    have h1 : c ≠ 47 := fun e => h (by rw [e]; exact .head _)
    have ih := sp_free (p := p) fun q => h (.tail _ q)
    unfold sp
    rw [if_neg h1, ih]
theorem sp_cut : ∀ {p l : List Nat}, 47 ∉ p → sp (p ++ 47 :: l) = p :: sp l
  | [], l, _ => by show sp (47 :: l) = _; rw [sp, if_pos rfl]
  | c :: p, l, h => by
    have h1 : c ≠ 47 := fun e => h (by rw [e]; exact .head _)
    have ih := sp_cut (p := p) (l := l) fun q => h (.tail _ q)
    show sp (c :: (p ++ 47 :: l)) = _
    rw [sp, if_neg h1, ih]
theorem sp_ic : ∀ {ps : List (List Nat)}, ps ≠ [] → (∀ p ∈ ps, 47 ∉ p) → sp (ic ps) = ps
  | [], h, _ => absurd rfl h
  | [p], _, h => sp_free (h p (.head _))
  | p :: q :: r, _, h => by
    show sp (p ++ 47 :: ic (q :: r)) = _
    rw [sp_cut (h p (.head _)), sp_ic (ps := q :: r) (by simp) fun x hx => h x (.tail _ hx)]
theorem S_of (x : Str) : S x.cps.toList = x := by
  apply Str.ext'; simp
theorem split_ic {ps : List (List Nat)} (h : ps ≠ []) (hf : ∀ p ∈ ps, 47 ∉ p) : Txt.split (S (ic ps)) (Str.ofString "/") = ps.map S := by
  rw [ofS_slash]
  have h1 := StrLaws.join_split (S (ic ps)) (S [47])
  have h2 := StrLaws.split_free (S (ic ps)) 47
  have h3 := split_pos (S (ic ps)) (S [47])
  have e47 : (⟨#[47]⟩ : Str) = S [47] := rfl
  rw [e47] at h2
  generalize Txt.split (S (ic ps)) (S [47]) = zs at h1 h2 h3
  have ez : zs = (zs.map fun z => z.cps.toList).map S := by
    rw [List.map_map]
    conv => lhs; rw [← List.map_id zs]
    exact List.map_congr_left fun z _ => (S_of z).symm
  rw [ez] at h1 ⊢
  rw [join_ic] at h1
  have h4 := S_inj h1
  have h5 : sp (ic (zs.map fun z => z.cps.toList)) = zs.map fun z => z.cps.toList := by
    refine sp_ic ?_ ?_
    · intro e
      have : zs = [] := by simpa using e
      rw [this] at h3; simp at h3
    · intro p hp
      obtain ⟨z, hz, rfl⟩ := List.mem_map.mp hp
      exact h2 z hz
  rw [h4, sp_ic h hf] at h5
  rw [← h5]

/-- a sign's part of the path -/
noncomputable def comp (c : Nat) : List Nat := if c = 45 then [46, 46] else [c]
/-- a sign as the walk may have it: no dot, no slash -/
def Sign (c : Nat) : Prop := c ≠ 46 ∧ c ≠ 47
noncomputable def pieces (cs : List Nat) : List (List Nat) := [46] :: [] :: cs.map comp
/-- the path when the signs cs are joined -/
noncomputable def pathOf (r cs : List Nat) : List Nat := r ++ 46 :: 47 :: (if cs = [] then [47] else cs.flatMap fun c => 47 :: comp c)
theorem flat_ic : ∀ {cs : List Nat}, cs ≠ [] → (cs.flatMap fun c => 47 :: comp c) = 47 :: ic (cs.map comp)
  | [], h => absurd rfl h
  | [c], _ => by simp [ic]
  | c :: d :: r, _ => by
    have ih := flat_ic (cs := d :: r) (by simp)
    rw [List.flatMap_cons, ih]
    simp [ic]
theorem path_ic {r cs : List Nat} (h : cs ≠ []) : pathOf r cs = r ++ ic (pieces cs) := by
  unfold pathOf pieces
  rw [if_neg h, flat_ic h]
  cases cs with
  | nil => exact absurd rfl h
  | cons c r => rfl
theorem path_rest {cs : List Nat} (h : cs ≠ []) : ic (pieces cs) = 46 :: (47 :: (cs.flatMap fun c => 47 :: comp c)) := by
  have := path_ic (r := []) h
  unfold pathOf at this
  rw [if_neg h] at this
  simpa using this.symm
theorem comp_free {c : Nat} (h : Sign c) : 47 ∉ comp c := by
  unfold comp
  split
  · simp
  · simp; exact fun e => h.2 e.symm
theorem pieces_free {cs : List Nat} (h : ∀ c ∈ cs, Sign c) : ∀ p ∈ pieces cs, 47 ∉ p := by
  intro p hp
  unfold pieces at hp
  rcases List.mem_cons.mp hp with rfl | hp
  · simp
  · rcases List.mem_cons.mp hp with rfl | hp
    · simp
    · obtain ⟨c, hc, rfl⟩ := List.mem_map.mp hp
      exact comp_free (h c hc)
/-- where the walk stands: what is pushed and not popped -/
noncomputable def push (st : List Nat) (c : Nat) : List Nat := if c = 45 then st.dropLast else st ++ [c]
noncomputable def stack (cs : List Nat) : List Nat := cs.foldl push []
theorem stack_snoc (cs : List Nat) (c : Nat) : stack (cs ++ [c]) = push (stack cs) c := by simp [stack]
noncomputable def one (c : Nat) : Str := S [c]
theorem ofS_dot : Str.ofString "." = S [46] := by decide +kernel
theorem ofS_dd : Str.ofString ".." = S [46, 46] := by decide +kernel
theorem one_ne_dd (c : Nat) : one c ≠ Str.ofString ".." := by
  rw [ofS_dd]; intro e
  have := S_inj e
  simp at this
theorem step_push {st : List Nat} {c : Nat} (h : Sign c) : stepS (st.map one) (S (comp c)) = (push st c).map one := by
  unfold comp push
  by_cases hc : c = 45
  · rw [if_pos hc, if_pos hc]
    rw [ss_at (by rw [ofS_dd]; simp)]
    rcases List.eq_nil_or_concat st with rfl | ⟨st', d, rfl⟩
    · simp
    · rw [List.concat_eq_append, if_neg (by simp), if_neg (by simp; exact one_ne_dd d)]
      simp
  · rw [if_neg hc, if_neg hc, ss_push (by rw [S_len]; simp)]
    · simp [one]
    · rw [ofS_dot]; simp; intro e
      exact h.1 e
    · simp; exact one_ne_dd c
theorem fold_push : ∀ {cs : List Nat} {st : List Nat}, (∀ c ∈ cs, Sign c) → ((cs.map comp).map S).foldl stepS (st.map one) = (cs.foldl push st).map one
  | [], _, _ => rfl
  | c :: cs, st, h => by
    show ((cs.map comp).map S).foldl stepS (stepS (st.map one) (S (comp c))) = _
    rw [step_push (h c (.head _)), fold_push fun d hd => h d (.tail _ hd)]
    rfl
theorem fold_pieces {cs : List Nat} (h : ∀ c ∈ cs, Sign c) : ((pieces cs).map S).foldl stepS [] = (stack cs).map one := by
  unfold pieces
  show ((cs.map comp).map S).foldl stepS (stepS (stepS [] (S [46])) (S [])) = _
  rw [ss_dot (z := S [46]) (by rw [ofS_dot]; simp)]
  have e : S [] = Str.ofString "" := by decide +kernel
  rw [e, ss_empty]
  exact fold_push (st := []) h
/-- the walk's end as a text -/
noncomputable def endT (r cs : List Nat) : List Nat := r ++ ic ((stack cs).map fun c => [c])
theorem join_stack (st : List Nat) : Txt.join (Str.ofString "/") (st.map one) = S (ic (st.map fun c => [c])) := by
  unfold Txt.join
  rw [StrLaws.glued_eq_join, ofS_slash, ← join_ic, List.map_map]
  rfl
theorem push_len (st : List Nat) (c : Nat) : (push st c).length ≤ st.length + 1 := by
  unfold push; split <;> simp; omega
theorem fold_len : ∀ (cs st : List Nat), (cs.foldl push st).length ≤ st.length + cs.length
  | [], st => by simp
  | c :: cs, st => by
    have h1 := fold_len cs (push st c)
    have h2 := push_len st c
    simp only [List.foldl_cons, List.length_cons]; omega
theorem stack_len (cs : List Nat) : (stack cs).length ≤ cs.length := by
  have := fold_len cs []
  simpa [stack] using this
theorem flat_len : ∀ cs : List Nat, (cs.flatMap fun c => 47 :: comp c).length ≤ 3 * cs.length
  | [] => by simp
  | c :: cs => by
    have := flat_len cs
    have h2 : (comp c).length ≤ 2 := by unfold comp; split <;> simp
    simp only [List.flatMap_cons, List.length_append, List.length_cons]; omega
theorem root_len {r : List Nat} (hr : IsRoot r) : 1 ≤ r.length ∧ r.length ≤ 2 := by
  rcases hr with rfl | rfl <;> simp
theorem ones_sum : ∀ st : List Nat, ((st.map one).map (·.length)).sum = st.length
  | [] => rfl
  | c :: st => by
    have := ones_sum st
    simp only [List.map_cons, List.sum_cons, List.length_cons, this]
    have : (one c).length = 1 := S_len [c]
    omega
/-- joining a sign on to the path -/
theorem path_snoc (r cs : List Nat) (c : Nat) (hs : ∀ c ∈ cs, Sign c) : joinF (S (pathOf r cs)) (S (comp c)) = S (pathOf r (cs ++ [c])) := by
  unfold joinF
  rw [ofS_slash]
  by_cases h : cs = []
  · subst h
    have e : pathOf r [] = (r ++ [46, 47]) ++ [47] := by simp [pathOf]
    rw [e, ends_S, if_pos (by simp), S_append]
    simp [pathOf]
  · have e : ∃ l x, pathOf r cs = l ++ [x] ∧ x ≠ 47 := by
      rcases List.eq_nil_or_concat cs with rfl | ⟨cs', d, rfl⟩
      · exact absurd rfl h
      · rw [List.concat_eq_append] at hs ⊢
        have hd47 := (hs d (by simp)).2
        unfold pathOf
        rw [if_neg (by simp), List.flatMap_append]
        by_cases hd : d = 45
        · exact ⟨r ++ 46 :: 47 :: ((cs'.flatMap fun c => 47 :: comp c) ++ [47, 46]), 46, by simp [comp, hd], by decide⟩
        · exact ⟨r ++ 46 :: 47 :: ((cs'.flatMap fun c => 47 :: comp c) ++ [47]), d, by simp [comp, hd], hd47⟩
    obtain ⟨l, x, e, hx⟩ := e
    have en : Txt.endswith (S (pathOf r cs)) (S [47]) = false := by rw [e, ends_S]; simpa using hx
    rw [en, if_neg (by decide), S_append, S_append]
    unfold pathOf
    rw [if_neg h, if_neg (by simp)]
    simp
theorem path_len {r cs : List Nat} (hr : IsRoot r) : (S (pathOf r cs)).length ≤ 5 + 3 * cs.length ∧ 1 ≤ (S (pathOf r cs)).length := by
  have h1 := root_len hr
  have h2 := flat_len cs
  rw [S_len]
  unfold pathOf
  split
  · simp; omega
  · simp only [List.length_append, List.length_cons]; omega
theorem comp_starts {c : Nat} (h : Sign c) : Txt.startswith (S (comp c)) (Str.ofString "/") = false := by
  rw [ofS_slash]
  unfold comp
  split
  · rw [starts_S]; decide
  · rw [starts_S]; simpa using h.2
theorem comp_len (c : Nat) : (S (comp c)).length ≤ 2 := by
  rw [S_len]; unfold comp; split <;> simp

/-! the two contracts as the walk wants them -/
theorem c_norm (w : World) (mean : ExcName → Option Value) (mg mb : Str → Option Value) (r cs : List Nat) (t : Tok) (hr : IsRoot r) (hs : ∀ c ∈ cs, Sign c) (hne : cs ≠ []) (hl : cs.length ≤ 64) :
    Ctr w mean mg mb 129 [.str (S (pathOf r cs)) t] 3 32 (RetStr (S (endT r cs))) := by
  have hrl := root_len hr
  have hpl := path_len (cs := cs) hr
  have hfl := flat_len cs
  have hsl := stack_len cs
  have e1 : (Str.ofString "/").length = 1 := by decide +kernel
  have hJ : (((stack cs).map one).map (·.length)).sum + ((stack cs).map one).length * (Str.ofString "/").length ≤ 128 := by
    rw [ones_sum, e1]; simp; omega
  have hJ2 : (Txt.join (Str.ofString "/") ((stack cs).map one)).length ≤ 128 := by
    unfold Txt.join
    rw [StrLaws.glued_eq_join]
    exact Nat.le_trans (StrLaws.join_length_le _ _) hJ
  have z := c_normpath w mean mg mb r (47 :: (cs.flatMap fun c => 47 :: comp c)) 46 (S (pathOf r cs)) t ((pieces cs).map S) (by rw [path_ic hne, path_rest hne]) hr (by decide)
    (by omega) hpl.2 (by rw [S_len]; simp only [List.length_cons]; omega) (by rw [S_len]; omega) (by rw [S_len]; omega) (by rw [← path_rest hne]; exact split_ic (by simp [pieces]) (pieces_free hs))
    (by simp [pieces]; omega) (by
      intro q hq
      obtain ⟨p, hp, rfl⟩ := List.mem_map.mp hq
      unfold pieces at hp
      rcases List.mem_cons.mp hp with rfl | hp
      · rw [S_len]; simp
      · rcases List.mem_cons.mp hp with rfl | hp
        · rw [S_len]; simp
        · obtain ⟨c, _, rfl⟩ := List.mem_map.mp hp
          have := comp_len c; omega)
    ((stack cs).map one) (fold_pieces hs) (by omega) (by omega) (by rw [Str.length_append, S_len]; omega)
  rw [join_stack, S_append] at z
  exact z
theorem c_joinP (w : World) (mean : ExcName → Option Value) (mg mb : Str → Option Value) (r cs : List Nat) (c : Nat) (y : Str) (t u : Tok) (hy : S (comp c) = y) (hr : IsRoot r) (hs : ∀ c ∈ cs, Sign c) (hc : Sign c) (hl : cs.length ≤ 64) :
    Ctr w mean mg mb 115 [.str (S (pathOf r cs)) t, .str y u] 2 16 (RetStr (S (pathOf r (cs ++ [c])))) := by
  subst hy
  have hpl := path_len (cs := cs) hr
  have z := c_join w mean mg mb (S (pathOf r cs)) (S (comp c)) t u hpl.2 (by omega) (by have := comp_len c; omega) (comp_starts hc)
  rw [path_snoc r cs c hs] at z
  exact z
end Mine
local macro_rules | `(tactic| walk_at "mine con") => `(tactic| exact con_str (c_joinP _ _ _ _ _ _ _ _ _ _ (by assumption) (by assumption) (by assumption) (by assumption) (by assumption)))
local macro_rules | `(tactic| walk_at "mine con") => `(tactic| exact con_str (c_norm _ _ _ _ _ _ _ (by assumption) (by assumption) (by assumption) (by assumption)))
namespace Mine
local macro_rules | `(tactic| walk_at "exec For Name Name cons nil") => `(tactic| walk_at "mine for")
set_option maxRecDepth 100000
/-- the walk is not back at the root behind any of its steps -/
noncomputable def awayB (cs : List Nat) : Bool := (List.range cs.length).all fun i => !(stack (cs.take (i + 1))).isEmpty
theorem away_snoc (cs : List Nat) (n : Nat) : awayB (cs ++ [n]) = (awayB cs && !(stack (cs ++ [n])).isEmpty) := by
  unfold awayB
  rw [List.length_append, List.length_singleton, List.range_succ, List.all_append]
  congr 1
  · rw [Bool.eq_iff_iff, List.all_eq_true, List.all_eq_true]
    refine forall_congr' fun i => forall_congr' fun hi => ?_
    have hi' := List.mem_range.mp hi
    rw [List.take_append_of_le_length (by omega)]
  · have e : List.take (cs.length + 1) (cs ++ [n]) = cs ++ [n] := List.take_of_length_le (by simp)
    rw [List.all_cons, List.all_nil, Bool.and_true, e]
theorem ic_nil {st : List Nat} : ic (st.map fun c => [c]) = [] ↔ st = [] := by
  cases st with
  | nil => simp [ic]
  | cons c r => cases r with
    | nil => simp [ic]
    | cons d r => simp [ic]
theorem told_root (r cs : List Nat) : (S (endT r cs) != S r) = !(stack cs).isEmpty := by
  have : S (endT r cs) = S r ↔ stack cs = [] := by
    constructor
    · intro e
      have h := S_inj e
      unfold endT at h
      exact ic_nil.mp (by simpa using h)
    · intro e
      unfold endT
      rw [e]; simp [ic]
  rw [Bool.eq_iff_iff]
  simp [this]
theorem end_nil (r : List Nat) : endT r [] = r := by simp [endT, stack, ic]
/-- what holds between the turns of _law_walk's loop -/
structure PW (r : List Nat) (pre : List Int) (c : Str × Tok × Str × Tok × Bool) : Prop where
  path : c.1 = S (pathOf r (pre.map Int.toNat))
  away : c.2.2.2.2 = awayB (pre.map Int.toNat)
  told : c.2.2.2.2 = true → c.2.2.1 = S (endT r (pre.map Int.toNat))
theorem pre_snoc (pre : List Int) (n : Nat) : (pre ++ [(n : Int)]).map Int.toNat = pre.map Int.toNat ++ [n] := by simp
theorem PW_t {r ps : List Nat} {pre : List Int} {n : Nat} {p q : Tok} (hps : pre.map Int.toNat = ps) (ha : true = awayB ps) :
    PW r (pre ++ [(n : Int)]) (S (pathOf r (ps ++ [n])), p, S (endT r (ps ++ [n])), q, S (endT r (ps ++ [n])) != S r) := by
  subst hps
  refine ⟨?_, ?_, fun _ => ?_⟩
  · dsimp only; rw [pre_snoc]
  · dsimp only; rw [pre_snoc, told_root, away_snoc, ← ha]; simp
  · dsimp only; rw [pre_snoc]
theorem PW_f {r ps : List Nat} {pre : List Int} {n : Nat} {p q : Tok} {told : Str} (hps : pre.map Int.toNat = ps) (ha : false = awayB ps) :
    PW r (pre ++ [(n : Int)]) (S (pathOf r (ps ++ [n])), p, told, q, false) := by
  subst hps
  refine ⟨?_, ?_, fun h => ?_⟩
  · dsimp only; rw [pre_snoc]
  · dsimp only; rw [pre_snoc, away_snoc, ← ha]; simp
  · cases h
set_option maxHeartbeats 8000000 in
theorem c_walk (w : World) (mean : ExcName → Option Value) (mg mb : Str → Option Value) (r l : List Nat) (t u : Tok) (hr : IsRoot r) (hs : ∀ c ∈ l, Sign c) (hne : l ≠ []) (hl : l.length ≤ 32) (hR1 : (S r).length ≤ 4096) :
    Ctr w mean mg mb 190 [.str (S l) t, .str (S r) u] 4 48 (RetTup2 (S (endT r l)) (awayB l)) := by
  intro dp un gd cn cs a ccd cl outer A₀ base h₀ L m s Q E B F X T hk hd hu Z
  w_top off
  walk_at "mine enter"
  k_steps
  rename Fr _ _ _ _ => F9
  rename News _ _ _ _ => N9
  have e0 : S r ++ Str.ofString ".//" = S (pathOf r []) := by
    have : Str.ofString ".//" = S [46, 47, 47] := by decide +kernel
    rw [this, S_append]; simp [pathOf]
  refine' KStt.kst_text (fun _ => _) (fun c : Str × Tok × Str × Tok × Bool => [(Str.ofString "path", .str c.1 c.2.1), (Str.ofString "told", .str c.2.2.1 c.2.2.2.1), (Str.ofString "away", .bool c.2.2.2.2)]) (fun _ => True) [] (PW r) (S r ++ Str.ofString ".//", ?tk0, S r, u, true) rfl F9 N9 trivial ?kk ?kp ?turn ?done
  case kk => kst_all
  case kp => exact ⟨e0, rfl, fun _ => by rw [List.map_nil, end_nil]⟩
  case turn =>
    rintro ⟨path, tp, told, tt, away⟩ pre post n t u' h tk own hcode hoff _ ⟨h1, h2, h3⟩ F' N'
    dsimp only at h1 h2 h3
    subst h1
    have hMk9 := kstMark
    (try clear F9 N9)
    dsimp only [List.map_cons, List.map_nil, List.cons_append, List.nil_append] at N' hoff
    simp only [kstB, List.contains_nil, Bool.false_eq_true, if_false] at F'
    have hl' : l = pre.map Int.toNat ++ n :: post.map Int.toNat := by
      have := congrArg (List.map Int.toNat) hcode
      simp [KStt.codes, Function.comp_def] at this
      exact this
    generalize hps : pre.map Int.toNat = ps at hl' h2 h3 F' N'
    have hs1 : ∀ c ∈ ps, Sign c := fun c hc => hs c (by rw [hl']; exact List.mem_append.mpr (.inl hc))
    have hsn : Sign n := hs n (by rw [hl']; simp)
    have hs2 : ∀ c ∈ ps ++ [n], Sign c := fun c hc => by
      rcases List.mem_append.mp hc with h | h
      · exact hs1 c h
      · rw [List.mem_singleton.mp h]; exact hsn
    have hn2 : ps ++ [n] ≠ [] := by simp
    have hll : l.length = ps.length + (post.length + 1) := by rw [hl']; simp
    have hl1 : ps.length ≤ 64 := by omega
    have hl2 : (ps ++ [n]).length ≤ 64 := by simp; omega
    by_cases hn : n = 45
    · subst hn
      have hy1 : S (comp 45) = Str.ofString ".." := by decide +kernel
      cases away with
      | true =>
        k_steps
        refine ⟨?_⟩; rename News _ _ _ _ => nE'; refine kst_end ⟨_, _, _, _, _⟩ (by assumption) nE' (by first | kst_in | kst_inAny) (by first | (intro p hp; kst_mem) | kst_anyIn) (by rfl) trivial (by kst_all) (by kst_same) ?_
        exact PW_t hps h2
      | false =>
        k_steps
        refine ⟨?_⟩; rename News _ _ _ _ => nE'; refine kst_end ⟨_, _, _, _, _⟩ (by assumption) nE' (by first | kst_in | kst_inAny) (by first | (intro p hp; kst_mem) | kst_anyIn) (by rfl) trivial (by kst_all) (by kst_same) ?_
        exact PW_f hps h2
    · have hy1 : S (comp n) = ⟨#[n]⟩ := by unfold comp; rw [if_neg hn]
      have hy2 : ((⟨#[n]⟩ : Str) == Str.ofString "-") = false := by
        have : Str.ofString "-" = S [45] := by decide +kernel
        rw [this]; simp; exact hn
      cases away with
      | true =>
        k_steps
        refine ⟨?_⟩; rename News _ _ _ _ => nE'; refine kst_end ⟨_, _, _, _, _⟩ (by assumption) nE' (by first | kst_in | kst_inAny) (by first | (intro p hp; kst_mem) | kst_anyIn) (by rfl) trivial (by kst_all) (by kst_same) ?_
        exact PW_t hps h2
      | false =>
        k_steps
        refine ⟨?_⟩; rename News _ _ _ _ => nE'; refine kst_end ⟨_, _, _, _, _⟩ (by assumption) nE' (by first | kst_in | kst_inAny) (by first | (intro p hp; kst_mem) | kst_anyIn) (by rfl) trivial (by kst_all) (by kst_same) ?_
        exact PW_f hps h2
  case done =>
    rintro ⟨path, tp, told, tt, away⟩ u' h tk _ ⟨h1, h2, h3⟩ F' N'
    have hc : (KStt.codes (S l)).map Int.toNat = l := by simp [KStt.codes, Function.comp_def]
    rw [hc] at h1 h2 h3
    dsimp only at h1 h2 h3
    subst h1
    have hl1 : l.length ≤ 64 := by omega
    simp only [kstB, List.contains_nil, Bool.false_eq_true, if_false] at F'
    have hMk9 := kstMark
    (try clear F9 N9)
    cases away with
    | true =>
      have h4 := h3 rfl
      subst h4
      k_steps
      exact ⟨by rw [h2]⟩
    | false =>
      k_steps
      exact ⟨by rw [h2]⟩
end Mine
namespace Mine
local macro_rules | `(tactic| walk_at "exec For Name Subscript cons nil") => `(tactic| walk_at "mine for")
set_option maxRecDepth 100000
theorem rev_S (l : List Nat) (u : Tok) : Txt.sliceBy (S l) none none (-1, u) = S l.reverse := by
  rw [← S_of (Txt.sliceBy (S l) none none (-1, u)), step_rev_list]
  congr 1
  rw [S_len]
  apply List.ext_getElem
  · simp
  · intro i h1 h2
    simp at h1
    have h3 : l.length - 1 - i < l.length := by omega
    simp [h3]
/-- _law_end's turn: the signs that are left, the minuses that may still pay -/
noncomputable def endStep (s : List Nat × Nat) (c : Nat) : List Nat × Nat := if c = 45 then (s.1, s.2 + 1) else if 0 < s.2 then (s.1, s.2 - 1) else (s.1 ++ [c], s.2)
theorem cut_one (n m : Nat) : min (min (n - 1) n - m) (n - 1) = n - (m + 1) := by
  rw [Nat.min_eq_left (Nat.sub_le n 1), Nat.min_eq_left (Nat.sub_le _ m), Nat.sub_sub, Nat.add_comm]
theorem end_stack : ∀ (l st : List Nat), l.foldl push st = st.take (st.length - (l.foldr (fun c s => endStep s c) ([], 0)).2) ++ (l.foldr (fun c s => endStep s c) ([], 0)).1.reverse
  | [], st => by simp
  | c :: l, st => by
    rw [List.foldl_cons, end_stack l (push st c), List.foldr_cons]
    generalize l.foldr (fun c s => endStep s c) ([], 0) = q
    obtain ⟨left, m⟩ := q
    unfold push endStep
    dsimp only
    by_cases hc : c = 45
    · rw [if_pos hc, if_pos hc]
      dsimp only
      rw [List.dropLast_eq_take, List.take_take, List.length_take, cut_one]
    · rw [if_neg hc, if_neg hc]
      by_cases hm : 0 < m
      · rw [if_pos hm]
        dsimp only
        rw [List.length_append, List.length_singleton, List.take_append_of_le_length (by omega)]
        congr 2
        omega
      · rw [if_neg hm]
        have : m = 0 := by omega
        subst this
        have e : List.take (st.length + 1) (st ++ [c]) = st ++ [c] := List.take_of_length_le (by simp)
        simp [e]
theorem end_left (l : List Nat) : (l.reverse.foldl endStep ([], 0)).1.reverse = stack l := by
  have := end_stack l []
  rw [List.foldl_reverse]
  simpa [stack] using this.symm
theorem endStep_len (s : List Nat × Nat) (c : Nat) : (endStep s c).1.length ≤ s.1.length + 1 := by
  unfold endStep; split
  · simp
  · split <;> simp
theorem endFold_len : ∀ (l : List Nat) (s : List Nat × Nat), (l.foldl endStep s).1.length ≤ s.1.length + l.length
  | [], s => by simp
  | c :: l, s => by
    have h1 := endFold_len l (endStep s c)
    have h2 := endStep_len s c
    simp only [List.foldl_cons, List.length_cons]; omega
theorem append_vals {prog : Program} {w : World} {A : Around} {E : Value → Shared → Prop} {s : Shared} {h₀ : Heap} {L D : Addr} {m : Str → Option Value} {news news' : List (Addr × Obj)} {n : Nat} {c : List (Str × Tok)} {z : Str} {t : Tok} {Q : Value → Shared → Prop} (F : Fr h₀ L s.heap m) (N : News h₀ L s.heap news)
    (U : Upd D (PySem.W.listOf (strValues c).toArray n) (PySem.W.listOf (strValues (c ++ [(z, t)])).toArray (n + 1)) news news') (hl : c.length ≤ 4096)
    (h : ∀ h', Fr h₀ L h' m → News h₀ L h' news' → Q .none { s with heap := h' }) : wpAny (model prog w) A (call (.builtin "list.append") [.ref D, .str z t]) Q E s :=
  append_any F N (by have e : strValues (c ++ [(z, t)]) = strValues c ++ [.str z t] := by simp [strValues]
                     rw [e] at U; exact U) (by simpa [strValues] using hl) h
theorem rev_vals {prog : Program} {w : World} {A : Around} {E : Value → Shared → Prop} {s : Shared} {h₀ : Heap} {L l : Addr} {m : Str → Option Value} {news : List (Addr × Obj)} {value slice : PySem.Expr} {vk : Value} {ops : List Value} {n : Nat} {c : List (Str × Tok)} {Q : Value → Shared → Prop} (F : Fr h₀ L s.heap m) (N : News h₀ L s.heap news)
    (hm : (l, PySem.W.listOf (strValues c).toArray n) ∈ news) (pk : IsPart vk (some (-1))) (hl : c.length ≤ 4096)
    (h : ∀ D h', Fr h₀ L h' m → News h₀ L h' ((D, PySem.W.listOf (strValues c.reverse).toArray 0) :: news) → (∀ p ∈ news, p.1 < D) → Q (.ref D) { s with heap := h' })
    (hs : subscripted slice false (.ref l) (.ref s.heap.objs.size) = operate ops (getItem (.ref l) (.ref s.heap.objs.size))) (ht : ∀ r, letTemporaryGo value (.ref l) r = pure ()) :
    wpAny (model prog w) A (subscriptTail value slice (.ref l) (.ref s.heap.objs.size)) Q E { s with heap := s.heap.push { cls := .type "slice", data := .fields #[.none, .none, vk] } } :=
  krv_lit (its := (strValues c).toArray) (zs := strValues c.reverse) F N ⟨_, (N _ hm).1, rfl, n, rfl⟩ pk (by simp [strValues]) h hs ht (by rw [PySem.sizeLine_eq]; simp [strValues]; omega)
local macro_rules | `(tactic| walk_at "call builtin:list.append") => `(tactic| (k_dflt (refine' append_vals (by k_asm) (by k_asm) (by k_upd) (by assumption) ?_; k_whole); intros; (try k_sweep)))
local macro_rules | `(tactic| walk_at "subscriptTail Name Slice ref ref") => `(tactic| (k_dflt (refine' rev_vals (by k_asm) (by k_asm) (by k_mem) (by exact IsPart.int _ _) (by assumption) ?_ (by with_unfolding_all rfl) (by kmk_pure)); intro D' h' F' N' l1; (try k_lt l1); (try k_sweep)))
/-- what holds between the turns of _law_end's loop -/
structure PE (pre : List Int) (c : Int × Tok × List (Str × Tok) × Nat) : Prop where
  minus : c.1 = (((pre.map Int.toNat).foldl endStep ([], 0)).2 : Int)
  left : c.2.2.1.map (·.1) = ((pre.map Int.toNat).foldl endStep ([], 0)).1.map one
section
variable {pre : List Int} {n : Nat} {minus : Int} {tm tm' t : Tok} {left : List (Str × Tok)} {nl : Nat}
theorem fold_snoc : ((pre ++ [(n : Int)]).map Int.toNat).foldl endStep ([], 0) = endStep ((pre.map Int.toNat).foldl endStep ([], 0)) n := by simp
theorem sign_is {b : Bool} (h : ((⟨#[n]⟩ : Str) == Str.ofString "-") = b) : (n == 45) = b := by
  have e : Str.ofString "-" = S [45] := by decide +kernel
  rw [e] at h
  rw [← h, Bool.eq_iff_iff]
  simp
theorem step_minus {q : List Nat × Nat} (hn : n = 45) : endStep q n = (q.1, q.2 + 1) := if_pos hn
theorem step_pay {q : List Nat × Nat} (hn : ¬ n = 45) (h : 0 < q.2) : endStep q n = (q.1, q.2 - 1) := (if_neg hn).trans (if_pos h)
theorem step_left {q : List Nat × Nat} (hn : ¬ n = 45) (h : ¬ 0 < q.2) : endStep q n = (q.1 ++ [n], q.2) := (if_neg hn).trans (if_neg h)
theorem PE_minus (h : PE pre (minus, tm, left, nl)) (hs : ((⟨#[n]⟩ : Str) == Str.ofString "-") = true) : PE (pre ++ [(n : Int)]) (minus + 1, tm', left, nl) := by
  have hn : n = 45 := by simpa using sign_is hs
  have h1 := h.minus
  have h2 := h.left
  refine ⟨?_, ?_⟩
  · rw [fold_snoc, step_minus hn]; dsimp only at h1 ⊢; omega
  · rw [fold_snoc, step_minus hn]; exact h2
theorem PE_pay (h : PE pre (minus, tm, left, nl)) (hs : ((⟨#[n]⟩ : Str) == Str.ofString "-") = false) (hm : 0 < minus) : PE (pre ++ [(n : Int)]) (minus - 1, tm', left, nl) := by
  have hn : ¬ n = 45 := by simpa using sign_is hs
  have h1 := h.minus
  have h2 := h.left
  dsimp only at h1
  refine ⟨?_, ?_⟩
  · rw [fold_snoc, step_pay hn (by omega)]; dsimp only at h1 ⊢; omega
  · rw [fold_snoc, step_pay hn (by omega)]; exact h2
theorem PE_left {nl' : Nat} (h : PE pre (minus, tm, left, nl)) (hs : ((⟨#[n]⟩ : Str) == Str.ofString "-") = false) (hm : ¬ 0 < minus) : PE (pre ++ [(n : Int)]) (minus, tm', left ++ [(⟨#[n]⟩, t)], nl') := by
  have hn : ¬ n = 45 := by simpa using sign_is hs
  have h1 := h.minus
  have h2 := h.left
  dsimp only at h1 h2
  refine ⟨?_, ?_⟩
  · rw [fold_snoc, step_left hn (by omega)]; exact h1
  · rw [fold_snoc, step_left hn (by omega)]; dsimp only; rw [List.map_append, h2, List.map_append]; rfl
end
set_option maxHeartbeats 8000000 in
theorem c_end (w : World) (mean : ExcName → Option Value) (mg mb : Str → Option Value) (r l : List Nat) (t u : Tok) (hl : l.length ≤ 32) (hl2 : (S l).length ≤ 4096) (hR1 : (S r).length ≤ 4096) :
    Ctr w mean mg mb 197 [.str (S l) t, .str (S r) u] 4 48 (RetStr (S (endT r l))) := by
  intro dp un gd cn cs a ccd cl outer A₀ base h₀ L m s Q E B F X T hk hd hu Z
  w_top off
  walk_at "mine enter"
  k_steps
  rename Fr _ _ _ _ => F9
  rename News _ _ _ _ => N9
  rw [rev_S]
  refine' KStt.kst_text (fun c : Int × Tok × List (Str × Tok) × Nat => [_, (_, PySem.W.listOf (strValues c.2.2.1).toArray c.2.2.2)]) (fun c => [(Str.ofString "minus", .int c.1 c.2.1)]) (fun _ => True) [] PE (0, ?tk0, [], 0) rfl F9 N9 trivial ?kk ?kp ?turn ?done
  case kk => kst_all
  case kp => exact ⟨rfl, rfl⟩
  case turn =>
    rintro ⟨minus, tm, left, nl⟩ pre post n t u' h tk own hcode hoff _ ⟨h1, h2⟩ F' N'
    dsimp only at h1 h2
    have hMk9 := kstMark
    (try clear F9 N9)
    dsimp only [List.map_cons, List.map_nil, List.cons_append, List.nil_append] at N' hoff
    simp only [kstB, List.contains_nil, Bool.false_eq_true, if_false] at F'
    have hP : PE pre (minus, tm, left, nl) := ⟨h1, h2⟩
    have hlen : left.length ≤ 4096 := by
      have q1 := congrArg List.length h2
      have q2 := endFold_len (pre.map Int.toNat) ([], 0)
      have q3 := congrArg List.length hcode
      simp [KStt.codes] at q1 q2 q3
      omega
    k_steps
    all_goals (refine ⟨?_⟩; rename News _ _ _ _ => nE'; refine kst_end ⟨_, _, _, _⟩ (by assumption) nE' (by first | kst_in | kst_inAny) (by first | (intro p hp; kst_mem) | kst_anyIn) (by rfl) trivial (by kst_all) (by kst_same) ?_)
    · exact PE_minus hP (by assumption)
    · exact PE_pay hP (by assumption) (by assumption)
    · exact PE_left hP (by assumption) (by assumption)
  case done =>
    rintro ⟨minus, tm, left, nl⟩ u' h tk _ ⟨h1, h2⟩ F' N'
    have hc : (KStt.codes (S l.reverse)).map Int.toNat = l.reverse := by simp [KStt.codes, Function.comp_def]
    rw [hc] at h1 h2
    dsimp only at h1 h2
    simp only [kstB, List.contains_nil, Bool.false_eq_true, if_false] at F'
    have hMk9 := kstMark
    (try clear F9 N9)
    have hsl := stack_len l
    have hys : left.reverse.map (·.1) = (stack l).map one := by
      rw [List.map_reverse, h2, ← List.map_reverse, end_left]
    have hlen : left.length ≤ 4096 := by
      have q1 := congrArg List.length hys
      simp at q1
      omega
    have e1 : (Str.ofString "/").length = 1 := by decide +kernel
    have hJ : (((stack l).map one).map (·.length)).sum + ((stack l).map one).length * (Str.ofString "/").length ≤ 16777216 := by
      rw [ones_sum, e1]; simp; omega
    have hJ2 : (Txt.join (Str.ofString "/") ((stack l).map one)).length ≤ 4096 := by
      unfold Txt.join
      rw [StrLaws.glued_eq_join]
      refine Nat.le_trans (StrLaws.join_length_le _ _) ?_
      rw [ones_sum, e1]; simp; omega
    k_steps
    exact ⟨by rw [join_stack, S_append]; rfl⟩
end Mine
namespace Mine
set_option maxRecDepth 100000
open PySem.W
/-! a for with an else over a tuple of the base heap, plain or enumerated; nothing raises -/
section
variable {prog : Program} {w : World} {A : Around} {E : Value → Shared → Prop} {s : Shared}
theorem nextOf_tuple_item {it l : Addr} {i : Nat} {items : Array Value} {x : Value} {Q : Value → Shared → Prop} (hit : s.heap.IsTupleIter it l i)
    (hl : s.heap.IsTuple l items) (hx : items[i]? = some x)
    (hQ : ∀ h', h'.IsTupleIter it l (i + 1) → Heap.SameBut it s.heap h' → Q x { s with heap := h' }) :
    wpAny (model prog w) A (Builtin.SmallTypes.nextOf (.ref it)) Q E s := by
  obtain ⟨o, ho, hc, hd⟩ := id hit
  obtain ⟨ol, hol, _, nl, hdl⟩ := hl
  unfold Builtin.SmallTypes.nextOf
  refine wpAny_bind (wpAny_callSpecial?_slot (name := Str.ofString "__next__") hit.typeIs PySem.F.slot_tuple_iterator_next
    (wpAny_call_entry PySem.F.slot_tuple_iterator_next hit.typeIs PySem.F.entry_tuple_iterator_next ?_ (PySem.F.args_tuple_iterator_next_1 _)))
  show wpAny _ _ (field (.ref it) 0 >>= _) _ _ s
  refine wpAny_bind (wpAny_field ho hd (x := .ref l) rfl ?_)
  show wpAny _ _ (if (Value.ref l == Value.none) = true then _ else _) _ _ s
  rw [if_neg (show ¬ ((Value.ref l == Value.none) = true) from Bool.false_ne_true)]
  show wpAny _ _ (field (.ref it) 1 >>= _) _ _ s
  refine wpAny_bind (wpAny_field ho hd (x := .int i 0) rfl ?_)
  show wpAny _ _ (seqItems? (.ref l) >>= _) _ _ s
  refine wpAny_bind (wpAny_seqItems hol hdl ?_)
  simp only [Int.toNat_natCast, hx]
  refine wpAny_bind (wpAny_setField ho hd (by simp) (wpAny_pure ⟨x, rfl, wpAny_pure (hQ _ ?_ (Heap.SameBut.update ..))⟩))
  exact ⟨_, Heap.get?_update_self _ ho (Obj.isFreed_of_fields (Obj.data_mapFields hd _)), (Obj.cls_mapFields ..).trans hc, by
    rw [Obj.data_mapFields hd]; simp [rawInt]⟩
theorem nextOf_tuple_end {it l : Addr} {i : Nat} {items : Array Value} {Q : Value → Shared → Prop} (hh : A.handled = none)
    (hit : s.heap.IsTupleIter it l i) (hl : s.heap.IsTuple l items) (hx : items[i]? = none)
    (hE : ∀ h' e, Heap.ExtBut it s.heap h' → (∃ o, h'.get? e = some o ∧ o.cls = .type "StopIteration") → E (.ref e) { s with heap := h' }) :
    wpAny (model prog w) A (Builtin.SmallTypes.nextOf (.ref it)) Q E s := by
  obtain ⟨o, ho, hc, hd⟩ := id hit
  obtain ⟨ol, hol, _, nl, hdl⟩ := hl
  unfold Builtin.SmallTypes.nextOf
  refine wpAny_bind (wpAny_callSpecial?_slot (name := Str.ofString "__next__") hit.typeIs PySem.F.slot_tuple_iterator_next
    (wpAny_call_entry PySem.F.slot_tuple_iterator_next hit.typeIs PySem.F.entry_tuple_iterator_next ?_ (PySem.F.args_tuple_iterator_next_1 _)))
  show wpAny _ _ (field (.ref it) 0 >>= _) _ _ s
  refine wpAny_bind (wpAny_field ho hd (x := .ref l) rfl ?_)
  show wpAny _ _ (if (Value.ref l == Value.none) = true then _ else _) _ _ s
  rw [if_neg (show ¬ ((Value.ref l == Value.none) = true) from Bool.false_ne_true)]
  show wpAny _ _ (field (.ref it) 1 >>= _) _ _ s
  refine wpAny_bind (wpAny_field ho hd (x := .int i 0) rfl ?_)
  show wpAny _ _ (seqItems? (.ref l) >>= _) _ _ s
  refine wpAny_bind (wpAny_seqItems hol hdl ?_)
  simp only [Int.toNat_natCast, hx]
  refine wpAny_bind (wpAny_rule (wpAny_bind (wpAny_setField ho hd (by simp) ?_)))
  show wpAny _ _ (newExc (.type "StopIteration") [] >>= _) _ _ _
  refine wpAny_bind ?_
  simp only [newExc, newTuple]
  refine wpAny_bind (wpAny_newObj_type ?_ (by size_fits))
  refine wpAny_bind (m := firstArgMember _ _) (wpAny_of_eq (a := Value.none) (by first | rfl | (simp only [firstArgMember]; rfl)) ?_)
  refine wpAny_newObj_type ?_ (by size_fits)
  delta raiseNew
  refine wpAny_bind (wpAny_handled ?_)
  first | rw [show A.in1.handled = none from hh] | rw [hh]
  refine wpAny_bind (wpAny_pure (wpAny_throw ?_))
  exact hE _ _ (((Heap.SameBut.update ..).extBut.push _).push _) ⟨_, Heap.get?_push_size _ rfl, rfl⟩
end
theorem drawsT {prog : Program} {w : World} {A : Around} (hh : A.handled = none) (it l : Addr) (hne : l ≠ it) (items : Array Value) :
    Draws prog w A it [it, l] items.size (fun i v => items[i]? = some v) (fun i h => h.IsTupleIter it l i ∧ h.IsTuple l items) where
  live := fun _ _ st => let ⟨o, ho, _⟩ := st.1; ⟨o, ho⟩
  frame := fun _ _ _ st hk => ⟨st.1.at fun o e => hk it (by simp) o e, st.2.at fun o e => hk l (by simp) o e⟩
  item := fun i s Q E hi st hQ => by
    refine nextOf_tuple_item st.1 st.2 (x := items[i]) (by simp [hi]) fun h' hit' hs' => ?_
    exact hQ _ h' s.toks (by simp [hi]) ⟨hit', st.2.extBut hs'.extBut hne⟩ hs'
  done := fun s Q E st hE => nextOf_tuple_end hh st.1 st.2 (by simp) hE

theorem pure_bool {prog : Program} {w : World} {A : Around} {Q : Bool → Shared → Prop} {E : Value → Shared → Prop} {s : Shared} {b : Bool} (h : ∀ b, Q b s) : wpAny (model prog w) A (pure b) Q E s := wpAny_pure (h b)
theorem meets_enumT (l : Addr) (items : Array Value) (n : Nat) (dct : Option Addr) (sl : Array (Option Value)) :
    Meets (Builtin.«enumerate.__new__» ⟨[.type "enumerate", .ref l], []⟩) (fun _ R s => s.heap.get? l = some { cls := .type "tuple", dict := dct, data := .seq items n, slots := sl } ∧
      R (.ok (.ret (.ref (s.heap.push { cls := .type "tuple_iterator", data := .fields #[.ref l, .int 0 0] }).objs.size)))
        { s with heap := (s.heap.push { cls := .type "tuple_iterator", data := .fields #[.ref l, .int 0 0] }).push { cls := .type "enumerate", data := .fields #[.none, .bool false, .ref s.heap.objs.size, rawInt 0, .none, .none] } }) :=
  .of_wp fun prog w A R s h => by
    obtain ⟨hp, g, d, tk, os⟩ := s; obtain ⟨hl, h⟩ := h
    have hsub := sub_enumerate
    have hL : Heap.IsTuple (Shared.heap ⟨hp, g, d, tk, os⟩) l items := ⟨_, hl, rfl, n, rfl⟩
    wp_walk using AutoSeq1.wpAny_loadPart' hl
    refine wpAny_stack_any fun st => pure_bool fun b => ?_
    cases b
    · wp_walk using AutoSeq1.wpAny_loadPart' hl, wpAny_pyIter_tuple hL
      exact ⟨_, rfl, h⟩
    · wp_walk using AutoSeq1.wpAny_loadPart' hl, wpAny_pyIter_tuple hL
      exact ⟨_, rfl, h⟩
theorem call_enumT {prog : Program} {w : World} {A : Around} {E : Value → Shared → Prop} {s : Shared} {l : Addr} {items : Array Value} {Q : Value → Shared → Prop} (hL : s.heap.IsTuple l items)
    (h : ∀ h', IsEnum h' (s.heap.objs.size + 1) s.heap.objs.size 0 .none → h'.IsTupleIter s.heap.objs.size l 0 →
      (∀ b o, s.heap.get? b = some o → h'.get? b = some o) → Q (.ref (s.heap.objs.size + 1)) { s with heap := h' }) :
    wpAny (model prog w) A (call (.type "enumerate") [.ref l]) Q E s := by
  obtain ⟨⟨c, dct, dt, sl⟩, hl, hc, n, hd⟩ := hL
  replace hc : c = .type "tuple" := hc
  replace hd : dt = .seq items n := hd
  subst hc hd
  refine callType_new PySem.F.called_enumerate (by decide) (PySem.F.typeCall_enumerate_1 _) (PySem.F.newCall_enumerate_1 _) (fun obj => PySem.F.args_object_init_2 obj _) PySem.F.entry_enumerate_new
    (meets_enumT l items n dct sl) ⟨hl, ?_⟩
  have hz : (s.heap.push { cls := .type "tuple_iterator", data := .fields #[.ref l, .int 0 0] }).objs.size = s.heap.objs.size + 1 := Heap.size_push ..
  show _ ∧ _
  rw [hz]
  have he : IsEnum ((s.heap.push { cls := .type "tuple_iterator", data := .fields #[.ref l, .int 0 0] }).push
      { cls := .type "enumerate", data := .fields #[.none, .bool false, .ref s.heap.objs.size, rawInt 0, .none, .none] }) (s.heap.objs.size + 1) s.heap.objs.size 0 .none := by
    have := Heap.get?_push_size (s.heap.push { cls := .type "tuple_iterator", data := .fields #[.ref l, .int 0 0] })
      (o := { cls := .type "enumerate", data := .fields #[.none, .bool false, .ref s.heap.objs.size, rawInt 0, .none, .none] }) rfl
    rw [hz] at this; exact this
  exact ⟨⟨_, he, rfl⟩, h _ he ⟨_, Heap.get?_push_of_some _ (Heap.get?_push_size _ rfl), rfl, rfl⟩ fun b o x => Heap.get?_push_of_some _ (Heap.get?_push_of_some _ x)⟩

/-- a turn's end: the loop's own objects stand, J holds -/
structure EndK (h₀ : Heap) (L : Addr) (own : List (Addr × Obj)) (J : (Str → Option Value) → List (Addr × Obj) → Prop) (s₁ s₂ : Shared) : Prop where
  out : ∃ h' tk m' news', s₂ = { s₁ with heap := h', toks := tk } ∧ Fr h₀ L h' m' ∧ News h₀ L h' (own ++ news') ∧ (∀ p ∈ news', p.1 ∉ own.map (·.1)) ∧ J m' news'
def PostK (h₀ : Heap) (L : Addr) (own : List (Addr × Obj)) (J : (Str → Option Value) → List (Addr × Obj) → Prop) (s₁ : Shared) (Q : Flow → Shared → Prop) (f : Flow) (s₂ : Shared) : Prop :=
  match f with
  | .ret v => Q (.ret v) s₂
  | .brk => Q .next s₂
  | _ => EndK h₀ L own J s₁ s₂

theorem ne0 {a n : Nat} (h : a < n) : a ≠ n := by omega
theorem ne1 {a n : Nat} (h : a < n) : a ≠ n + 1 := by omega
theorem le1 {b n : Nat} (h : b = n + 1) : n ≤ b := by omega
theorem le0 {b n : Nat} (h : b = n) : n ≤ b := by omega
theorem owns {h : Heap} : ∀ {wr : List Addr}, (∀ b ∈ wr, ∃ o, h.get? b = some o) → ∃ own : List (Addr × Obj), own.map (·.1) = wr ∧ ∀ p ∈ own, h.get? p.1 = some p.2
  | [], _ => ⟨[], rfl, fun _ hp => nomatch hp⟩
  | b :: wr, k => by
    obtain ⟨o, ho⟩ := k b (.head _)
    obtain ⟨own, e, hw⟩ := owns (wr := wr) fun c hc => k c (.tail _ hc)
    refine ⟨(b, o) :: own, by simp [e], fun p hp => ?_⟩
    rcases List.mem_cons.mp hp with rfl | hp
    · exact ho
    · exact hw p hp

section
variable {prog : Program} {w : World} {A : Around} {s : Shared} {env : Env} {h₀ : Heap} {target : Expr} {body orelse : List Stmt} {Q : Flow → Shared → Prop}
theorem loopK {I : Addr} {fp wr : List Addr} {n : Nat} {P Md : Nat → Value → Heap → Prop} {St : Nat → Heap → Prop} {m : Str → Option Value} {news : List (Addr × Obj)} (W : KTurns prog w A target I fp wr n P Md St)
    (hLw : env.locals ∉ wr) (hfp : ∀ b ∈ fp, b ∈ wr ∨ ∃ o, h₀.get? b = some o) (hwr : ∀ b ∈ wr, h₀.get? b = none) (hlive : ∀ i h, St i h → ∀ b ∈ wr, ∃ o, h.get? b = some o)
    (hnw : ∀ p ∈ news, p.1 ∉ wr) (hst : St 0 s.heap) (F : Fr h₀ env.locals s.heap m) (N : News h₀ env.locals s.heap news)
    (J : Nat → (Str → Option Value) → List (Addr × Obj) → Prop) (h0 : J 0 m news)
    (step : ∀ i v m₁ news₁ h₁ tk₁ own, i < n → P i v h₁ → J i m₁ news₁ → own.map (·.1) = wr → (∀ p ∈ news₁, p.1 ∉ wr) → Fr h₀ env.locals h₁ m₁ → News h₀ env.locals h₁ (own ++ news₁) →
      wpAny (model prog w) A (assign target env v) (fun _ s₂ => wpAny (model prog w) A (execs body env) (PostK h₀ env.locals own (J (i + 1)) { s with heap := h₁, toks := tk₁ } Q) (fun _ _ => False) s₂) (fun _ _ => False) { s with heap := h₁, toks := tk₁ })
    (fin : ∀ h' tk m' news', Fr h₀ env.locals h' m' → News h₀ env.locals h' news' → J n m' news' → wpAny (model prog w) A (execs orelse env) Q (fun _ _ => False) { s with heap := h', toks := tk }) :
    codeAny (model prog w) A (.forLoop target (.ref I) body orelse env) (fun r s' => match r with | .ok f => Q f s' | .error e => cameBackBy (model prog w) A env (fun _ _ => False) e s') s := by
  have old : ∀ b o, h₀.get? b = some o → b ∉ wr := fun b o e hb => by rw [hwr b hb] at e; cases e
  refine codeAny_forLoop_any
    (fun k s' => ∃ h' tk m' news' i, s' = { s with heap := h', toks := tk } ∧ St i h' ∧ Fr h₀ env.locals h' m' ∧ News h₀ env.locals h' news' ∧ (∀ p ∈ news', p.1 ∉ wr) ∧ J i m' news' ∧ i ≤ n ∧ k = n + 1 - i) ?_ (n + 1)
    ⟨s.heap, s.toks, m, news, 0, rfl, hst, F, N, hnw, h0, Nat.zero_le _, rfl⟩
  rintro k s' ⟨h', tk, m', news', i, rfl, hst', F', N', hnw', hJ, hi, rfl⟩
  have next : ∀ h₁ : Heap, (∀ b o, b ∉ wr → h'.get? b = some o → h₁.get? b = some o) → Fr h₀ env.locals h₁ m' ∧ News h₀ env.locals h₁ news' := fun h₁ hk₁ =>
    ⟨⟨F'.ns.at' fun o e => hk₁ _ o hLw e, fun b o e => hk₁ b o (old b o e) (F'.keep b o e), F'.above⟩, fun p hp => ⟨hk₁ _ _ (hnw' p hp) (N' p hp).1, (N' p hp).2⟩⟩
  by_cases hlt : i < n
  · refine W.item i _ _ _ hlt hst' fun v h₁ tk₁ hMd hk₁ => ?_
    refine W.go i v _ _ _ hMd fun h₂ hP hst₂ hk₂ => ?_
    obtain ⟨F₂, N₂⟩ := next h₂ fun b o hb x => hk₂ b o hb (hk₁ b o hb x)
    obtain ⟨own, hown, hget⟩ := owns (hlive _ _ hst₂)
    have N₃ : News h₀ env.locals h₂ (own ++ news') := fun p hp => by
      rcases List.mem_append.mp hp with hp | hp
      · have hw : p.1 ∈ wr := by rw [← hown]; exact List.mem_map.mpr ⟨p, hp, rfl⟩
        exact ⟨hget p hp, fun e => hLw (e ▸ hw), hwr _ hw⟩
      · exact N₂ p hp
    have back : ∀ s₃, EndK h₀ env.locals own (J (i + 1)) { s with heap := h₂, toks := tk₁ } s₃ → ∃ m, m < n + 1 - i ∧ ∃ h' tk m' news' i, s₃ = { s with heap := h', toks := tk } ∧ St i h' ∧ Fr h₀ env.locals h' m' ∧ News h₀ env.locals h' news' ∧ (∀ p ∈ news', p.1 ∉ wr) ∧ J i m' news' ∧ i ≤ n ∧ m = n + 1 - i := by
      rintro s₃ ⟨h₃, tk₃, m₃, news₃, rfl, F₃, N₄, hoff, hJ₃⟩
      refine ⟨n + 1 - (i + 1), by omega, h₃, tk₃, m₃, news₃, i + 1, rfl, ?_, F₃, fun p hp => N₄ p (List.mem_append_right _ hp), fun p hp => by rw [← hown]; exact hoff p hp, hJ₃, hlt, rfl⟩
      refine W.frame _ _ _ hst₂ fun b hb o e => ?_
      rcases hfp b hb with hw | ⟨o₀, ho₀⟩
      · rw [← hown] at hw
        obtain ⟨p, hp, rfl⟩ := List.mem_map.mp hw
        have h1 := hget p hp
        rw [e] at h1
        have h2 : o = p.2 := Option.some.inj h1
        rw [h2]
        exact (N₄ p (List.mem_append_left _ hp)).1
      · have h1 := F₂.keep b o₀ ho₀
        rw [e] at h1
        have h2 : o = o₀ := Option.some.inj h1
        rw [h2]
        exact F₃.keep b o₀ ho₀
    refine wpAny_mono (step i v m' news' h₂ tk₁ own hlt hP hJ hown hnw' F₂ N₃) (fun _ s₂ h₂' => wpAny_mono h₂' (fun f s₃ h₃ => ?_) fun _ _ e => e.elim) fun _ _ e => e.elim
    cases f with
    | ret v => exact h₃
    | brk => exact h₃
    | cont => exact back s₃ h₃
    | next => exact back s₃ h₃
  · have hin : i = n := by omega
    subst hin
    refine W.done _ _ _ hst' fun h₁ tk₁ hk₁ => ?_
    obtain ⟨F₁, N₁⟩ := next h₁ hk₁
    exact wpAny_mono (fin h₁ tk₁ m' news' F₁ N₁ hJ) (fun _ _ q => q) fun _ _ e => e.elim

theorem For_tup {a : Addr} {items : List Value} {m : Str → Option Value} {news : List (Addr × Obj)} (hh : A.handled = none) (F : Fr h₀ env.locals s.heap m) (N : News h₀ env.locals s.heap news) (hl : h₀.IsTuple a items.toArray)
    (J : Nat → (Str → Option Value) → List (Addr × Obj) → Prop) (h0 : J 0 m news)
    (step : ∀ i v m₁ news₁ h₁ tk₁ I oI, items[i]? = some v → J i m₁ news₁ → (∀ p ∈ news₁, p.1 ≠ I) → Fr h₀ env.locals h₁ m₁ → News h₀ env.locals h₁ ((I, oI) :: news₁) →
      wpAny (model prog w) A (assign target env v) (fun _ s₂ => wpAny (model prog w) A (execs body env) (PostK h₀ env.locals [(I, oI)] (J (i + 1)) { s with heap := h₁, toks := tk₁ } Q) (fun _ _ => False) s₂) (fun _ _ => False) { s with heap := h₁, toks := tk₁ })
    (fin : ∀ h' tk m' news', Fr h₀ env.locals h' m' → News h₀ env.locals h' news' → J items.length m' news' → wpAny (model prog w) A (execs orelse env) Q (fun _ _ => False) { s with heap := h', toks := tk }) :
    wpAny (model prog w) A (pyIter (.ref a)) (fun it s₂ => codeAny (model prog w) A (.forLoop target it body orelse env) (fun r s' => match r with | .ok f => Q f s' | .error e => cameBackBy (model prog w) A env (fun _ _ => False) e s') s₂) (fun _ _ => False) s := by
  obtain ⟨oa, hoa, _⟩ := id hl
  have hls : s.heap.IsTuple a items.toArray := hl.at fun o e => F.keep a o e
  have hlt : a < s.heap.objs.size := Heap.lt_size (F.keep _ _ hoa)
  have hne : a ≠ s.heap.objs.size := Nat.ne_of_lt hlt
  have hLs : env.locals < s.heap.objs.size := F.ns.lt
  refine wpAny_pyIter_tuple hls ?_
  have W := KTurns.ofWalks (target := target) (Walks.tuple (prog := prog) (w := w) hh s.heap.objs.size a hne items.toArray) fun i v s Q E st q => letGo_tupleiter st.1 q
  rw [List.size_toArray] at W
  refine loopK (s := { s with heap := s.heap.push { cls := .type "tuple_iterator", data := .fields #[.ref a, .int 0 0] } }) W ?_ ?_ ?_ ?_ ?_ ⟨⟨_, Heap.get?_push_size _ rfl, rfl, rfl⟩, hls.at fun o e => Heap.get?_push_of_some _ e⟩ (F.push _) (fun p hp => ⟨Heap.get?_push_of_some _ (N p hp).1, (N p hp).2⟩) J h0 ?_ fin
  · intro hm; exact absurd hLs ((List.mem_singleton.mp hm) ▸ Nat.lt_irrefl _)
  · intro b hb
    rcases List.mem_cons.mp hb with rfl | hb
    · exact .inl (.head _)
    · rw [List.mem_singleton.mp hb]; exact .inr ⟨oa, hoa⟩
  · intro b hb; rw [List.mem_singleton.mp hb]; exact next_is_new F
  · intro i h st b hb
    obtain ⟨o, ho, _⟩ := st.1
    rw [List.mem_singleton.mp hb]; exact ⟨o, ho⟩
  · intro p hp hm; exact absurd (Heap.lt_size (N p hp).1) ((List.mem_singleton.mp hm) ▸ Nat.lt_irrefl _)
  · intro i v m₁ news₁ h₁ tk₁ own hi hP hJ hown hoff F₁ N₁
    obtain ⟨⟨I, oI⟩, rfl⟩ : ∃ p, own = [p] := by
      cases own with
      | nil => cases hown
      | cons p r => cases r with
        | nil => exact ⟨p, rfl⟩
        | cons q r => simp at hown
    have hI : I = s.heap.objs.size := by simpa using hown
    subst hI
    exact step i v m₁ news₁ h₁ tk₁ _ oI (by simpa using hP) hJ (fun p hp e => hoff p hp (by rw [e]; exact .head _)) F₁ N₁

theorem For_enumT {elts : List Expr} {k : Nat} {pos : Pos} {a : Addr} {items : List Value} {m : Str → Option Value} {news : List (Addr × Obj)} (hh : A.handled = none) (F : Fr h₀ env.locals s.heap m) (N : News h₀ env.locals s.heap news) (hl : h₀.IsTuple a items.toArray)
    (J : Nat → (Str → Option Value) → List (Addr × Obj) → Prop) (h0 : J 0 m news)
    (step : ∀ i x m₁ news₁ h₁ tk₁ e it oE oI T t, items[i]? = some x → J i m₁ news₁ → (∀ p ∈ news₁, p.1 ≠ e ∧ p.1 ≠ it) → e ≠ it → IsTup h₁ T #[.int i t, x] → Fr h₀ env.locals h₁ m₁ → News h₀ env.locals h₁ ((e, oE) :: (it, oI) :: news₁) →
      wpAny (model prog w) A (assign (.Tuple elts k pos) env (.ref T)) (fun _ s₂ => wpAny (model prog w) A (execs body env) (PostK h₀ env.locals [(e, oE), (it, oI)] (J (i + 1)) { s with heap := h₁, toks := tk₁ } Q) (fun _ _ => False) s₂) (fun _ _ => False) { s with heap := h₁, toks := tk₁ })
    (fin : ∀ h' tk m' news', Fr h₀ env.locals h' m' → News h₀ env.locals h' news' → J items.length m' news' → wpAny (model prog w) A (execs orelse env) Q (fun _ _ => False) { s with heap := h', toks := tk }) :
    wpAny (model prog w) A (call (.type "enumerate") [.ref a]) (fun xv s₁ => wpAny (model prog w) A (pyIter xv) (fun it s₂ => codeAny (model prog w) A (.forLoop (.Tuple elts k pos) it body orelse env) (fun r s' => match r with | .ok f => Q f s' | .error e => cameBackBy (model prog w) A env (fun _ _ => False) e s') s₂) (fun _ _ => False) s₁) (fun _ _ => False) s := by
  obtain ⟨oa, hoa, _⟩ := id hl
  have hls : s.heap.IsTuple a items.toArray := hl.at fun o e => F.keep a o e
  have hlt : a < s.heap.objs.size := Heap.lt_size (F.keep _ _ hoa)
  have hLs : env.locals < s.heap.objs.size := F.ns.lt
  refine call_enumT hls fun h' hE hI hk => ?_
  refine wpAny_pyIter_enum hE ?_
  have hei : s.heap.objs.size + 1 ≠ s.heap.objs.size := Nat.succ_ne_self _
  have W := KTurns.ofWalksU (elts := elts) (k := k) (pos := pos) (WalksT.enumerateD (drawsT (prog := prog) (w := w) (A := A.in1) hh s.heap.objs.size a (Nat.ne_of_lt hlt) items.toArray) (s.heap.objs.size + 1) hei
    (by intro hm; rcases List.mem_cons.mp hm with e | hm
        · exact hei e
        · exact ne1 hlt (List.mem_singleton.mp hm).symm) (.head _)).toU
  rw [List.size_toArray] at W
  refine loopK (s := { s with heap := h' }) W ?_ ?_ ?_ ?_ ?_ ⟨⟨_, hE⟩, hI, hls.at fun o e => hk a o e⟩ (F.keeps hk) (fun p hp => ⟨hk _ _ (N p hp).1, (N p hp).2⟩) J h0 ?_ fin
  · intro hm
    rcases List.mem_cons.mp hm with e | hm
    · exact ne1 hLs e
    · exact ne0 hLs (List.mem_singleton.mp hm)
  · intro b hb
    rcases List.mem_cons.mp hb with rfl | hb
    · exact .inl (.head _)
    · rcases List.mem_cons.mp hb with rfl | hb
      · exact .inl (.tail _ (.head _))
      · rw [List.mem_singleton.mp hb]; exact .inr ⟨oa, hoa⟩
  · intro b hb
    have hb' : s.heap.objs.size ≤ b := by
      rcases List.mem_cons.mp hb with e | hb
      · exact le1 e
      · exact le0 (List.mem_singleton.mp hb)
    cases q : h₀.get? b with
    | none => rfl
    | some o => exact absurd (Heap.lt_size (F.keep _ _ q)) (Nat.not_lt.mpr hb')
  · intro i h st b hb
    obtain ⟨⟨old, he⟩, ⟨o, ho, _⟩, _⟩ := st
    rcases List.mem_cons.mp hb with rfl | hb
    · exact ⟨_, he⟩
    · rw [List.mem_singleton.mp hb]; exact ⟨o, ho⟩
  · intro p hp hm
    have hp' := Heap.lt_size (N p hp).1
    rcases List.mem_cons.mp hm with e | hm
    · exact ne1 hp' e
    · exact ne0 hp' (List.mem_singleton.mp hm)
  · rintro i v m₁ news₁ h₁ tk₁ own hi ⟨T, vals, rfl, ⟨t, x, hx, rfl⟩, hT⟩ hJ hown hoff F₁ N₁
    obtain ⟨⟨e, oE⟩, ⟨it, oI⟩, rfl⟩ : ∃ p q, own = [p, q] := by
      cases own with
      | nil => cases hown
      | cons p r => cases r with
        | nil => simp at hown
        | cons q r => cases r with
          | nil => exact ⟨p, q, rfl⟩
          | cons _ _ => simp at hown
    have hI : e = s.heap.objs.size + 1 ∧ it = s.heap.objs.size := by simpa using hown
    obtain ⟨rfl, rfl⟩ := hI
    exact step i x m₁ news₁ h₁ tk₁ _ _ oE oI T t (by simpa using hx) hJ (fun p hp => ⟨fun e => hoff p hp (by rw [e]; exact .head _), fun e => hoff p hp (by rw [e]; exact .tail _ (.head _))⟩) hei hT F₁ N₁
end
end Mine
local macro_rules | `(tactic| walk_at "call builtin:list.append") => `(tactic| (k_dflt (refine' append_vals (by k_asm) (by k_asm) (by k_upd) (by assumption) ?_; k_whole); intros; (try k_sweep)))
namespace Mine
set_option maxRecDepth 100000
set_option maxHeartbeats 8000000 in
theorem c_ifmt (w : World) (mean : ExcName → Option Value) (mg mb : Str → Option Value) (mode : Int) (t : Tok) : Ctr w mean mg mb 136 [.int mode t] 1 8 (RetInt (Builtin.bitAnd mode 61440)) := by
  intro dp un gd cn cs a ccd cl outer A₀ base h₀ L m s Q E B F X T hk hd hu Z
  w_top off
  walk_at "mine enter"
  k_steps
  exact ⟨rfl⟩
end Mine
local macro_rules | `(tactic| walk_at "mine con") => `(tactic| exact con_int (c_ifmt _ _ _ _ _ _))
namespace Mine
local macro_rules | `(tactic| walk_at "mine forT") => `(tactic| (k_here; (refine PySem.wpAny_For ?_ ?hs0; (case hs0 => (intro x9; with_unfolding_all rfl)))))
local macro_rules | `(tactic| walk_at "exec For Tuple Call") => `(tactic| walk_at "mine forT")
local macro_rules | `(tactic| walk_at "exec For Tuple Name") => `(tactic| walk_at "mine forT")
local macro_rules | `(tactic| walk_at "PostK") => `(tactic| (dsimp only [PostK]))
set_option maxRecDepth 100000
/-! the tables of filemode, as they lie in the base heap -/
inductive PairsIn (h : Heap) : List Value → List (Int × Str) → Prop
  | nil : PairsIn h [] []
  | cons {p : Addr} {tb tc : Tok} {b : Int} {c : Str} {vs : List Value} {xs : List (Int × Str)} : h.IsTuple p #[.int b tb, .str c tc] → PairsIn h vs xs → PairsIn h (.ref p :: vs) ((b, c) :: xs)
theorem PairsIn.get {h : Heap} {vs : List Value} {xs : List (Int × Str)} (H : PairsIn h vs xs) : ∀ {i : Nat} {v : Value}, vs[i]? = some v → ∃ p b c tb tc, v = .ref p ∧ xs[i]? = some (b, c) ∧ h.IsTuple p #[.int b tb, .str c tc] := by
  induction H with
  | nil => intro i v e; simp at e
  | cons hp _ ih =>
    intro i v e
    cases i with
    | zero => simp at e; subst e; exact ⟨_, _, _, _, _, rfl, rfl, hp⟩
    | succ i => simp at e; obtain ⟨p, b, c, tb, tc, h1, h2, h3⟩ := ih e; exact ⟨p, b, c, tb, tc, h1, by simpa using h2, h3⟩
theorem PairsIn.length {h : Heap} {vs : List Value} {xs : List (Int × Str)} (H : PairsIn h vs xs) : vs.length = xs.length := by
  induction H with
  | nil => rfl
  | cons _ _ ih => simp [ih]
inductive TabsIn (h : Heap) : List Value → List (List (Int × Str)) → Prop
  | nil : TabsIn h [] []
  | cons {a : Addr} {vs : List Value} {xs : List (Int × Str)} {vss : List Value} {xss : List (List (Int × Str))} : h.IsTuple a vs.toArray → PairsIn h vs xs → TabsIn h vss xss → TabsIn h (.ref a :: vss) (xs :: xss)
theorem TabsIn.get {h : Heap} {vss : List Value} {xss : List (List (Int × Str))} (H : TabsIn h vss xss) : ∀ {i : Nat} {v : Value}, vss[i]? = some v → ∃ a vs xs, v = .ref a ∧ xss[i]? = some xs ∧ h.IsTuple a vs.toArray ∧ PairsIn h vs xs := by
  induction H with
  | nil => intro i v e; simp at e
  | cons h1 h2 _ ih =>
    intro i v e
    cases i with
    | zero => simp at e; subst e; exact ⟨_, _, _, rfl, rfl, h1, h2⟩
    | succ i => simp at e; obtain ⟨a, vs, xs, g1, g2, g3, g4⟩ := ih e; exact ⟨a, vs, xs, g1, by simpa using g2, g3, g4⟩
noncomputable def tabs : List (List (Int × Str)) := [[(40960, Str.ofString "l"), (49152, Str.ofString "s"), (32768, Str.ofString "-"), (24576, Str.ofString "b"), (16384, Str.ofString "d"), (8192, Str.ofString "c"), (4096, Str.ofString "p")],
  [(256, Str.ofString "r")], [(128, Str.ofString "w")], [(2112, Str.ofString "s"), (2048, Str.ofString "S"), (64, Str.ofString "x")],
  [(32, Str.ofString "r")], [(16, Str.ofString "w")], [(1032, Str.ofString "s"), (1024, Str.ofString "S"), (8, Str.ofString "x")],
  [(4, Str.ofString "r")], [(2, Str.ofString "w")], [(513, Str.ofString "t"), (512, Str.ofString "T"), (1, Str.ofString "x")]]
theorem tup_at {K : Frag} {h : Heap} {a : Addr} {its : Array Value} {n : Nat} (X : K.In h) (e : K.lookup a = some { cls := .type "tuple", data := .seq its n }) : h.IsTuple a its := ⟨_, X _ _ e, rfl, n, rfl⟩
theorem tup_atL {K : Frag} {h : Heap} {a : Addr} {its : List Value} {n : Nat} (X : K.In h) (e : K.lookup a = some { cls := .type "tuple", data := .seq its.toArray n }) : h.IsTuple a its.toArray := ⟨_, X _ _ e, rfl, n, rfl⟩
noncomputable def rows : List Value := [.ref 144, .ref 146, .ref 148, .ref 152, .ref 154, .ref 156, .ref 160, .ref 162, .ref 164, .ref 168]
theorem rows_in {P : Params} {h : Heap} (X : (Mine.hd.heap_39 P).In h) : h.IsTuple 169 rows.toArray := tup_at X (by k_is)
theorem tabs_in {P : Params} {h : Heap} (X : (Mine.hd.heap_39 P).In h) : TabsIn h rows tabs :=
  .cons (tup_atL (its := [.ref 137, .ref 138, .ref 139, .ref 140, .ref 141, .ref 142, .ref 143]) X (by k_is)) (.cons (tup_at X (by k_is)) (.cons (tup_at X (by k_is)) (.cons (tup_at X (by k_is)) (.cons (tup_at X (by k_is)) (.cons (tup_at X (by k_is)) (.cons (tup_at X (by k_is)) (.cons (tup_at X (by k_is)) .nil))))))) <|
  .cons (tup_atL (its := [.ref 145]) X (by k_is)) (.cons (tup_at X (by k_is)) .nil) <|
  .cons (tup_atL (its := [.ref 147]) X (by k_is)) (.cons (tup_at X (by k_is)) .nil) <|
  .cons (tup_atL (its := [.ref 149, .ref 150, .ref 151]) X (by k_is)) (.cons (tup_at X (by k_is)) (.cons (tup_at X (by k_is)) (.cons (tup_at X (by k_is)) .nil))) <|
  .cons (tup_atL (its := [.ref 153]) X (by k_is)) (.cons (tup_at X (by k_is)) .nil) <|
  .cons (tup_atL (its := [.ref 155]) X (by k_is)) (.cons (tup_at X (by k_is)) .nil) <|
  .cons (tup_atL (its := [.ref 157, .ref 158, .ref 159]) X (by k_is)) (.cons (tup_at X (by k_is)) (.cons (tup_at X (by k_is)) (.cons (tup_at X (by k_is)) .nil))) <|
  .cons (tup_atL (its := [.ref 161]) X (by k_is)) (.cons (tup_at X (by k_is)) .nil) <|
  .cons (tup_atL (its := [.ref 163]) X (by k_is)) (.cons (tup_at X (by k_is)) .nil) <|
  .cons (tup_atL (its := [.ref 165, .ref 166, .ref 167]) X (by k_is)) (.cons (tup_at X (by k_is)) (.cons (tup_at X (by k_is)) (.cons (tup_at X (by k_is)) .nil))) .nil

/-! what filemode picks -/
noncomputable def test (mode : Int) (i : Nat) (b : Int) : Bool := if i = 0 then Builtin.bitAnd mode 61440 == b else Builtin.bitAnd mode b == b
noncomputable def pick (mode : Int) (i : Nat) : List (Int × Str) → Str
  | [] => if i = 0 then Str.ofString "?" else Str.ofString "-"
  | (b, c) :: r => if test mode i b = true then c else pick mode i r
noncomputable def picksFrom (mode : Int) : Nat → List (List (Int × Str)) → List Str
  | _, [] => []
  | i, x :: r => pick mode i x :: picksFrom mode (i + 1) r
noncomputable def picks (mode : Int) : List Str := picksFrom mode 0 tabs
theorem picksFrom_get (mode : Int) : ∀ (xss : List (List (Int × Str))) (k i : Nat) {xs : List (Int × Str)}, xss[i]? = some xs → (picksFrom mode k xss)[i]? = some (pick mode (k + i) xs)
  | [], _, _, _, h => by simp at h
  | x :: r, k, 0, xs, h => by simp at h; subst h; simp [picksFrom]
  | x :: r, k, i + 1, xs, h => by
    simp at h
    have := picksFrom_get mode r (k + 1) i h
    simp [picksFrom, this]
    congr 1; omega
theorem picks_get {mode : Int} {i : Nat} {xs : List (Int × Str)} (h : tabs[i]? = some xs) : (picks mode)[i]? = some (pick mode i xs) := by
  have := picksFrom_get mode tabs 0 i h
  rw [Nat.zero_add] at this
  exact this
theorem pick_miss {mode : Int} {i : Nat} : ∀ {xs : List (Int × Str)} {j : Nat} {b : Int} {c : Str}, (∀ (k : Nat) (b : Int) (c : Str), k < j → xs[k]? = some (b, c) → test mode i b = false) → xs[j]? = some (b, c) → test mode i b = true → pick mode i xs = c
  | [], _, _, _, _, h, _ => by simp at h
  | (b', c') :: r, 0, b, c, _, h, ht => by
    simp at h
    obtain ⟨rfl, rfl⟩ := h
    unfold pick; rw [if_pos ht]
  | (b', c') :: r, j + 1, b, c, hm, h, ht => by
    simp at h
    unfold pick
    rw [if_neg (by rw [hm 0 b' c' (by omega) rfl]; decide)]
    exact pick_miss (fun k b c hk hx => hm (k + 1) b c (by omega) (by simpa using hx)) h ht
theorem pick_none {mode : Int} {i : Nat} : ∀ {xs : List (Int × Str)}, (∀ (k : Nat) (b : Int) (c : Str), xs[k]? = some (b, c) → test mode i b = false) → pick mode i xs = if i = 0 then Str.ofString "?" else Str.ofString "-"
  | [], _ => rfl
  | (b', c') :: r, hm => by
    unfold pick
    rw [if_neg (by rw [hm 0 b' c' rfl]; decide)]
    exact pick_none fun k b c hx => hm (k + 1) b c (by simpa using hx)
noncomputable def fmNames : List Str := [Str.ofString "index", Str.ofString "table", Str.ofString "bit", Str.ofString "char"]
noncomputable def fmNames2 : List Str := [Str.ofString "bit", Str.ofString "char"]
/-- between the turns of the outer loop -/
def JF (aP : Addr) (m₀ : Str → Option Value) (mode : Int) (i : Nat) (m : Str → Option Value) (nx : List (Addr × Obj)) : Prop :=
  ∃ (c : List (Str × Tok)) (n : Nat), nx = [(aP, PySem.W.listOf (strValues c).toArray n)] ∧ (∀ z, fmNames.contains z = false → m z = m₀ z) ∧ c.map (·.1) = (picks mode).take i
/-- between the turns of the inner loop -/
def JI (L0 : List (Addr × Obj)) (m₀ : Str → Option Value) (mode : Int) (i : Nat) (xs : List (Int × Str)) (j : Nat) (m : Str → Option Value) (nx : List (Addr × Obj)) : Prop :=
  nx = L0 ∧ (∀ z, fmNames2.contains z = false → m z = m₀ z) ∧ (∀ k b c, k < j → xs[k]? = some (b, c) → test mode i b = false)
theorem map_in {names : List Str} {m m₀ : Str → Option Value} (h : ∀ z, names.contains z = false → m z = m₀ z) : m = fun z => if names.contains z then m z else m₀ z := by
  funext z
  cases e : names.contains z with
  | true => simp
  | false => simp [h z e]
section
variable {h₀ h' : Heap} {L e it aP I2 : Addr} {oE oI oI2 : Obj} {m' m₀ : Str → Option Value} {mode : Int} {i j : Nat} {s₁ : Shared} {tk n : Nat} {c : List (Str × Tok)} {xs : List (Int × Str)} {L0 : List (Addr × Obj)} {b : Int} {ch : Str} {tc : Tok}
theorem endO0 (F : Fr h₀ L h' m') (N : News h₀ L h' [(e, oE), (it, oI), (aP, PySem.W.listOf (strValues c).toArray n)]) (q1 : aP ≠ e) (q2 : aP ≠ it) (hm : ∀ z, fmNames.contains z = false → m' z = m₀ z) (hc : c.map (·.1) = (picks mode).take (i + 1)) :
    EndK h₀ L [(e, oE), (it, oI)] (JF aP m₀ mode (i + 1)) s₁ { s₁ with heap := h', toks := tk } := by
  refine ⟨h', tk, m', [(aP, PySem.W.listOf (strValues c).toArray n)], rfl, F, N, ?_, c, n, rfl, hm, hc⟩
  intro p hp
  rw [List.mem_singleton.mp hp]
  simp only [List.map_cons, List.map_nil, List.mem_cons, List.not_mem_nil, or_false, not_or]
  exact ⟨q1, q2⟩
theorem endO (F : Fr h₀ L h' m') (N : News h₀ L h' [(I2, oI2), (e, oE), (it, oI), (aP, PySem.W.listOf (strValues c).toArray n)]) (q1 : aP ≠ e) (q2 : aP ≠ it) (hm : ∀ z, fmNames.contains z = false → m' z = m₀ z) (hc : c.map (·.1) = (picks mode).take (i + 1)) :
    EndK h₀ L [(e, oE), (it, oI)] (JF aP m₀ mode (i + 1)) s₁ { s₁ with heap := h', toks := tk } := endO0 F (fun p hp => N p (.tail _ hp)) q1 q2 hm hc
theorem endI (F : Fr h₀ L h' m') (N : News h₀ L h' ((I2, oI2) :: L0)) (hoff : ∀ p ∈ L0, p.1 ≠ I2) (hm : ∀ z, fmNames2.contains z = false → m' z = m₀ z) (hmiss : ∀ (k : Nat) (b : Int) (c : Str), k < j → xs[k]? = some (b, c) → test mode i b = false) (hxj : xs[j]? = some (b, ch)) (ht : test mode i b = false) :
    EndK h₀ L [(I2, oI2)] (JI L0 m₀ mode i xs (j + 1)) s₁ { s₁ with heap := h', toks := tk } := by
  refine ⟨h', tk, m', L0, rfl, F, N, fun p hp => ?_, rfl, hm, fun k b' c' hk hx => ?_⟩
  · simp only [List.map_cons, List.map_nil, List.mem_cons, List.not_mem_nil, or_false]
    exact hoff p hp
  · rcases Nat.lt_or_ge k j with h | h
    · exact hmiss k b' c' h hx
    · have : k = j := by omega
      subst this
      rw [hxj] at hx
      obtain ⟨rfl, rfl⟩ := Prod.mk.inj (Option.some.inj hx)
      exact ht
theorem test_t0 (h0 : (i : Int) = 0) (h : Builtin.bitAnd mode 61440 = b) : test mode i b = true := by
  unfold test; rw [if_pos (by omega)]; simpa using h
theorem test_f0 (h0 : (i : Int) = 0) (h : Builtin.bitAnd mode 61440 ≠ b) : test mode i b = false := by
  unfold test; rw [if_pos (by omega)]; simpa using h
theorem test_t1 (h0 : (i : Int) ≠ 0) (h : Builtin.bitAnd mode b = b) : test mode i b = true := by
  unfold test; rw [if_neg (by omega)]; simpa using h
theorem test_f1 (h0 : (i : Int) ≠ 0) (h : Builtin.bitAnd mode b ≠ b) : test mode i b = false := by
  unfold test; rw [if_neg (by omega)]; simpa using h
theorem picks_hit (hc : c.map (·.1) = (picks mode).take i) (hxs : tabs[i]? = some xs) (hmiss : ∀ (k : Nat) (b : Int) (c : Str), k < j → xs[k]? = some (b, c) → test mode i b = false) (hxj : xs[j]? = some (b, ch)) (ht : test mode i b = true) :
    (c ++ [(ch, tc)]).map (·.1) = (picks mode).take (i + 1) := by
  rw [List.take_add_one, picks_get hxs, pick_miss hmiss hxj ht, List.map_append, hc]
  rfl
theorem picks_out (hc : c.map (·.1) = (picks mode).take i) (hxs : tabs[i]? = some xs) (hmiss : ∀ (k : Nat) (b : Int) (c : Str), k < xs.length → xs[k]? = some (b, c) → test mode i b = false) (hch : ch = if i = 0 then Str.ofString "?" else Str.ofString "-") :
    (c ++ [(ch, tc)]).map (·.1) = (picks mode).take (i + 1) := by
  rw [List.take_add_one, picks_get hxs, pick_none (fun k b c hx => hmiss k b c (List.getElem?_eq_some_iff.mp hx).1 hx), List.map_append, hc, hch]
  rfl
end
theorem out0 {i : Nat} (h : (i : Int) = 0) : Str.ofString "?" = if i = 0 then Str.ofString "?" else Str.ofString "-" := (if_pos (by omega)).symm
theorem out1 {i : Nat} (h : (i : Int) ≠ 0) : Str.ofString "-" = if i = 0 then Str.ofString "?" else Str.ofString "-" := (if_neg (by omega)).symm
theorem pick_len {mode : Int} {i : Nat} : ∀ {xs : List (Int × Str)}, (∀ q ∈ xs, q.2.length ≤ 1) → (pick mode i xs).length ≤ 1
  | [], _ => by
    unfold pick
    split <;> decide +kernel
  | (b, c) :: r, h => by
    unfold pick
    split
    · exact h (b, c) (.head _)
    · exact pick_len fun q hq => h q (.tail _ hq)
theorem picksFrom_len {mode : Int} : ∀ {xss : List (List (Int × Str))} {i : Nat}, (∀ xs ∈ xss, ∀ q ∈ xs, q.2.length ≤ 1) → ∀ z ∈ picksFrom mode i xss, z.length ≤ 1
  | [], _, _, _, hz => by simp [picksFrom] at hz
  | x :: r, i, h, z, hz => by
    rcases List.mem_cons.mp hz with rfl | hz
    · exact pick_len (h x (.head _))
    · exact picksFrom_len (fun y hy => h y (.tail _ hy)) z hz
theorem tabs_len : ∀ xs ∈ tabs, ∀ q ∈ xs, q.2.length ≤ 1 := by decide +kernel
theorem picks_len (mode : Int) : (picks mode).length = 10 := rfl
theorem picks_sum (mode : Int) : ((picks mode).map (·.length)).sum ≤ 10 := by
  have := StrLaws.sumLen_le (B := 1) (picks mode) (picksFrom_len tabs_len)
  rw [picks_len] at this
  exact this
local macro_rules | `(tactic| walk_at "mine same") => `(tactic| (intro z9 hz9; (simp only [fmNames, fmNames2, List.contains_cons, List.contains_nil, Bool.or_false, Bool.or_eq_false_iff, beq_eq_false_iff_ne, ne_eq] at hz9); (simp [hz9, fmNames, fmNames2])))
set_option maxHeartbeats 8000000 in
theorem c_filemode (w : World) (mean : ExcName → Option Value) (mg mb : Str → Option Value) (mode : Int) (t : Tok) : Ctr w mean mg mb 176 [.int mode t] 2 16 (RetStr (Txt.join (Str.ofString "") (picks mode))) := by
  intro dp un gd cn cs a ccd cl outer A₀ base h₀ L m s Q E B F X T hk hd hu Z
  w_top off
  walk_at "mine enter"
  refine wpAny_noRaise ?_
  k_steps
  rename Frag.In _ _ => X9
  rename Fr _ _ _ _ => F9
  rename News _ _ _ _ => N9
  have hrows := rows_in X9
  have htabs := tabs_in X9
  refine For_enumT rfl F9 N9 hrows (JF _ _ mode) ⟨[], 0, rfl, fun _ _ => rfl, rfl⟩ ?step ?fin
  case step =>
    rintro i x m₁ news₁ h₁ tk₁ e it oE oI T t' hx ⟨c, n, rfl, hm, hc⟩ hoff hei hT F' N'
    obtain ⟨at', vs, xs, rfl, hxs, hta, hps⟩ := htabs.get hx
    (try clear F9 N9)
    obtain ⟨q1, q2⟩ := hoff _ (.head _)
    have q1' := neN q1
    have q2' := neN q2
    have q3' := neN hei
    rw [map_in hm] at F'
    dsimp only [fmNames] at F'
    have hMk9 := kstMark
    have hlen : c.length ≤ 4096 := by
      have h1 := congrArg List.length hc
      have h2 : ((picks mode).take i).length ≤ 10 := by
        rw [List.length_take]
        have : (picks mode).length = 10 := rfl
        omega
      simp only [List.length_map] at h1
      omega
    k_steps
    rename Fr _ _ _ _ => F8
    rename News _ _ _ _ => N8
    refine For_tup rfl F8 N8 hta (JI _ _ mode i xs) ⟨rfl, fun _ _ => rfl, fun _ _ _ h => absurd h (Nat.not_lt_zero _)⟩ ?istep ?ifin
    case istep =>
      rintro j v m₂ news₂ h₂ tk₂ I2 oI2 hv ⟨rfl, hm2, hmiss⟩ hoff2 F'' N''
      obtain ⟨p, b, ch, tb, tc, rfl, hxj, htp⟩ := hps.get hv
      have hT2 : IsTup h₂ p #[.int b tb, .str ch tc] := by
        obtain ⟨o, ho, r⟩ := htp
        exact ⟨o, F''.keep _ _ ho, r⟩
      (try clear F8 N8)
      have r1 := neN (hoff2 _ (.head _))
      have r2 := neN (hoff2 _ (.tail _ (.head _)))
      have r3 := neN (hoff2 _ (.tail _ (.tail _ (.head _))))
      dsimp only at r1 r2 r3
      rw [map_in hm2] at F''
      dsimp only [fmNames2] at F''
      k_steps
      · exact endO (by assumption) (by assumption) q1 q2 (by walk_at "mine same") (picks_hit hc hxs hmiss hxj (test_t0 (by assumption) (by assumption)))
      · exact endI (by assumption) (by assumption) hoff2 (by walk_at "mine same") hmiss hxj (test_f0 (by assumption) (by assumption))
      · exact endO (by assumption) (by assumption) q1 q2 (by walk_at "mine same") (picks_hit hc hxs hmiss hxj (test_t1 (by assumption) (by assumption)))
      · exact endI (by assumption) (by assumption) hoff2 (by walk_at "mine same") hmiss hxj (test_f1 (by assumption) (by assumption))
    case ifin =>
      rintro h₂ tk₂ m₂ news₂ F'' N'' ⟨rfl, hm2, hmiss⟩
      (try clear F8 N8)
      rw [hps.length] at hmiss
      rw [map_in hm2] at F''
      dsimp only [fmNames2] at F''
      k_steps
      · exact endO0 (by assumption) (by assumption) q1 q2 (by walk_at "mine same") (picks_out hc hxs hmiss (out0 (by assumption)))
      · exact endO0 (by assumption) (by assumption) q1 q2 (by walk_at "mine same") (picks_out hc hxs hmiss (out1 (by assumption)))
  case fin =>
    rintro h₂ tk₂ m₂ news₂ F'' N'' ⟨c, n, rfl, hm, hc⟩
    (try clear F9 N9)
    rw [map_in hm] at F''
    dsimp only [fmNames] at F''
    have hMk9 := kstMark
    have hys : c.map (·.1) = picks mode := hc
    have hJ : ((picks mode).map (·.length)).sum + (picks mode).length * (Str.ofString "").length ≤ 16777216 := by
      have h1 := picks_sum mode
      have h2 : (Str.ofString "").length = 0 := by decide +kernel
      rw [h2]; omega
    k_steps
    exact ⟨rfl⟩
end Mine
namespace Mine
set_option maxRecDepth 100000
theorem item_b {prog : Program} {w : World} {A : Around} {E : Value → Shared → Prop} {s : Shared} {value slice : PySem.Expr} {x : Str} {t u : Tok} {i : Int} {n : Nat} {Q : Value → Shared → Prop} (hk : x.length = n) (h0 : 0 ≤ i ∧ i < n) (hn : n ≤ 64)
    (h : (Txt.item x i).length = 1 → Q (.str (Txt.item x i) s.toks) { s with toks := s.toks + 1 })
    (hs : subscripted slice false (.str x t) (.int i u) = operate [.str x t, .int i u] (getItem (.str x t) (.int i u)))
    (ht : ∀ r, letTemporaryGo value (.str x t) r = pure ()) :
    wpAny (model prog w) A (subscriptTail value slice (.str x t) (.int i u)) Q E s :=
  KXi.item hk (by omega) h0.2 (by omega) h hs ht
theorem it2 (a : Int) : 0 ≤ Int.fmod a 2 ∧ Int.fmod a 2 < ((2 : Nat) : Int) := by
  rw [Int.fmod_eq_emod_of_nonneg _ (by decide)]; omega
theorem it16 (a : Int) : 0 ≤ Int.fmod a 16 ∧ Int.fmod a 16 < ((16 : Nat) : Int) := by
  rw [Int.fmod_eq_emod_of_nonneg _ (by decide)]; omega
theorem it84 (a : Int) : 0 ≤ Int.fdiv (Int.fmod a 8) 4 ∧ Int.fdiv (Int.fmod a 8) 4 < ((2 : Nat) : Int) := by
  rw [Int.fmod_eq_emod_of_nonneg _ (by decide), Int.fdiv_eq_ediv_of_nonneg _ (by decide)]; omega
theorem it4 (a b : Int) : 0 ≤ Int.fmod a 2 + 2 * Int.fmod b 2 ∧ Int.fmod a 2 + 2 * Int.fmod b 2 < ((4 : Nat) : Int) := by
  have h1 := it2 a
  have h2 := it2 b
  omega
local macro_rules | `(tactic| walk_at "subscriptTail") => `(tactic| (refine item_b (by kxi_len) (by first | exact it2 _ | exact it4 _ _ | exact it84 _ | exact it16 _) (by decide) ?_ (by with_unfolding_all rfl) (by intro _; with_unfolding_all rfl); intros))
noncomputable def tc (v : Int) : Nat := (Txt.charAt (Str.ofString "?pc?d?b?-?l?s???") v).getD 0
noncomputable def rc (v : Int) : Nat := (Txt.charAt (Str.ofString "-r") v).getD 0
noncomputable def wc (v : Int) : Nat := (Txt.charAt (Str.ofString "-w") v).getD 0
noncomputable def xc (v : Int) : Nat := (Txt.charAt (Str.ofString "-xSs") v).getD 0
noncomputable def xt (v : Int) : Nat := (Txt.charAt (Str.ofString "-xTt") v).getD 0
/-- the ten signs of a mode -/
noncomputable def sg (mode : Int) : List Nat := [tc (mode / 4096 % 16), rc (mode / 64 % 8 / 4), wc (mode / 64 % 8 / 2 % 2), xc (mode / 64 % 8 % 2 + 2 * (mode / 2048 % 2)),
  rc (mode / 8 % 8 / 4), wc (mode / 8 % 8 / 2 % 2), xc (mode / 8 % 8 % 2 + 2 * (mode / 1024 % 2)), rc (mode / 1 % 8 / 4), wc (mode / 1 % 8 / 2 % 2), xt (mode / 1 % 8 % 2 + 2 * (mode / 512 % 2))]
theorem item_tc (v : Int) : Txt.item (Str.ofString "?pc?d?b?-?l?s???") v = S [tc v] := rfl
theorem item_rc (v : Int) : Txt.item (Str.ofString "-r") v = S [rc v] := rfl
theorem item_wc (v : Int) : Txt.item (Str.ofString "-w") v = S [wc v] := rfl
theorem item_xc (v : Int) : Txt.item (Str.ofString "-xSs") v = S [xc v] := rfl
theorem item_xt (v : Int) : Txt.item (Str.ofString "-xTt") v = S [xt v] := rfl
theorem p8_0 : ((8 : Int) ^ ((2 : Int) - (0 + ((0 : Nat) : Int))).toNat) = 64 := by decide
theorem p8_1 : ((8 : Int) ^ ((2 : Int) - (0 + ((0 + 1 : Nat) : Int))).toNat) = 8 := by decide
theorem p8_2 : ((8 : Int) ^ ((2 : Int) - (0 + ((0 + 1 + 1 : Nat) : Int))).toNat) = 1 := by decide
theorem p2_0 : ((2 : Int) ^ ((11 : Int) - (0 + ((0 : Nat) : Int))).toNat) = 2048 := by decide
theorem p2_1 : ((2 : Int) ^ ((11 : Int) - (0 + ((0 + 1 : Nat) : Int))).toNat) = 1024 := by decide
theorem p2_2 : ((2 : Int) ^ ((11 : Int) - (0 + ((0 + 1 + 1 : Nat) : Int))).toNat) = 512 := by decide
set_option maxHeartbeats 8000000 in
theorem c_signs (w : World) (mean : ExcName → Option Value) (mg mb : Str → Option Value) (mode : Int) (t : Tok) : Ctr w mean mg mb 183 [.int mode t] 1 8 (RetStr (S (sg mode))) := by
  intro dp un gd cn cs a ccd cl outer A₀ base h₀ L m s Q E B F X T hk hd hu Z
  w_top off
  walk_at "mine enter"
  repeat' (first | (k_unfold; (try dsimp only)) | (k_end; wrow_close) | (dsimp only; walk1) | walk1 | (leave1; walk_say "STEP leave1"; try dsimp only) | fail "no step")
  refine ⟨?_⟩
  rw [p8_0, p8_1, p8_2, p2_0, p2_1, p2_2]
  simp (disch := decide) only [Int.fmod_eq_emod_of_nonneg, Int.fdiv_eq_ediv_of_nonneg]
  simp only [item_tc, item_rc, item_wc, item_xc, item_xt, S_append]
  rfl
end Mine
namespace Mine
set_option maxRecDepth 100000
/-! filemode's picks are the mode's signs -/
theorem band_two (x y : Int) : Builtin.bitAnd x (2 * y) = 2 * Builtin.bitAnd (x / 2) y := by
  rw [PySem.W.kbt_halves]
  have h1 : 2 * y / 2 = y := by omega
  have h2 : ¬ (x % 2 = 1 ∧ 2 * y % 2 = 1) := by omega
  rw [h1, if_neg h2]; omega
theorem band_pow (y : Int) : ∀ (k : Nat) (x b : Int), (2 : Int) ^ k = b → Builtin.bitAnd x (b * y) = b * Builtin.bitAnd (x / b) y
  | 0, x, b, e => by
    have e : b = 1 := e.symm
    subst e
    rw [Int.one_mul, Int.one_mul, Int.ediv_one]
  | k + 1, x, b, e => by
    rw [Int.pow_succ, Int.mul_comm] at e
    subst e
    rw [Int.mul_assoc, band_two, band_pow y k (x / 2) _ rfl, Int.mul_assoc, Int.ediv_ediv_of_nonneg (by decide)]
theorem band_bit (x : Int) (k : Nat) (b : Int) (e : (2 : Int) ^ k = b) : Builtin.bitAnd x b = b * (x / b % 2) := by
  subst e
  rw [PySem.W.kbt_bit, Int.mul_comm]
theorem odd_both (x b : Int) : (if x % 2 = 1 ∧ (2 * b + 1) % 2 = 1 then (1 : Int) else 0) = x % 2 := by
  have h : (2 * b + 1) % 2 = 1 := by omega
  rcases Int.emod_two_eq x with e | e
  · rw [if_neg (fun q => by rw [e] at q; exact absurd q.1 (by decide)), e]
  · rw [if_pos ⟨e, h⟩, e]
/-- two bits at once -/
theorem band_pair (x : Int) (k : Nat) (b : Int) (e : (2 : Int) ^ k = b) : Builtin.bitAnd x (2 * b + 1) = 2 * (b * (x / (2 * b) % 2)) + x % 2 := by
  have h : (2 * b + 1) / 2 = b := by omega
  rw [PySem.W.kbt_halves, h, odd_both, band_bit _ k b e, Int.ediv_ediv_of_nonneg (by decide)]
theorem b15 (x : Int) : Builtin.bitAnd x 61440 = 4096 * (x / 4096 % 16) := by
  have z := band_pow 15 12 x 4096 (by decide)
  rw [bitAnd_m4] at z
  exact z
theorem test_pos {mode : Int} {i : Nat} {b : Int} (hi : i ≠ 0) : test mode i b = (Builtin.bitAnd mode b == b) := if_neg hi
theorem pick_bit {mode : Int} {i : Nat} {b : Int} {c : Str} {v : Int} (hi : i ≠ 0) (k : Nat) (e : (2 : Int) ^ k = b) (hv : mode / b % 2 = v) (hb : 0 < b) : pick mode i [(b, c)] = if v = 1 then c else Str.ofString "-" := by
  have h1 : Builtin.bitAnd mode b = b * v := by rw [band_bit mode k b e, hv]
  have h2 : v = 0 ∨ v = 1 := by omega
  unfold pick
  rw [test_pos hi, h1]
  rcases h2 with rfl | rfl
  · have : (b * 0 == b) = false := by simp; omega
    rw [this]; simp [pick, hi]
  · simp
theorem mul_bit {b v : Int} (h0 : 0 < b) (hv : v = 0 ∨ v = 1) : (b * v == b) = (v == 1) := by
  rcases hv with rfl | rfl
  · rw [Int.mul_zero, beq_false_of_ne (Int.ne_of_lt h0)]; rfl
  · rw [Int.mul_one, beq_self_eq_true]; rfl
theorem two_bits {hb lb v u : Int} (h0 : 0 < lb) (h1 : 0 < hb) (hv : v = 0 ∨ v = 1) (hu : u = 0 ∨ u = 1) : (hb * v + lb * u == hb + lb) = (v == 1 && u == 1) := by
  rcases hv with rfl | rfl
  · rcases hu with rfl | rfl
    · rw [Int.mul_zero, Int.mul_zero, beq_false_of_ne (by omega)]; rfl
    · rw [Int.mul_zero, Int.mul_one, beq_false_of_ne (by omega)]; rfl
  · rcases hu with rfl | rfl
    · rw [Int.mul_zero, Int.mul_one, beq_false_of_ne (by omega)]; rfl
    · rw [Int.mul_one, Int.mul_one, beq_self_eq_true]; rfl
theorem pick_on {mode : Int} {i : Nat} {b : Int} {c : Str} {r : List (Int × Str)} {t : Bool} (h : test mode i b = t) : pick mode i ((b, c) :: r) = if t = true then c else pick mode i r := by rw [← h]; rfl
theorem pick_ex {mode : Int} {i : Nat} {hb lb : Int} {cs cS cx : Str} {v u : Int} (hi : i ≠ 0) (k1 k2 : Nat) (e1 : (2 : Int) ^ k1 = hb) (e2 : (2 : Int) ^ k2 = lb) (hv : mode / hb % 2 = v) (hu : mode / lb % 2 = u) (h0 : 0 < lb) (h1 : lb < hb)
    (hboth : Builtin.bitAnd mode (hb + lb) = hb * v + lb * u) :
    pick mode i [(hb + lb, cs), (hb, cS), (lb, cx)] = if v = 1 then (if u = 1 then cs else cS) else if u = 1 then cx else Str.ofString "-" := by
  have h2 := Int.lt_trans h0 h1
  have hv' : v = 0 ∨ v = 1 := by rw [← hv]; exact Int.emod_two_eq _
  have hu' : u = 0 ∨ u = 1 := by rw [← hu]; exact Int.emod_two_eq _
  rw [pick_on (((test_pos hi).trans (by rw [hboth])).trans (two_bits h0 h2 hv' hu')), pick_on (((test_pos hi).trans (by rw [band_bit mode k1 hb e1, hv])).trans (mul_bit h2 hv')),
    pick_on (((test_pos hi).trans (by rw [band_bit mode k2 lb e2, hu])).trans (mul_bit h0 hu')), show pick mode i [] = Str.ofString "-" from if_neg hi]
  rcases hv' with rfl | rfl <;> rcases hu' with rfl | rfl <;> rfl
theorem upto (n : Nat) {v : Int} (h0 : 0 ≤ v) (h1 : v < n) : ∃ i : Fin n, v = (i.val : Int) :=
  ⟨⟨v.toNat, by omega⟩, (Int.toNat_of_nonneg h0).symm⟩
noncomputable def typ (f : Int) : List (Int × Str) → Str
  | [] => Str.ofString "?"
  | (b, c) :: r => if f = b then c else typ f r
theorem pick_typ (mode : Int) : ∀ xs : List (Int × Str), pick mode 0 xs = typ (4096 * (mode / 4096 % 16)) xs
  | [] => rfl
  | (b, c) :: r => by
    unfold pick typ
    rw [pick_typ mode r]
    unfold test
    rw [if_pos rfl, b15]
    by_cases h : 4096 * (mode / 4096 % 16) = b
    · rw [if_pos h, if_pos (by simpa using h)]
    · rw [if_neg h, if_neg (by simpa using h)]
noncomputable def tab0 : List (Int × Str) := [(40960, Str.ofString "l"), (49152, Str.ofString "s"), (32768, Str.ofString "-"), (24576, Str.ofString "b"), (16384, Str.ofString "d"), (8192, Str.ofString "c"), (4096, Str.ofString "p")]
theorem typ_all : ∀ i : Fin 16, typ (4096 * (i.val : Int)) tab0 = one (tc (i.val : Int)) := by decide +kernel
theorem typ_tc {v : Int} (h0 : 0 ≤ v) (h1 : v < 16) : typ (4096 * v) tab0 = one (tc v) := by
  obtain ⟨i, rfl⟩ := upto 16 h0 h1
  exact typ_all i
theorem m16 (x : Int) : 0 ≤ x % 16 ∧ x % 16 < 16 := ⟨Int.emod_nonneg _ (by decide), Int.emod_lt_of_pos _ (by decide)⟩
theorem p0 (mode : Int) : pick mode 0 tab0 = one (tc (mode / 4096 % 16)) := by
  rw [pick_typ]; exact typ_tc (m16 _).1 (m16 _).2
theorem rc_is {v : Int} (h : v = 0 ∨ v = 1) : (if v = 1 then Str.ofString "r" else Str.ofString "-") = one (rc v) := by
  rcases h with rfl | rfl <;> decide +kernel
theorem wc_is {v : Int} (h : v = 0 ∨ v = 1) : (if v = 1 then Str.ofString "w" else Str.ofString "-") = one (wc v) := by
  rcases h with rfl | rfl <;> decide +kernel
theorem xc_is {v u : Int} (hv : v = 0 ∨ v = 1) (hu : u = 0 ∨ u = 1) : (if v = 1 then (if u = 1 then Str.ofString "s" else Str.ofString "S") else if u = 1 then Str.ofString "x" else Str.ofString "-") = one (xc (u + 2 * v)) := by
  rcases hv with rfl | rfl <;> rcases hu with rfl | rfl <;> decide +kernel
theorem xt_is {v u : Int} (hv : v = 0 ∨ v = 1) (hu : u = 0 ∨ u = 1) : (if v = 1 then (if u = 1 then Str.ofString "t" else Str.ofString "T") else if u = 1 then Str.ofString "x" else Str.ofString "-") = one (xt (u + 2 * v)) := by
  rcases hv with rfl | rfl <;> rcases hu with rfl | rfl <;> decide +kernel
theorem bit4 (y : Int) : y / 4 % 2 = y % 8 / 4 := by omega
theorem bit1 (y : Int) : y % 2 = y % 8 % 2 := (Int.emod_emod_of_dvd y (by decide)).symm
theorem bit2 (y : Int) : y / 2 % 2 = y % 8 / 2 % 2 := by
  have h : y % 8 / 2 = y / 2 % 4 := by omega
  rw [h]
  exact (Int.emod_emod_of_dvd _ (by decide)).symm
theorem two4 (y : Int) : y % 8 / 4 = 0 ∨ y % 8 / 4 = 1 := by rw [← bit4]; exact Int.emod_two_eq _
/-- r and w, of a figure that begins at q -/
theorem pick_r (mode : Int) {i : Nat} (hi : i ≠ 0) (q b : Int) (k : Nat) (e : (2 : Int) ^ k = b) (hq : q * 4 = b) (h0 : 0 < q) : pick mode i [(b, Str.ofString "r")] = one (rc (mode / q % 8 / 4)) := by
  have h : mode / b % 2 = mode / q % 8 / 4 := by rw [← bit4, Int.ediv_ediv_of_nonneg (Int.le_of_lt h0), hq]
  rw [pick_bit hi k e h (by omega)]; exact rc_is (two4 _)
theorem pick_w (mode : Int) {i : Nat} (hi : i ≠ 0) (q b : Int) (k : Nat) (e : (2 : Int) ^ k = b) (hq : q * 2 = b) (h0 : 0 < q) : pick mode i [(b, Str.ofString "w")] = one (wc (mode / q % 8 / 2 % 2)) := by
  have h : mode / b % 2 = mode / q % 8 / 2 % 2 := by rw [← bit2, Int.ediv_ediv_of_nonneg (Int.le_of_lt h0), hq]
  rw [pick_bit hi k e h (by omega)]; exact wc_is (Int.emod_two_eq _)
/-- the third place of a figure: q its bit, 2 * b * q the special one -/
theorem pick_x (mode : Int) {i : Nat} (hi : i ≠ 0) (k j n : Nat) (q b hb bo : Int) (cs cS cx : Str) (ek : (2 : Int) ^ k = q) (ej : (2 : Int) ^ j = b) (en : (2 : Int) ^ n = hb) (eb : q * (2 * b) = hb) (eo : hb + q = bo) (h0 : 0 < q) (hlt : q < hb) :
    pick mode i [(bo, cs), (hb, cS), (q, cx)] = if mode / hb % 2 = 1 then (if mode / q % 8 % 2 = 1 then cs else cS) else if mode / q % 8 % 2 = 1 then cx else Str.ofString "-" := by
  subst eo
  refine pick_ex hi n k en ek rfl (bit1 _) h0 hlt ?_
  have z := band_pow (2 * b + 1) k mode q ek
  rw [band_pair _ j b ej, Int.mul_add, Int.mul_one, eb, Int.ediv_ediv_of_nonneg (Int.le_of_lt h0), eb, Int.mul_add, ← Int.mul_assoc 2 b, ← Int.mul_assoc q, eb, bit1 (mode / q)] at z
  exact z
theorem p3 (mode : Int) : pick mode 3 [(2112, Str.ofString "s"), (2048, Str.ofString "S"), (64, Str.ofString "x")] = one (xc (mode / 64 % 8 % 2 + 2 * (mode / 2048 % 2))) :=
  (pick_x mode (by decide) 6 4 11 64 16 2048 2112 _ _ _ (by decide) (by decide) (by decide) (by decide) (by decide) (by decide) (by decide)).trans (xc_is (Int.emod_two_eq _) (Int.emod_two_eq _))
theorem p6 (mode : Int) : pick mode 6 [(1032, Str.ofString "s"), (1024, Str.ofString "S"), (8, Str.ofString "x")] = one (xc (mode / 8 % 8 % 2 + 2 * (mode / 1024 % 2))) :=
  (pick_x mode (by decide) 3 6 10 8 64 1024 1032 _ _ _ (by decide) (by decide) (by decide) (by decide) (by decide) (by decide) (by decide)).trans (xc_is (Int.emod_two_eq _) (Int.emod_two_eq _))
theorem p9 (mode : Int) : pick mode 9 [(513, Str.ofString "t"), (512, Str.ofString "T"), (1, Str.ofString "x")] = one (xt (mode / 1 % 8 % 2 + 2 * (mode / 512 % 2))) :=
  (pick_x mode (by decide) 0 8 9 1 256 512 513 _ _ _ (by decide) (by decide) (by decide) (by decide) (by decide) (by decide) (by decide)).trans (xt_is (Int.emod_two_eq _) (Int.emod_two_eq _))
theorem picks_sg (mode : Int) : picks mode = (sg mode).map one := by
  have h0 := p0 mode
  have h1 := pick_r mode (i := 1) (by decide) 64 256 8 (by decide) (by decide) (by decide)
  have h2 := pick_w mode (i := 2) (by decide) 64 128 7 (by decide) (by decide) (by decide)
  have h3 := p3 mode
  have h4 := pick_r mode (i := 4) (by decide) 8 32 5 (by decide) (by decide) (by decide)
  have h5 := pick_w mode (i := 5) (by decide) 8 16 4 (by decide) (by decide) (by decide)
  have h6 := p6 mode
  have h7 := pick_r mode (i := 7) (by decide) 1 4 2 (by decide) (by decide) (by decide)
  have h8 := pick_w mode (i := 8) (by decide) 1 2 1 (by decide) (by decide) (by decide)
  have h9 := p9 mode
  unfold tab0 at h0
  show [pick mode 0 _, pick mode 1 _, pick mode 2 _, pick mode 3 _, pick mode 4 _, pick mode 5 _, pick mode 6 _, pick mode 7 _, pick mode 8 _, pick mode 9 _] = _
  rw [h0, h1, h2, h3, h4, h5, h6, h7, h8, h9]
  rfl
theorem join_empty : ∀ l : List Nat, Str.join (Str.ofString "") (l.map one) = S l
  | [] => rfl
  | [c] => rfl
  | c :: d :: r => by
    have ih := join_empty (d :: r)
    show one c ++ Str.ofString "" ++ Str.join (Str.ofString "") ((d :: r).map one) = S (c :: d :: r)
    rw [ih, show Str.ofString "" = S [] from by decide +kernel]
    show S [c] ++ S [] ++ S (d :: r) = _
    rw [S_append, S_append]; rfl
theorem listing_is (mode : Int) : Txt.join (Str.ofString "") (picks mode) = S (sg mode) := by
  unfold Txt.join
  rw [StrLaws.glued_eq_join, picks_sg, join_empty]
theorem c_list (w : World) (mean : ExcName → Option Value) (mg mb : Str → Option Value) (mode : Int) (t : Tok) : Ctr w mean mg mb 176 [.int mode t] 2 16 (RetStr (S (sg mode))) := by
  have z := c_filemode w mean mg mb mode t
  rw [listing_is] at z
  exact z
theorem c_walkX (w : World) (mean : ExcName → Option Value) (mg mb : Str → Option Value) (r l : List Nat) (x : Str) (t u : Tok) (hx : S l = x) (hr : IsRoot r) (hs : ∀ c ∈ l, Sign c) (hne : l ≠ []) (hl : l.length ≤ 32) (hR1 : (S r).length ≤ 4096) :
    Ctr w mean mg mb 190 [.str x t, .str (S r) u] 4 48 (RetTup2 (S (endT r l)) (awayB l)) := by
  subst hx; exact c_walk w mean mg mb r l t u hr hs hne hl hR1
theorem c_endX (w : World) (mean : ExcName → Option Value) (mg mb : Str → Option Value) (r l : List Nat) (x : Str) (t u : Tok) (hx : S l = x) (hl : l.length ≤ 32) (hl2 : (S l).length ≤ 4096) (hR1 : (S r).length ≤ 4096) :
    Ctr w mean mg mb 197 [.str x t, .str (S r) u] 4 48 (RetStr (S (endT r l))) := by
  subst hx; exact c_end w mean mg mb r l t u hl hl2 hR1
/-! the signs: ten, no dot, no slash -/
noncomputable def okc (c : Nat) : Bool := c != 46 && c != 47
theorem sign_of {c : Nat} (h : okc c = true) : Sign c := by
  unfold okc at h
  simp at h
  exact h
theorem tc_all : ∀ i : Fin 16, okc (tc (i.val : Int)) = true := by decide +kernel
theorem tc_ok {v : Int} (h0 : 0 ≤ v) (h1 : v < 16) : okc (tc v) = true := by
  obtain ⟨i, rfl⟩ := upto 16 h0 h1
  exact tc_all i
theorem rc_ok {v : Int} (h : v = 0 ∨ v = 1) : okc (rc v) = true := by rcases h with rfl | rfl <;> decide +kernel
theorem wc_ok {v : Int} (h : v = 0 ∨ v = 1) : okc (wc v) = true := by rcases h with rfl | rfl <;> decide +kernel
theorem xc_ok {v u : Int} (hv : v = 0 ∨ v = 1) (hu : u = 0 ∨ u = 1) : okc (xc (u + 2 * v)) = true := by rcases hv with rfl | rfl <;> rcases hu with rfl | rfl <;> decide +kernel
theorem xt_ok {v u : Int} (hv : v = 0 ∨ v = 1) (hu : u = 0 ∨ u = 1) : okc (xt (u + 2 * v)) = true := by rcases hv with rfl | rfl <;> rcases hu with rfl | rfl <;> decide +kernel
theorem sg_sign (mode : Int) : ∀ c ∈ sg mode, Sign c := by
  intro c hc
  refine sign_of ?_
  unfold sg at hc
  simp only [List.mem_cons, List.not_mem_nil, or_false] at hc
  rcases hc with rfl | rfl | rfl | rfl | rfl | rfl | rfl | rfl | rfl | rfl
  · exact tc_ok (m16 _).1 (m16 _).2
  · exact rc_ok (two4 _)
  · exact wc_ok (Int.emod_two_eq _)
  · exact xc_ok (Int.emod_two_eq _) (Int.emod_two_eq _)
  · exact rc_ok (two4 _)
  · exact wc_ok (Int.emod_two_eq _)
  · exact xc_ok (Int.emod_two_eq _) (Int.emod_two_eq _)
  · exact rc_ok (two4 _)
  · exact wc_ok (Int.emod_two_eq _)
  · exact xt_ok (Int.emod_two_eq _) (Int.emod_two_eq _)
theorem sg_len (mode : Int) : (sg mode).length = 10 := rfl
end Mine
namespace Mine
set_option maxRecDepth 100000
/-! how many of the ten walks are never back -/
/-- from depth d: never back at depth nought; true stands for a minus -/
noncomputable def fl : List Bool → Nat → Bool
  | [], _ => true
  | true :: r, d => match d with
    | 0 => false
    | 1 => false
    | d + 2 => fl r (d + 1)
  | false :: r, d => fl r (d + 1)
noncomputable def mins : List Bool → Nat
  | [] => 0
  | true :: r => mins r + 1
  | false :: r => mins r
/-- how many of the first n rotations are never back -/
noncomputable def rots : Nat → List Bool → Nat
  | 0, _ => 0
  | _ + 1, [] => 0
  | n + 1, b :: r => (if fl (b :: r) 0 then 1 else 0) + rots n (r ++ [b])
/-- how many of the rotations of a ++ b ++ s that begin in b are never back -/
noncomputable def goods : List Bool → List Bool → List Bool → Nat
  | _, [], _ => 0
  | a, c :: b, s => (if fl (c :: (b ++ (s ++ a))) 0 = true then 1 else 0) + goods (a ++ [c]) b s
theorem goods_cons (a b s : List Bool) (c : Bool) : goods a (c :: b) s = (if fl (c :: (b ++ (s ++ a))) 0 = true then 1 else 0) + goods (a ++ [c]) b s := rfl
/-- up and down at once changes nothing above the root -/
theorem fl_pair (y : List Bool) : ∀ (x : List Bool) (d : Nat), fl (x ++ false :: true :: y) (d + 1) = fl (x ++ y) (d + 1)
  | [], _ => rfl
  | false :: x, d => fl_pair y x (d + 1)
  | true :: _, 0 => rfl
  | true :: x, d + 1 => fl_pair y x d
theorem fl_pair0 (c : Bool) (x y : List Bool) : fl (c :: (x ++ false :: true :: y)) 0 = fl (c :: (x ++ y)) 0 := by
  cases c with
  | true => rfl
  | false => exact fl_pair y x 0
theorem goods_app : ∀ (b a b2 s : List Bool), goods a (b ++ b2) s = goods a b (b2 ++ s) + goods (a ++ b) b2 s
  | [], a, b2, s => by rw [List.append_nil]; exact (Nat.zero_add _).symm
  | c :: b, a, b2, s => by
    rw [List.cons_append, goods_cons, goods_cons, goods_app b (a ++ [c]) b2 s, List.append_assoc a, List.append_assoc b, List.append_assoc b2, Nat.add_assoc]
    rfl
theorem goods_cut_s (s1 s2 : List Bool) : ∀ (b a : List Bool), goods a b (s1 ++ false :: true :: s2) = goods a b (s1 ++ s2)
  | [], _ => rfl
  | c :: b, a => by
    have e := fl_pair0 c (b ++ s1) (s2 ++ a)
    rw [List.append_assoc, List.append_assoc] at e
    rw [goods_cons, goods_cons, goods_cut_s s1 s2 b (a ++ [c]), List.append_assoc s1, List.append_assoc s1, List.cons_append, List.cons_append, e]
theorem goods_cut_a (a1 : List Bool) : ∀ (b a2 : List Bool), goods (a1 ++ false :: true :: a2) b [] = goods (a1 ++ a2) b []
  | [], _ => rfl
  | c :: b, a2 => by
    have e := fl_pair0 c (b ++ a1) a2
    rw [List.append_assoc, List.append_assoc] at e
    have ih := goods_cut_a a1 b (a2 ++ [c])
    rw [goods_cons, goods_cons, List.append_assoc a1, List.append_assoc a1, List.cons_append, List.cons_append, ih, List.nil_append, List.nil_append, e]
theorem goods_wrap : ∀ (b a : List Bool), goods (true :: a) b [false] = goods a b []
  | [], _ => rfl
  | c :: b, a => by
    rw [goods_cons, goods_cons, List.cons_append, List.cons_append, goods_wrap b (a ++ [c]), List.nil_append, List.nil_append, fl_pair0 c b a]
theorem goods_pair (p q : List Bool) : goods [] (p ++ false :: true :: q) [] = goods [] (p ++ q) [] := by
  have e1 : goods [] p (false :: true :: q) = goods [] p q := by
    have z := goods_cut_s [] q p []
    rw [List.nil_append, List.nil_append] at z
    exact z
  have e2 : goods p (false :: true :: q) [] = goods p q [] := by
    have z := goods_cut_a p q []
    rw [List.append_nil] at z
    rw [goods_cons, goods_cons, if_neg (by exact Bool.false_ne_true), if_neg (by exact Bool.false_ne_true), Nat.zero_add, Nat.zero_add, List.append_assoc, List.cons_append, List.nil_append]
    exact z
  rw [goods_app, goods_app, List.append_nil, List.append_nil, List.nil_append, e1, e2]
theorem fl_ups : ∀ (n d : Nat), fl (List.replicate n false) d = true
  | 0, _ => rfl
  | n + 1, d => fl_ups n (d + 1)
theorem goods_ups : ∀ (n k : Nat), goods (List.replicate k false) (List.replicate n false) [] = n
  | 0, _ => rfl
  | n + 1, k => by
    have e : List.replicate k false ++ [false] = List.replicate (k + 1) false := List.replicate_succ'.symm
    have f : fl (false :: (List.replicate n false ++ ([] ++ List.replicate k false))) 0 = true := by
      rw [List.nil_append, List.replicate_append_replicate]
      exact fl_ups (n + k) 1
    rw [List.replicate_succ, goods_cons, f, e, goods_ups n (k + 1), if_pos rfl, Nat.add_comm]
theorem goods_downs : ∀ (n : Nat) (a s : List Bool), goods a (List.replicate n true) s = 0
  | 0, _, _ => rfl
  | n + 1, a, s => by
    rw [List.replicate_succ, goods_cons, if_neg (by exact Bool.false_ne_true), goods_downs n (a ++ [true]) s]
theorem goods_rep : ∀ (i j : Nat), goods [] (List.replicate i true ++ List.replicate j false) [] = j - i
  | 0, j => goods_ups j 0
  | i + 1, 0 => by rw [Nat.zero_sub]; exact (congrArg (fun x => goods [] x []) (List.append_nil _)).trans (goods_downs (i + 1) [] [])
  | i + 1, j + 1 => by
    have e : List.replicate (i + 1) true ++ List.replicate (j + 1) false = true :: ((List.replicate i true ++ List.replicate j false) ++ [false]) := by
      rw [List.replicate_succ, List.replicate_succ', List.append_assoc]; rfl
    rw [e, goods_cons, if_neg (by exact Bool.false_ne_true), Nat.zero_add, List.nil_append, goods_app, List.append_nil, goods_wrap, goods_rep i j, goods_cons, if_neg (by exact Bool.false_ne_true)]
    exact (Nat.add_sub_add_right j 1 i).symm
theorem mins_app : ∀ (a b : List Bool), mins (a ++ b) = mins a + mins b
  | [], b => (Nat.zero_add _).symm
  | true :: a, b => by
    exact (congrArg (· + 1) (mins_app a b)).trans (Nat.add_right_comm _ _ _)
  | false :: a, b => mins_app a b
theorem mins_rep : ∀ (i j : Nat), mins (List.replicate i true ++ List.replicate j false) = i
  | 0, 0 => rfl
  | 0, j + 1 => mins_rep 0 j
  | i + 1, j => congrArg (· + 1) (mins_rep i j)
theorem shape : ∀ v : List Bool, (∃ p q, v = p ++ false :: true :: q) ∨ ∃ i j, v = List.replicate i true ++ List.replicate j false
  | [] => .inr ⟨0, 0, rfl⟩
  | c :: v => by
    rcases shape v with ⟨p, q, rfl⟩ | ⟨i, j, rfl⟩
    · exact .inl ⟨c :: p, q, rfl⟩
    · cases c with
      | true => exact .inr ⟨i + 1, j, rfl⟩
      | false => cases i with
        | zero => exact .inr ⟨0, j + 1, rfl⟩
        | succ i => exact .inl ⟨[], List.replicate i true ++ List.replicate j false, rfl⟩
theorem goods_is : ∀ (n : Nat) (v : List Bool), v.length ≤ n → goods [] v [] = v.length - 2 * mins v
  | 0, [], _ => rfl
  | n + 1, v, h => by
    rcases shape v with ⟨p, q, rfl⟩ | ⟨i, j, rfl⟩
    · have el : (p ++ false :: true :: q).length = (p ++ q).length + 2 := by rw [List.length_append, List.length_append]; rfl
      have em : mins (p ++ false :: true :: q) = mins (p ++ q) + 1 := by rw [mins_app, mins_app]; rfl
      rw [el] at h
      rw [goods_pair, goods_is n (p ++ q) (Nat.le_of_succ_le (Nat.le_of_succ_le_succ h)), el, em]
      exact (Nat.add_sub_add_right _ 2 _).symm
    · rw [goods_rep, mins_rep, List.length_append, List.length_replicate, List.length_replicate, Nat.two_mul]
      exact (Nat.add_sub_add_left i j i).symm
theorem rots_goods : ∀ (b a : List Bool), rots b.length (b ++ a) = goods a b []
  | [], _ => rfl
  | c :: b, a => by
    have ih := rots_goods b (a ++ [c])
    rw [← List.append_assoc] at ih
    rw [goods_cons, ← ih]; rfl
noncomputable def pat (l : List Nat) : List Bool := l.map (· == 45)
theorem away_fl : ∀ (rest pre : List Nat), awayB (pre ++ rest) = (awayB pre && fl (pat rest) (stack pre).length)
  | [], pre => by simp [pat, fl]
  | c :: r, pre => by
    have ih := away_fl r (pre ++ [c])
    rw [List.append_assoc] at ih
    rw [show pre ++ c :: r = pre ++ ([c] ++ r) from rfl, ih, away_snoc, stack_snoc]
    generalize stack pre = st
    rw [Bool.and_assoc]
    congr 1
    unfold push
    show _ = fl ((c == 45) :: pat r) st.length
    by_cases hc : c = 45
    · rw [if_pos hc]
      have e : (c == 45) = true := by simpa using hc
      rw [e]
      rcases List.eq_nil_or_concat st with rfl | ⟨st', d, rfl⟩
      · simp [fl]
      · rw [List.concat_eq_append, List.dropLast_concat]
        cases st' with
        | nil => simp [fl]
        | cons x s' => simp [fl]
    · rw [if_neg hc]
      have e : (c == 45) = false := by simpa using hc
      rw [e]
      simp [fl]
theorem away_is (l : List Nat) : awayB l = fl (pat l) 0 := by
  have := away_fl l []
  simpa [awayB, stack] using this
/-- the k-th rotation -/
noncomputable def rot (k : Nat) (l : List Nat) : List Nat := l.drop k ++ l.take k
/-- how many of the walks that begin at the first n signs are never back -/
noncomputable def farN (l : List Nat) : Nat → Nat
  | 0 => 0
  | n + 1 => farN l n + (if awayB (rot n l) = true then 1 else 0)
theorem rot_step {l : List Nat} {k : Nat} (h : k < l.length) : ∃ b r, rot k l = b :: r ∧ rot (k + 1) l = r ++ [b] :=
  ⟨l[k], l.drop (k + 1) ++ l.take k, by unfold rot; rw [List.drop_eq_getElem_cons h]; rfl, by unfold rot; rw [List.append_assoc, List.take_append_getElem]⟩
theorem rots_far (l : List Nat) : ∀ n k, k + n ≤ l.length → rots n (pat (rot k l)) + farN l k = farN l (k + n)
  | 0, k, _ => Nat.zero_add _
  | n + 1, k, h => by
    obtain ⟨b, r, e1, e2⟩ := rot_step (l := l) (k := k) (by omega)
    have ih := rots_far l n (k + 1) (by omega)
    rw [e2] at ih
    have e3 : farN l (k + 1) = farN l k + (if fl (pat (b :: r)) 0 = true then 1 else 0) := by rw [← e1, ← away_is]; rfl
    have e4 : pat (r ++ [b]) = pat r ++ [b == 45] := List.map_append
    have e5 : rots (n + 1) (pat (rot k l)) = (if fl (pat (b :: r)) 0 = true then 1 else 0) + rots n (pat (r ++ [b])) := by rw [e1, e4]; rfl
    rw [e5, Nat.add_comm k, Nat.add_assoc n, Nat.add_comm 1, Nat.add_comm n, ← ih, e3]
    omega
theorem far_is {l : List Nat} (h : l.length = 10) : farN l 10 = 10 - 2 * mins (pat l) := by
  have e : rot 0 l = l := List.append_nil l
  have z := rots_far l 10 0 (by omega)
  rw [e] at z
  have c := rots_goods (pat l) []
  have hp : (pat l).length = 10 := by unfold pat; rw [List.length_map]; exact h
  rw [goods_is 10 (pat l) (Nat.le_of_eq hp), hp, List.append_nil] at c
  rw [← c]
  exact z.symm
theorem count_mins : ∀ l : List Nat, PyProof.Rows.cnt 45 l = (mins (pat l) : Int)
  | [] => rfl
  | c :: r => by
    have ih := count_mins r
    rw [PyProof.Rows.cnt_cons, ih]
    show _ = ((mins ((c == 45) :: pat r) : Nat) : Int)
    by_cases hc : c = 45
    · have e : (c == 45) = true := by simpa using hc
      rw [if_pos hc, e]
      show _ = ((mins (pat r) + 1 : Nat) : Int)
      omega
    · have e : (c == 45) = false := by simpa using hc
      rw [if_neg hc, e]
      show _ = ((mins (pat r) : Nat) : Int)
      omega
theorem count_S (l : List Nat) : Txt.count (S l) (Str.ofString "-") = (mins (pat l) : Int) := by
  have e : Str.ofString "-" = (⟨#[45]⟩ : Str) := by decide +kernel
  rw [e, PyProof.Rows.count_cnt, S_toList, count_mins]
theorem cut_int (m : Nat) : ((10 - 2 * m : Nat) : Int) = if 10 - 2 * (m : Int) > 0 then 10 - 2 * (m : Int) else 0 := by
  by_cases h : 2 * m ≤ 10
  · rw [Int.ofNat_sub h]
    show (10 : Int) - 2 * (m : Int) = _
    split <;> omega
  · rw [Nat.sub_eq_zero_of_le (Nat.le_of_not_le h), if_neg (by omega)]; rfl
end Mine
local macro_rules | `(tactic| walk_at "mine con") => `(tactic| exact con_str (c_list _ _ _ _ _ _))
local macro_rules | `(tactic| walk_at "mine con") => `(tactic| exact con_str (c_signs _ _ _ _ _ _))
local macro_rules | `(tactic| walk_at "mine con") => `(tactic| exact con_tup2 (c_walkX _ _ _ _ _ _ _ _ _ (by assumption) (by assumption) (by assumption) (by assumption) (by assumption) (by assumption)))
local macro_rules | `(tactic| walk_at "mine con") => `(tactic| exact con_str (c_endX _ _ _ _ _ _ _ _ _ (by assumption) (by assumption) (by assumption) (by assumption)))
namespace Mine
theorem root_mul (z : Int) : ∃ r, IsRoot r ∧ Txt.mul (Str.ofString "/") (1 + z.fmod 2) = S r := by
  have h : z.fmod 2 = 0 ∨ z.fmod 2 = 1 := by
    rw [Int.fmod_eq_emod_of_nonneg _ (by decide)]; omega
  rcases h with h | h
  · exact ⟨[47], .inl rfl, by rw [h]; decide +kernel⟩
  · exact ⟨[47, 47], .inr rfl, by rw [h]; decide +kernel⟩
theorem rot_S {l : List Nat} {k : Int} {j : Nat} (hk : k = 0 + (j : Int)) (hj : j ≤ l.length) : S (rot j l) = Txt.slice (S l) (some k) none ++ Txt.slice (S l) none (some k) := by
  have e : k = (j : Int) := by omega
  rw [e, S_slice_from l hj, S_slice_to l hj, S_append]
  rfl
theorem rot_len {l : List Nat} {j : Nat} (hj : j ≤ l.length) : (rot j l).length = l.length := by
  unfold rot
  rw [List.length_append, List.length_drop, List.length_take]; omega
theorem rot_mem {l : List Nat} {j : Nat} {c : Nat} (h : c ∈ rot j l) : c ∈ l := by
  unfold rot at h
  rcases List.mem_append.mp h with h | h
  · exact List.mem_of_mem_drop h
  · exact List.mem_of_mem_take h
/-- between the turns of the law's loop -/
structure PF (l : List Nat) (pre : List Int) (c : Int × Tok) : Prop where
  far : c.1 = (farN l pre.length : Int)
theorem PF_t {l : List Nat} {pre : List Int} {k far : Int} {t t' : Tok} (h : PF l pre (far, t)) (ha : awayB (rot pre.length l) = true) : PF l (pre ++ [k]) (far + 1, t') := by
  have h1 := h.far
  refine ⟨?_⟩
  dsimp only at h1 ⊢
  rw [List.length_append, List.length_singleton]
  show _ = ((farN l pre.length + (if awayB (rot pre.length l) = true then 1 else 0) : Nat) : Int)
  rw [if_pos ha]; omega
theorem PF_f {l : List Nat} {pre : List Int} {k far : Int} {t t' : Tok} (h : PF l pre (far, t)) (ha : awayB (rot pre.length l) = false) : PF l (pre ++ [k]) (far, t') := by
  have h1 := h.far
  refine ⟨?_⟩
  dsimp only at h1 ⊢
  rw [List.length_append, List.length_singleton]
  show _ = ((farN l pre.length + (if awayB (rot pre.length l) = true then 1 else 0) : Nat) : Int)
  rw [if_neg (by rw [ha]; decide)]; omega
theorem far_end {l : List Nat} {far : Int} {t : Tok} (hl : l.length = 10) (h : PF l (rangeKs 0 10) (far, t)) :
    (far == if 10 - 2 * Txt.count (S l) (Str.ofString "-") > 0 then 10 - 2 * Txt.count (S l) (Str.ofString "-") else 0) = true := by
  have h1 := h.far
  rw [rangeKs_length] at h1
  have h2 : far = ((10 - 2 * mins (pat l) : Nat) : Int) := h1.trans (congrArg Int.ofNat (far_is hl))
  rw [count_S, h2, cut_int]
  exact beq_self_eq_true _
end Mine
open Mine
local macro_rules | `(tactic| walk_at "exec For Name Call cons nil") => `(tactic| walk_at "mine for")
local macro_rules | `(tactic| walk_at "pyIter ref") => `(tactic| (k_here; refine Hold.out ?_))
set_option maxRecDepth 100000 in
set_option maxHeartbeats 8000000 in
theorem PySem.Challenge.cw_qw0043_01_holds : PySem.Challenge.rw_qw0043_01.Holds := by
  refine Mine.hd ?_
  w_on
  w_strict (k_go0; (all_goals try k_fold); k_steps)
  rename List Int => ns
  rename IsRange _ _ _ _ _ _ _ _ => R9
  rename Fr _ _ _ _ => F9
  rename News _ _ _ _ => N9
  refine ⟨?_⟩
  generalize hM : (List.take 1 ns ++ [33261]).getD (Int.toNat 0) 0 = M at F9
  obtain ⟨r, hr, hre⟩ := root_mul (List.take (min 2 ns.length - 1) (List.drop 1 ns)).sum
  rw [hre] at F9
  have hR := root_len hr
  have hR1 : (S r).length ≤ 4096 := by rw [S_len]; omega
  have hsg := sg_sign M
  have hsl := sg_len M
  generalize sg M = l at F9 hsg hsl
  have hlS : (S l).length ≤ 4096 := by rw [S_len]; omega
  refine' kst_range (n := 10) (fun _ => _) (fun c : Int × Tok => [(Str.ofString "far", .int c.1 c.2)]) (fun _ => True) [Str.ofString "end", Str.ofString "away"] (PF l) (0, ?tk0) rfl R9 (by decide) (by rfl) F9 N9 trivial ?kk ?kp ?turn ?done
  case kk => kst_all
  case kp => exact ⟨rfl⟩
  case turn =>
    rintro ⟨far, tf⟩ pre k t u' h tk own hk hlt hoff _ hP F' N'
    (try clear F9 N9)
    dsimp only [List.map_cons, List.map_nil, List.cons_append, List.nil_append] at N' hoff
    simp only [kstB] at F'
    have hMk9 := kstMark
    have hj : pre.length ≤ l.length := by omega
    have hx1 := rot_S hk hj
    have hs1 : ∀ c ∈ rot pre.length l, Sign c := fun c hc => hsg c (rot_mem hc)
    have hrl := rot_len hj
    have hne : rot pre.length l ≠ [] := fun e => by rw [e] at hrl; simp at hrl; omega
    have hl1 : (rot pre.length l).length ≤ 32 := by omega
    have hl2 : (S (rot pre.length l)).length ≤ 4096 := by rw [S_len]; omega
    have hb : (S (endT r (rot pre.length l)) != S (endT r (rot pre.length l))) = false := by simp
    k_steps
    all_goals (refine ⟨?_⟩; rename News _ _ _ _ => nE'; refine kst_end ⟨_, _⟩ (by assumption) nE' (by first | kst_in | kst_inAny) (by first | (intro p hp; kst_mem) | kst_anyIn) (by rfl) trivial (by kst_all) (by kst_same) ?_)
    · exact PF_t hP (by assumption)
    · exact PF_f hP (by assumption)
  case done =>
    rintro ⟨far, tf⟩ u' h tk _ hP F' N'
    (try clear F9 N9)
    simp only [kstB] at F'
    have hMk9 := kstMark
    have hfar := far_end hsl hP
    k_steps
