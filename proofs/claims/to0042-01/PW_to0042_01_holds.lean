import PyProof.Rows.All
import Wide.All
import OpenK.AllK
import Wide.FinOn
import PySem.Challenge.RW_to0042_01
set_option Elab.async false
set_option compiler.extract_closed false
set_option linter.all false
set_option linter.unusedVariables false
section
open PySem PySem.W PyProof.Rows
namespace Mine
set_option Elab.async true
local macro_rules | `(tactic| o_head $H) => `(tactic| (have hh : Hook := $H; assumption))
set_option maxRecDepth 100000 in
set_option maxHeartbeats 8000000 in
theorem hd0 : PySem.Challenge.rw_to0042_01.row.Holds → PySem.Challenge.rw_to0042_01.row.Holds := by
  intro h
  k_head
end Mine
end
section
open PySem PySem.W PyProof.Rows PySem.Calls
namespace Mine
noncomputable def skz {α : Type u} (n : Nonempty α) (P : α → Prop) : α := @Classical.epsilon α n (fun x => ¬ P x)
theorem skolN {α : Type u} (n : Nonempty α) {P : α → Prop} (h : P (skz n P)) : ∀ x, P x :=
  fun x => Classical.byContradiction fun hn => (Classical.epsilon_spec (p := fun x => ¬ P x) ⟨x, hn⟩) h
theorem skol {α : Type u} [Inhabited α] {P : α → Prop} (h : P (skz ⟨default⟩ P)) : ∀ x, P x := skolN _ h
theorem neParams : Nonempty PySem.Params := by constructor; constructor <;> exact default
theorem neWorld : Nonempty World := neParams.elim fun p => ⟨⟨fun _ _ => 0, p⟩⟩
theorem neShared : Nonempty Shared := ⟨{}⟩
theorem neAround : Nonempty PySem.Around := by constructor; constructor <;> exact default
theorem skolW {P : World → Prop} (h : P (skz neWorld P)) : ∀ x, P x := skolN _ h
theorem skolS {P : Shared → Prop} (h : P (skz neShared P)) : ∀ x, P x := skolN _ h
theorem skolA {P : PySem.Around → Prop} (h : P (skz neAround P)) : ∀ x, P x := skolN _ h
noncomputable def sk4 {α : Type u} {β : Type v} {γ : Type w} {δ : Type x} (a : Nonempty α) (b : Nonempty β) (c : Nonempty γ) (d : Nonempty δ) (P : α → β → γ → δ → Prop) : α × β × γ × δ :=
  @Classical.epsilon _ (a.elim fun a => b.elim fun b => c.elim fun c => d.elim fun d => ⟨(a, b, c, d)⟩) (fun x => ¬ P x.1 x.2.1 x.2.2.1 x.2.2.2)
noncomputable def sk4a {α : Type u} {β : Type v} {γ : Type w} {δ : Type x} (a : Nonempty α) (b : Nonempty β) (c : Nonempty γ) (d : Nonempty δ) (P : α → β → γ → δ → Prop) : α := (sk4 a b c d P).1
noncomputable def sk4b {α : Type u} {β : Type v} {γ : Type w} {δ : Type x} (a : Nonempty α) (b : Nonempty β) (c : Nonempty γ) (d : Nonempty δ) (P : α → β → γ → δ → Prop) : β := (sk4 a b c d P).2.1
noncomputable def sk4c {α : Type u} {β : Type v} {γ : Type w} {δ : Type x} (a : Nonempty α) (b : Nonempty β) (c : Nonempty γ) (d : Nonempty δ) (P : α → β → γ → δ → Prop) : γ := (sk4 a b c d P).2.2.1
noncomputable def sk4d {α : Type u} {β : Type v} {γ : Type w} {δ : Type x} (a : Nonempty α) (b : Nonempty β) (c : Nonempty γ) (d : Nonempty δ) (P : α → β → γ → δ → Prop) : δ := (sk4 a b c d P).2.2.2
theorem skol4 {α : Type u} {β : Type v} {γ : Type w} {δ : Type x} (a : Nonempty α) (b : Nonempty β) (c : Nonempty γ) (d : Nonempty δ) {P : α → β → γ → δ → Prop} (h : P (sk4a a b c d P) (sk4b a b c d P) (sk4c a b c d P) (sk4d a b c d P)) : ∀ x y z t, P x y z t :=
  fun x y z t => Classical.byContradiction fun hn =>
    (@Classical.epsilon_spec (α × β × γ × δ) (fun q => ¬ P q.1 q.2.1 q.2.2.1 q.2.2.2) ⟨(x, y, z, t), hn⟩) h
theorem ten {f : Addr → Prop} {a0 a1 a2 a3 a4 a5 a6 a7 a8 a9 : Addr} (h : ∀ b ∈ [a0, a1, a2, a3, a4, a5, a6, a7, a8, a9], f b) : f a0 ∧ f a1 ∧ f a2 ∧ f a3 ∧ f a4 ∧ f a5 ∧ f a6 ∧ f a7 ∧ f a8 ∧ f a9 ∧ True := by
  simp only [List.forall_mem_cons] at h
  obtain ⟨h0, h1, h2, h3, h4, h5, h6, h7, h8, h9, _⟩ := h
  exact ⟨h0, h1, h2, h3, h4, h5, h6, h7, h8, h9, trivial⟩
theorem tok_store {prog : Program} {w : World} {A : PySem.Around} {x : Str} {v : Int} {t₀ : Tok} {env : Env} {Q : Unit → Shared → Prop} {E : Value → Shared → Prop} {s : Shared}
    (h : ∀ t, wpAny (model prog w) A (storeName env x (.int v t)) Q E s) : wpAny (model prog w) A (storeName env x (.int v t₀)) Q E s := h t₀
theorem tok_state {prog : Program} {w : World} {A : PySem.Around} {α : Type} {T : Sem α} {Q : α → Shared → Prop} {E : Value → Shared → Prop} {h : Heap} {g : Array GenState} {d : Drawn} {o : OsState} {t₀ : Nat}
    (k : ∀ t, wpAny (model prog w) A T Q E ⟨h, g, d, t, o⟩) : wpAny (model prog w) A T Q E ⟨h, g, d, t₀, o⟩ := k t₀
end Mine
end
section
open PySem PySem.W PyProof.Rows PySem.Calls
set_option maxRecDepth 100000
namespace Mine
abbrev Led := List (Addr × Obj)
/-- a is none of them: as premises, one by one -/
def Apart1 (a : Addr) : Led → Prop → Prop
  | [], P => P
  | b :: bs, P => a ≠ b.1 → Apart1 a bs P
def ApartAll : Led → Led → Prop → Prop
  | [], _, P => P
  | a :: as, bs, P => Apart1 a.1 bs (ApartAll as bs P)
theorem apart1_of {a : Addr} {P : Prop} (hp : P) : ∀ {bs : Led}, Apart1 a bs P
  | [] => hp
  | _ :: _ => fun _ => apart1_of hp
theorem apart1_use {a : Addr} {P : Prop} : ∀ {bs : Led}, (∀ b ∈ bs, a ≠ b.1) → Apart1 a bs P → P
  | [], _, h => h
  | _ :: _, n, h => apart1_use (fun b hb => n b (.tail _ hb)) (h (n _ (.head _)))
theorem apartAll_use {P : Prop} {bs : Led} : ∀ {as : Led}, (∀ q ∈ as, ∀ b ∈ bs, q.1 ≠ b.1) → ApartAll as bs P → P
  | [], _, h => h
  | _ :: _, n, h => apartAll_use (fun q hq => n q (.tail _ hq)) (apart1_use (n _ (.head _)) h)
/-- what is left of a ledger without those addresses -/
inductive Cut (A : List Addr) : Led → Led → Prop
  | nil : Cut A [] []
  | drop {q : Addr × Obj} {l r : Led} : q.1 ∈ A → Cut A l r → Cut A (q :: l) r
  | keep {q : Addr × Obj} {l r : Led} : (∀ b ∈ A, q.1 ≠ b) → Cut A l r → Cut A (q :: l) (q :: r)
theorem Cut.sub {A : List Addr} {l r : Led} (h : Cut A l r) : ∀ q ∈ r, q ∈ l := by
  induction h with
  | nil => intro q h; exact h
  | drop _ _ ih => intro q h; exact .tail _ (ih q h)
  | keep _ _ ih => intro q h; cases h with
    | head => exact .head _
    | tail _ h => exact .tail _ (ih q h)
theorem Cut.off {A : List Addr} {l r : Led} (h : Cut A l r) : ∀ q ∈ r, q.1 ∉ A := by
  induction h with
  | nil => intro q h; cases h
  | drop _ _ ih => exact ih
  | keep n _ ih => intro q h; cases h with
    | head => exact fun hm => n _ hm rfl
    | tail _ h => exact ih q h
/-- a def's contract over a ledger: what a call of f gives back, from wherever it is called -/
def Ctr (w : World) (f : Addr) (args : List Value) (kw : List (Str × Value)) (dN : Nat) (pre : Heap → Prop) (news : Led) (post : Value → Led → Led → Prop) : Prop :=
  ∀ (p : Program) (loose : List Str) (mean : ExcName → Option Value) (mg mb : Str → Option Value) (dp un : Nat) (gd : Option (List Code)) (cn : Str) (cs : Scope) (a : Addr) (ccd : Value) (cl : List (Str × Addr)) (outer : List Env) (A₀ : Around) (base h₀ : Heap) (L : Addr) (m : Str → Option Value) (s : Shared)
    (Q E : Value → Shared → Prop),
    Below A₀ base outer h₀ → Fr h₀ L s.heap m → (Mine.hd0.heap_1_1 w.params).In h₀ → News h₀ L s.heap news → Top p loose mean mg mb h₀ → cs.kind = .function → dp + dN < recursionLimit → un + 8 * dN < cLine → pre h₀ →
    (∀ r kept new h' tk', Fr h₀ L h' m → News h₀ L h' (kept ++ new) → (∀ b o, s.heap.get? b = some o → b ∉ news.map (·.1) → h'.get? b = some o) → (∀ q ∈ new, s.heap.get? q.1 = none) → post r kept new → Q r { s with heap := h', toks := tk' }) →
    codeAny (model PySem.Challenge.rw_to0042_01.row.prog w) (ktrTop dp un gd cn cs L a ccd cl outer) (.call (.ref f) ⟨args, kw⟩) (fun r s' => match r with | .ok (.ret v) => Q v s' | .ok _ => False | .error e => E e s') s
/-- how a body ends -/
def Done (g : Heap) (L' : Addr) (s : Shared) (news : Led) (post : Value → Led → Led → Prop) (fl : Flow) (s' : Shared) : Prop :=
  ∃ h' tk m' kept new, s' = { s with heap := h', toks := tk } ∧ Fr g L' h' m' ∧ News g L' h' (kept ++ new) ∧ (∀ q ∈ new, ∀ b ∈ news, q.1 ≠ b.1) ∧ post (match fl with | .ret v => v | _ => .none) kept new
theorem Done.intro {g : Heap} {L' : Addr} {s : Shared} {news : Led} {post : Value → Led → Led → Prop} {fl : Flow} {h' : Heap} {tk : Nat} {m' : Str → Option Value} {all : Led} (kept new : Led)
    (F : Fr g L' h' m') (N : News g L' h' all) (h1 : ∀ q ∈ kept, q ∈ all) (h2 : ∀ q ∈ new, q ∈ all) (h3 : ∀ q ∈ new, ∀ b ∈ news, q.1 ≠ b.1) (hp : post (match fl with | .ret v => v | _ => .none) kept new) : Done g L' s news post fl { s with heap := h', toks := tk } :=
  ⟨h', tk, m', kept, new, rfl, F, fun q hq => (List.mem_append.mp hq).elim (fun x => N q (h1 q x)) (fun x => N q (h2 q x)), h3, hp⟩
/-- a body's obligation -/
def Body (w : World) (env : Addr → Env) (qual : Str) (scope : Scope) (f : Addr) (cdv : Value) (cl : List (Str × Addr)) (body : List Stmt) (m₀ : Str → Option Value) (dN : Nat) (pre : Heap → Prop) (news : Led) (post : Value → Led → Led → Prop) : Prop :=
  ∀ (p : Program) (loose : List Str) (mean : ExcName → Option Value) (mg mb : Str → Option Value) (dp un : Nat) (gd : Option (List Code)) (outer : List Env) (A₀ : Around) (base g h₁ : Heap) (L' : Addr) (s : Shared),
    Below A₀ base outer g → Fr g L' h₁ m₀ → (Mine.hd0.heap_1_1 w.params).In g → News g L' h₁ news → Top p loose mean mg mb g → dp + dN < recursionLimit → un + 8 * dN < cLine → pre g →
    wpAny (model PySem.Challenge.rw_to0042_01.row.prog w) (ktrTop dp un gd qual scope L' f cdv cl outer) (execs body (env L')) (Done g L' s news post) (fun _ _ => False) { s with heap := h₁ }
theorem enter_def {w : World} {f : Addr} {args : List Value} {kw : List (Str × Value)} {dN : Nat} {pre : Heap → Prop} {news : Led} {post : Value → Led → Led → Prop}
    {name qual : Str} {params : Arguments} {body : List Stmt} {scope : Scope} {dV kV doc pm cdv ct oc : Value} {an od : Option Addr} {osl : Array (Option Value)} (binds : List (Str × Value))
    (hpre : ∀ h g : Heap, h.StaysIn g → pre h → pre g)
    (ho : (Mine.hd0.heap_1_1 w.params).lookup f = some ⟨oc, od, .func (fnOf name qual params body scope dV kV doc pm an cdv ct), osl⟩) (hcd : codeIn (Mine.hd0.heap_1_1 w.params) cdv qual = true)
    (hbind : ∀ s : Shared, (Mine.hd0.heap_1_1 w.params).In s.heap → BindsTo s (fnOf name qual params body scope dV kV doc pm an cdv ct) ⟨args, kw⟩ binds) (hloc : ∀ y ∈ binds, scope.names.lookup y.1 = some .local)
    (hco : scope.isCoroutine = false) (hgen : scope.isGenerator = false) (hk : scope.kind = .function) (hcell : ∀ x ∈ scope.names, x.2 ≠ .cell)
    (h : Body w (fun L' => envOf qual scope L' f cdv) qual scope f cdv [] body (fun y => binds.reverse.lookup y) dN pre news post) :
    Ctr w f args kw (dN + 1) pre news post := by
  unfold Ctr
  intro p loose mean mg mb dp un gd cn cs a ccd cl outer A₀ base h₀ L m s Q E B F X N T hcs hd hu hp hret
  obtain ⟨FG, BG, st, lv⟩ := groundX (A := ktrTop dp un gd cn cs L a ccd cl outer) (env := envX cn cs L a ccd cl) (R := fun r s' => match r with | .ok (.ret v) => Q v s' | .ok _ => False | .error e => E e s') B F N rfl rfl hcs
  refine codeAny_call_def (fd := fnOf name qual params body scope dV kV doc pm an cdv ct) (body := body) (binds := binds) (by show dp < _; omega) (X.keeps F.keep _ _ ho) rfl (T.nolimit.keeps F.keep) (codeRec_of (X.keeps F.keep) hcd) rfl (hbind s (X.keeps F.keep)) hcell hloc (fun h₁ hns hk₁ => ?_) hco hgen hk
  have hb := h p loose mean mg mb (dp + 1) (un + 3) gd (envX cn cs L a ccd cl :: outer) _ base (hideAll s.heap (news.map (·.1))) h₁ s.heap.objs.size { s with toks := s.toks + binds.length } BG
    ⟨hns, fun b o e => hk₁ b o (of_hideAll _ e), Nat.le_of_eq (hideAll_size _ _)⟩ (X.keeps fun b o e => st b o e)
    (fun q hq => ⟨hk₁ _ _ (N q hq).1, Nat.ne_of_lt (Heap.lt_size (N q hq).1), hideAll_none _ (List.mem_map_of_mem hq)⟩) (T.keeps fun b o e => st b o e) (by omega) (by omega) (hpre _ _ st hp)
  refine wpAny_mono hb (fun fl s' hdn => ?_) fun _ _ x => x.elim
  obtain ⟨h', tk, m', kept, new, rfl, F', N', hoff, hpost⟩ := hdn
  refine lv _ _ ⟨_, m', kept ++ new, F', N', fun Fh Nh => ?_⟩
  refine hret _ kept new h' tk Fh Nh (fun b o e nb => F'.keep b o (hideAll_get _ e nb)) (fun q hq => ?_) hpost
  cases e : s.heap.get? q.1 with
  | none => rfl
  | some o =>
    have hq' : q.1 ∉ news.map (·.1) := fun hm => by
      obtain ⟨b, hb, eb⟩ := List.mem_map.mp hm
      exact hoff q hq b hb eb.symm
    have := (N' q (List.mem_append_right _ hq)).2.2
    rw [hideAll_get _ e hq'] at this; cases this
/-- a contract at a call site: the rest of the ledger stays -/
theorem ctr_code {w : World} {f : Addr} {args : List Value} {kw : List (Str × Value)} {dN : Nat} {pre : Heap → Prop} {news : Led} {post : Value → Led → Led → Prop} (C : Ctr w f args kw dN pre news post)
    {p : Program} {loose : List Str} {mean : ExcName → Option Value} {mg mb : Str → Option Value} {dp un : Nat} {gd : Option (List Code)} {cn : Str} {cs : Scope} {a : Addr} {ccd : Value} {cl : List (Str × Addr)} {outer : List Env} {A₀ : Around} {base h₀ : Heap} {L : Addr} {m : Str → Option Value} {s : Shared}
    {Q E : Value → Shared → Prop} {all rest : Led}
    (B : Below A₀ base outer h₀) (F : Fr h₀ L s.heap m) (X : (Mine.hd0.heap_1_1 w.params).In h₀) (N : News h₀ L s.heap all) (T : Top p loose mean mg mb h₀) (hcs : cs.kind = .function) (hd : dp + dN < recursionLimit) (hu : un + 8 * dN < cLine) (hp : pre h₀)
    (h1 : ∀ q ∈ news, q ∈ all) (h2 : Cut (news.map (·.1)) all rest)
    (hret : ∀ r kept new h' tk', Fr h₀ L h' m → News h₀ L h' (kept ++ new ++ rest) → post r kept new → ApartAll new all (Q r { s with heap := h', toks := tk' })) :
    codeAny (model PySem.Challenge.rw_to0042_01.row.prog w) (ktrTop dp un gd cn cs L a ccd cl outer) (.call (.ref f) ⟨args, kw⟩) (fun r s' => match r with | .ok (.ret v) => Q v s' | .ok _ => False | .error e => E e s') s := by
  refine C p loose mean mg mb dp un gd cn cs a ccd cl outer A₀ base h₀ L m s Q E B F X (fun q hq => N q (h1 q hq)) T hcs hd hu hp fun r kept new h' tk' F' N' hk hf hpost => ?_
  refine apartAll_use (fun q hq b hb e => ?_) (hret r kept new h' tk' F' (fun q hq => ?_) hpost)
  · have := (N b hb).1
    rw [← e, hf q hq] at this; cases this
  · rcases List.mem_append.mp hq with hq | hq
    · exact N' q hq
    · exact ⟨hk _ _ (N q (h2.sub q hq)).1 (h2.off q hq), (N q (h2.sub q hq)).2⟩
theorem ctr_use {w : World} {f : Addr} {args : List Value} {kw : List (Str × Value)} {dN : Nat} {pre : Heap → Prop} {news : Led} {post : Value → Led → Led → Prop} (C : Ctr w f args kw dN pre news post)
    {p : Program} {loose : List Str} {mean : ExcName → Option Value} {mg mb : Str → Option Value} {dp un : Nat} {gd : Option (List Code)} {cn : Str} {cs : Scope} {a : Addr} {ccd : Value} {cl : List (Str × Addr)} {outer : List Env} {A₀ : Around} {base h₀ : Heap} {L : Addr} {m : Str → Option Value} {s : Shared}
    {Q E : Value → Shared → Prop} {all rest : Led}
    (B : Below A₀ base outer h₀) (F : Fr h₀ L s.heap m) (X : (Mine.hd0.heap_1_1 w.params).In h₀) (N : News h₀ L s.heap all) (T : Top p loose mean mg mb h₀) (hcs : cs.kind = .function) (hd : dp + dN < recursionLimit) (hu : un + 8 * dN < cLine) (hp : pre h₀)
    (h1 : ∀ q ∈ news, q ∈ all) (h2 : Cut (news.map (·.1)) all rest)
    (hret : ∀ r kept new h' tk', Fr h₀ L h' m → News h₀ L h' (kept ++ new ++ rest) → post r kept new → ApartAll new all (Q r { s with heap := h', toks := tk' })) :
    wpAny (model PySem.Challenge.rw_to0042_01.row.prog w) (ktrTop dp un gd cn cs L a ccd cl outer) (call (.ref f) args kw) Q E s :=
  wpAny_call (ctr_code C B F X N T hcs hd hu hp h1 h2 hret)
theorem ctr_useA {w : World} {f : Addr} {args : List Value} {kw : List (Str × Value)} {dN : Nat} {pre : Heap → Prop} {news : Led} {post : Value → Led → Led → Prop} (C : Ctr w f args kw dN pre news post)
    {p : Program} {loose : List Str} {mean : ExcName → Option Value} {mg mb : Str → Option Value} {dp un : Nat} {gd : Option (List Code)} {cn : Str} {cs : Scope} {a : Addr} {ccd : Value} {cl : List (Str × Addr)} {outer : List Env} {A₀ : Around} {base h₀ : Heap} {L : Addr} {m : Str → Option Value} {s : Shared}
    {Q E : Value → Shared → Prop} {all rest : Led}
    (h1 : ∀ q ∈ news, q ∈ all) (h2 : Cut (news.map (·.1)) all rest)
    (hret : ∀ r kept new h' tk', Fr h₀ L h' m → News h₀ L h' (kept ++ new ++ rest) → post r kept new → ApartAll new all (Q r { s with heap := h', toks := tk' }))
    (B : Below A₀ base outer h₀ := by k_asm) (F : Fr h₀ L s.heap m := by k_asm) (X : (Mine.hd0.heap_1_1 w.params).In h₀ := by k_asm) (N : News h₀ L s.heap all := by k_asm) (T : Top p loose mean mg mb h₀ := by k_asm) (hcs : cs.kind = .function := by rfl)
    (hd : dp + dN < recursionLimit := by first | omega | ktr_room) (hu : un + 8 * dN < cLine := by first | omega | ktr_units) (hp : pre h₀ := by trivial) :
    wpAny (model PySem.Challenge.rw_to0042_01.row.prog w) (ktrTop dp un gd cn cs L a ccd cl outer) (call (.ref f) args kw) Q E s :=
  ctr_use C B F X N T hcs hd hu hp h1 h2 hret
end Mine
end
local macro_rules | `(tactic| o_facts $x) => `(tactic| ((try dsimp only [Mine.ApartAll, Mine.Apart1]); (try intros); (try simp only [List.append_nil, List.nil_append, List.cons_append] at $x:ident)))
local macro_rules | `(tactic| k_room) => `(tactic| ktr_room)
local macro_rules | `(tactic| k_ne) => `(tactic| assumption)
local macro_rules | `(tactic| k_all) => `(tactic| first | exact Mine.Cut.nil | (refine' Mine.Cut.drop ?a ?b; (case a => k_mem); (case b => k_all)) | (refine' Mine.Cut.keep ?a ?b; (case a => k_all); (case b => k_all)))
local macro_rules | `(tactic| k_all) => `(tactic| (refine' List.forall_mem_cons.mpr ⟨?a, ?b⟩; (case a => k_mem); (case b => k_all)))
section
open PySem PySem.W PyProof.Rows PySem.Calls PySem.Flt
set_option maxRecDepth 100000
namespace Mine
namespace FN
theorem slot_ga : Slot "function" "__getattribute__" "object.__getattribute__" :=
  .of (owner := "object") (n := "__getattribute__") (by rw [typeLookup_type, builtinLookup_eq_fast]; kernel_rfl) (by decide +kernel) (by decide +kernel) (by decide +kernel)
    (by first | exact .inl (by decide +kernel) | exact .inr (by decide +kernel)) (by rw [isSubtype_type]; kernel_rfl)
theorem slot_sa : Slot "function" "__setattr__" "object.__setattr__" :=
  .of (owner := "object") (n := "__setattr__") (by rw [typeLookup_type, builtinLookup_eq_fast]; kernel_rfl) (by decide +kernel) (by decide +kernel) (by decide +kernel)
    (by first | exact .inl (by decide +kernel) | exact .inr (by decide +kernel)) (by rw [isSubtype_type]; kernel_rfl)
theorem lk_getattr : typeLookup (.type "function") "__getattr__" = pure none := by rw [typeLookup_type, builtinLookup_eq_fast]; kernel_rfl
theorem lk_read : typeLookup (.type "function") (Str.ofString "read") = pure none := by rw [typeLookup_type, builtinLookup_eq_fast]; kernel_rfl
theorem canon : (Manifest.canonical "object.__getattribute__" != "object.__getattribute__") = false := by decide +kernel
theorem args_ga (a b : Value) : argsOk "object.__getattribute__" ⟨[a, b], []⟩ := by unfold argsOk; kernel_rfl
theorem args_sa (a b c : Value) : argsOk "object.__setattr__" ⟨[a, b, c], []⟩ := by unfold argsOk; kernel_rfl
theorem sub_static : isSubtype (.type "function") (.type "staticmethod") = pure false := by rw [isSubtype_type]; kernel_rfl
theorem sub_classm : isSubtype (.type "function") (.type "classmethod") = pure false := by rw [isSubtype_type]; kernel_rfl
end FN
section
variable {prog : Program} {w : World} {A : Around} {E : Value → Shared → Prop} {h : Heap} {g : Array GenState} {d : Drawn} {t : Nat} {os : OsState} {f ds : Addr} {fd : FuncData} {md : Str → Option Value}
theorem fn_object_entry {name : Str} {tk : Tok} {v : Value} {Q : Fin → Shared → Prop} (ho : h.get? f = some { cls := .type "function", dict := some ds, data := .func fd }) (hD : h.Ns ds md) (hnm : typeLookup (.type "function") name = pure none) (hv : md name = some v)
    (hq : Q (.done (.ret v)) ⟨h, g, d, t, os⟩) : wpAny (model prog w) A (Builtin.«object.__getattribute__» ⟨[.ref f, .str name tk], []⟩) Q E ⟨h, g, d, t, os⟩ := by
  have hT : (⟨h, g, d, t, os⟩ : Shared).TypeIs (.ref f) "function" := ⟨_, ho, rfl⟩
  have f1 := FN.sub_static
  have f2 := FN.sub_classm
  repeat (any_goals (first | assumption | with_reducible apply wpAny_nsGet_known | with_reducible apply wpAny_loadPart_known | wp_step))
theorem fn_getAttr {name : Str} {v : Value} {ex : Bool} {Q : Value → Shared → Prop} (ho : h.get? f = some { cls := .type "function", dict := some ds, data := .func fd }) (hD : h.Ns ds md) (hnm : typeLookup (.type "function") name = pure none) (hv : md name = some v)
    (hh : handedOut v = pure v) (hq : Q v ⟨h, g, d, t + 1, os⟩) : wpAny (model prog w) A (getAttr (.ref f) name ex) Q E ⟨h, g, d, t, os⟩ := by
  have hT : (⟨h, g, d, t, os⟩ : Shared).TypeIs (.ref f) "function" := ⟨_, ho, rfl⟩
  have hT1 : (⟨h, g, d, t + 1, os⟩ : Shared).TypeIs (.ref f) "function" := ⟨_, ho, rfl⟩
  have f1 := FN.slot_ga.lookup
  have f2 := FN.lk_getattr
  have f4 := FN.slot_ga.bind (.ref f)
  cases ex
  all_goals (
    repeat (any_goals (first | assumption | (rw [if_neg (show ¬ (true && onTheHeap (Value.builtin "object.__getattribute__")) = true by decide)]) | wp_step))
    refine codeAny_call_builtin FN.slot_ga.plain F.entry_object_getattribute (FN.slot_ga.check _ _ _ _ _ _ _ _ hT1 (FN.args_ga _ _) (fn_object_entry ho hD hnm hv ?_))
    repeat (any_goals (first | assumption | wp_step)))
theorem fn_getMethod {name : Str} {v : Value} {pl : Sem Bool} {Q : Value × List Value → Shared → Prop} (ho : h.get? f = some { cls := .type "function", dict := some ds, data := .func fd }) (hD : h.Ns ds md) (hnm : typeLookup (.type "function") name = pure none) (hv : md name = some v)
    (hh : handedOut v = pure v) (hq : Q (v, []) ⟨h, g, d, t + 1, os⟩) : wpAny (model prog w) A (getMethod (.ref f) name pl) Q E ⟨h, g, d, t, os⟩ := by
  have hT : (⟨h, g, d, t, os⟩ : Shared).TypeIs (.ref f) "function" := ⟨_, ho, rfl⟩
  have f2 := FN.lk_getattr
  unfold getMethod
  refine wpAny_bind (wpAny_specialOf hT FN.slot_ga.lookup ?_)
  show wpAny _ A (if (Manifest.canonical "object.__getattribute__" != "object.__getattribute__") = true then _ else _) Q E _
  rw [FN.canon, if_neg (by decide)]
  refine wpAny_bind (wpAny_specialOf hT f2 ?_)
  refine wpAny_ite ?_
  rw [if_neg (by simp)]
  refine wpAny_bind (wpAny_specialOf hT hnm ?_)
  refine wpAny_bind (fn_getAttr ho hD hnm hv hh ?_)
  exact wpAny_pure hq
end
end Mine
end
section
open PySem PySem.W PyProof.Rows PySem.Calls PySem.Flt
open Sem (wp)
set_option maxRecDepth 100000
namespace Mine
abbrev citObj (q : Addr) (ts : Tok) : Obj := { cls := .type "callable_iterator", data := .fields #[.ref q, .str (Str.ofString "") ts, .bool false] }
abbrev citEnd : Obj := { cls := .type "callable_iterator", data := .fields #[.none, .none, .bool true] }
namespace CT
theorem slot_next : Slot "callable_iterator" "__next__" "callable_iterator.__next__" :=
  .of (owner := "callable_iterator") (n := "__next__") (by rw [typeLookup_type, builtinLookup_eq_fast]; kernel_rfl) (by decide +kernel) (by decide +kernel) (by decide +kernel)
    (by first | exact .inl (by decide +kernel) | exact .inr (by decide +kernel)) (by rw [isSubtype_type]; kernel_rfl)
theorem slot_iter : Slot "callable_iterator" "__iter__" "callable_iterator.__iter__" :=
  .of (owner := "callable_iterator") (n := "__iter__") (by rw [typeLookup_type, builtinLookup_eq_fast]; kernel_rfl) (by decide +kernel) (by decide +kernel) (by decide +kernel)
    (by first | exact .inl (by decide +kernel) | exact .inr (by decide +kernel)) (by rw [isSubtype_type]; kernel_rfl)
theorem entry_next : entryFor table "callable_iterator.__next__" = some Builtin.«callable_iterator.__next__» := entryFor_of_tree (by kernel_rfl)
theorem args_next (a : Value) : argsOk "callable_iterator.__next__" ⟨[a], []⟩ := by unfold argsOk; kernel_rfl
theorem entry_iter : entryFor table "callable_iterator.__iter__" = some Builtin.«dict_keyiterator.__iter__» :=
  entryFor_alias (id' := "dict_keyiterator.__iter__") (by rw [fastTable_eq_tree]; kernel_rfl) (by first | rfl | decide +kernel) (by decide +kernel) (by rw [fastTable_eq_tree]; kernel_rfl)
theorem args_iter (a : Value) : argsOk "callable_iterator.__iter__" ⟨[a], []⟩ := by unfold argsOk; kernel_rfl
theorem kind_it : builtinKind "iter" = none := by decide +kernel
theorem plain_it : plainId "iter" = true := by decide +kernel
theorem entry_it : entryFor table "iter" = some Builtin.«iter» := entryFor_of_tree (by kernel_rfl)
theorem args_it (a b : Value) : argsOk "iter" ⟨[a, b], []⟩ := by unfold argsOk; kernel_rfl
theorem lk_call : typeLookup (.type "method") "__call__" = pure (some (.builtin "method.__call__")) := by rw [typeLookup_type, builtinLookup_eq_fast]; kernel_rfl
end CT
section
variable {prog : Program} {w : World} {A : Around} {E : Value → Shared → Prop} {s : Shared}
theorem borrowed_call {f : Value} {pos : List Value} {Q : Value → Shared → Prop}
    (hc : codeAny (model prog w) A (.call f ⟨pos, []⟩) (fun r s' => match r with | .ok (.ret v) => Q v s' | .ok _ => False | .error e => E e s') s) :
    wpAny (model prog w) A (callBorrowed f pos) Q E s := fun Γ p hΓ => by
  unfold callBorrowed
  rw [Sem.wp_call]
  refine wpCode_mono (fun r s' h' => ?_) (hc _ p rfl (hΓ.enter _ none p (by intro x; cases x)))
  cases r with
  | error e => exact h'
  | ok f => cases f <;> exact h'
theorem borrows_meth {q f : Addr} {self : Value} {o : Obj} {fd : FuncData} {Q : Bool → Shared → Prop} (hq : s.heap.get? q = some (methodObj (.ref f) self)) (hf : s.heap.get? f = some o) (hd : o.data = .func fd) (h : Q true s) :
    wpAny (model prog w) A (borrowsExactly (.ref q)) Q E s := by
  unfold borrowsExactly
  refine wpAny_bind (wpAny_load hq ?_)
  refine wpAny_ite ?_
  rw [if_pos (show ((methodObj (Value.ref f) self).cls == Value.type "method") = true from (by decide : (Value.type "method" == Value.type "method") = true))]
  refine wpAny_bind (wpAny_load hf ?_)
  rw [hd]
  exact wpAny_pure h
theorem stop_now {α : Type} {P : α → Shared → Prop} {Q : Option Value → Shared → Prop} (hh : A.handled = none)
    (hQ : ∀ h', (∀ b o, s.heap.get? b = some o → h'.get? b = some o) → Q none { s with heap := h' }) :
    wpAny (model prog w) A.in1 (Builtin.SmallTypes.stopIteration : Sem α) P
      (fun e s' => wpAny (model prog w) A (do if ← isInstance e (.type "StopIteration") then pure none else throw e) Q E s') s := by
  show wpAny _ _ (newExc (.type "StopIteration") [] >>= _) _ _ _
  refine wpAny_bind ?_
  simp only [newExc, newTuple]
  refine wpAny_bind (wpAny_newObj_type ?_ (by size_fits))
  refine wpAny_bind (m := firstArgMember _ _) (wpAny_of_eq (a := Value.none) (by first | rfl | (simp only [firstArgMember]; rfl)) ?_)
  refine wpAny_newObj_type ?_ (by size_fits)
  simp only [raiseNew]
  refine wpAny_bind (wpAny_handled ?_)
  rw [show A.in1.handled = none from hh]
  refine wpAny_bind (wpAny_pure (wpAny_throw ?_))
  refine wpAny_bind (wpAny_isInstance (T := "StopIteration") (b := true) ⟨_, Heap.get?_push_size _ rfl, rfl⟩ isSubtype_stop ?_)
  exact wpAny_pure (hQ _ fun b o e => Heap.get?_push_of_some _ (Heap.get?_push_of_some _ e))
theorem cit_next {it q f : Addr} {self : Value} {ts : Tok} {o : Obj} {fd : FuncData} {Q : Option Value → Shared → Prop} (hh : A.handled = none)
    (hi : s.heap.get? it = some (citObj q ts)) (hq : s.heap.get? q = some (methodObj (.ref f) self)) (hf : s.heap.get? f = some o) (hd : o.data = .func fd)
    (h : codeAny (model prog w) A.in1 (.call (.ref f) ⟨[self], []⟩) (fun r s' => match r with
      | .ok (.ret v) => ∃ sg tg, v = .str sg tg ∧ s'.heap.get? it = some (citObj q ts) ∧ s'.heap.get? q = some (methodObj (.ref f) self) ∧ s'.heap.get? f = some o ∧
          (sg ≠ Str.ofString "" → Q (some (.str sg tg)) s') ∧ (sg = Str.ofString "" → ∀ h', h'.get? it = some citEnd → (∀ b o, b ≠ it → s'.heap.get? b = some o → h'.get? b = some o) → Q none { s' with heap := h' })
      | .ok _ => False | .error _ => False) s) : wpAny (model prog w) A (pyNext (.ref it)) Q E s := by
  have hT : s.TypeIs (.ref it) "callable_iterator" := ⟨_, hi, rfl⟩
  unfold pyNext
  refine wpAny_bind (wpAny_attempt (wpAny_callSpecial?_slot (name := Str.ofString "__next__") hT CT.slot_next (wpAny_call_entry CT.slot_next hT CT.entry_next ?_ (CT.args_next _))))
  show wpAny _ _ (field (.ref it) 2 >>= _) _ _ s
  refine wpAny_bind (wpAny_field hi rfl (x := .bool false) rfl ?_)
  show wpAny _ _ (if (Value.bool false == Value.bool true) = true then _ else _) _ _ s
  rw [if_neg (by decide)]
  refine wpAny_bind (wpAny_field hi rfl (x := .ref q) rfl ?_)
  refine wpAny_bind (wpAny_attempt ?_)
  unfold callOutOfASlot
  refine wpAny_bind (borrows_meth hq hf hd ?_)
  refine borrowed_call (method_call hq (codeAny_mono h fun r s' h' => ?_))
  cases r with
  | error e => exact h'.elim
  | ok fl => cases fl with
    | ret v =>
      obtain ⟨sg, tg, rfl, hi', hq', hf', hne, he⟩ := h'
      show wpAny _ _ (field (.ref it) 2 >>= _) _ _ s'
      refine wpAny_bind (wpAny_field hi' rfl (x := .bool false) rfl ?_)
      show wpAny _ _ (if (Value.bool false == Value.bool true) = true then _ else _) _ _ s'
      rw [if_neg (by decide)]
      refine wpAny_bind (wpAny_field hi' rfl (x := .str (Str.ofString "") ts) rfl ?_)
      refine wpAny_bind (wpAny_holding (wpAny_eqBool_str ?_))
      by_cases c : sg = Str.ofString ""
      · rw [decide_eq_true c.symm]
        show wpAny _ _ (rule _ >>= _) _ _ s'
        refine wpAny_bind (wpAny_rule ?_)
        refine wpAny_bind ?_
        wp_delta
        refine wpAny_bind (wpAny_field hi' rfl (x := .ref q) rfl ?_)
        refine wpAny_bind ?_
        show wpAny _ _ (borrowsExactly (.ref q) >>= _) _ _ s'
        refine wpAny_bind (borrows_meth hq' hf' hd ?_)
        rw [if_pos rfl]
        refine wpAny_pure ?_
        refine wpAny_bind (wpAny_setField_rec hi' (by simp) fun h1 e1 b1 => ?_)
        refine wpAny_bind (wpAny_setField_rec e1 (by simp) fun h2 e2 b2 => ?_)
        refine wpAny_setField_rec e2 (by simp) fun h3 e3 b3 => ?_
        refine stop_now hh fun h4 k4 => ?_
        exact he c h4 (k4 _ _ e3) fun b o hb e => k4 _ _ ((b3.2 b hb).trans ((b2.2 b hb).trans ((b1.2 b hb).trans e)))
      · rw [decide_eq_false (fun e => c e.symm)]
        rw [if_pos (by decide)]
        exact wpAny_pure ⟨_, rfl, wpAny_pure (hne c)⟩
    | _ => exact h'.elim
theorem cit_ended {it : Addr} {Q : Option Value → Shared → Prop} (hh : A.handled = none) (hi : s.heap.get? it = some citEnd)
    (hQ : ∀ h', (∀ b o, s.heap.get? b = some o → h'.get? b = some o) → Q none { s with heap := h' }) : wpAny (model prog w) A (pyNext (.ref it)) Q E s := by
  have hT : s.TypeIs (.ref it) "callable_iterator" := ⟨_, hi, rfl⟩
  unfold pyNext
  refine wpAny_bind (wpAny_attempt (wpAny_callSpecial?_slot (name := Str.ofString "__next__") hT CT.slot_next (wpAny_call_entry CT.slot_next hT CT.entry_next ?_ (CT.args_next _))))
  show wpAny _ _ (field (.ref it) 2 >>= _) _ _ s
  refine wpAny_bind (wpAny_field hi rfl (x := .bool true) rfl ?_)
  show wpAny _ _ (if (Value.bool true == Value.bool true) = true then _ else _) _ _ s
  rw [if_pos (by decide)]
  refine wpAny_bind (wpAny_rule ?_)
  exact wpAny_bind (stop_now hh hQ)
theorem cit_iter {it : Addr} {Q : Value → Shared → Prop} {fs : Array Value} (hi : s.heap.get? it = some { cls := .type "callable_iterator", data := .fields fs }) (hQ : Q (.ref it) s) :
    wpAny (model prog w) A (pyIter (.ref it)) Q E s := by
  have hT : s.TypeIs (.ref it) "callable_iterator" := ⟨_, hi, rfl⟩
  refine wpAny_pyIter_slot hT CT.slot_iter (wpAny_call_entry CT.slot_iter hT CT.entry_iter ?_ (CT.args_iter _))
  show wpAny _ _ (slotArgs "__iter__" 0 ⟨[.ref it], []⟩ >>= _) _ _ s
  exact wpAny_bind (m := slotArgs "__iter__" 0 _) (wpAny_pure (a := (Value.ref it, [])) (wpAny_pure ⟨_, rfl, "callable_iterator", _, hT, CT.slot_next.lookup, hQ⟩))
theorem cit_make {q : Addr} {f self : Value} {ts : Tok} {Q : Value → Shared → Prop} (hq : s.heap.get? q = some (methodObj f self))
    (hQ : Q (.ref s.heap.objs.size) { s with heap := s.heap.push (citObj q ts) }) :
    wpAny (model prog w) A (call (.builtin "iter") [.ref q, .str (Str.ofString "") ts]) Q E s := by
  have hT : s.TypeIs (.ref q) "method" := ⟨_, hq, rfl⟩
  refine Calls.call_function_entry CT.kind_it CT.plain_it CT.entry_it (CT.args_it _ _) ?_
  unfold Builtin.«iter»
  refine wpAny_bind (m := someArgs "iter" 1 2 _) (wpAny_pure (a := [Value.ref q, Value.str (Str.ofString "") ts]) ?_)
  refine wpAny_bind (wpAny_specialOf hT CT.lk_call ?_)
  show wpAny _ _ (rule _ >>= _) _ _ s
  refine wpAny_bind (wpAny_rule ?_)
  exact wpAny_bind (wpAny_newObj_type (wpAny_pure ⟨_, rfl, hQ⟩) (by size_fits))
end
end Mine
end
section
open PySem PySem.W PyProof.Rows PySem.Calls PySem.Flt
set_option maxRecDepth 100000
namespace Mine
section
variable {prog : Program} {w : World} {A : Around} {E : Value → Shared → Prop} {h : Heap} {g : Array GenState} {d : Drawn} {t : Nat} {os : OsState} {f ds : Addr} {fd : FuncData} {md : Str → Option Value}
theorem fn_refuse {Q : Unit → Shared → Prop} (hT : (⟨h, g, d, t, os⟩ : Shared).TypeIs (.ref f) "function") (hq : Q () ⟨h, g, d, t, os⟩) :
    wpAny (model prog w) A (Builtin.ObjectAttr.refuseIfOverridden (.ref f) "__setattr__") Q E ⟨h, g, d, t, os⟩ := by
  unfold Builtin.ObjectAttr.refuseIfOverridden
  refine wpAny_bind (wpAny_typeOf hT ?_)
  refine wpAny_of_eq (a := ()) ?_ hq
  kernel_rfl
theorem fn_osa {tk : Tok} {v : Value} {Q : Fin → Shared → Prop} (ho : h.get? f = some { cls := .type "function", data := .func fd }) 
    (hq : Q (.done (.ret .none)) ⟨((h.push (dictOf [] 0)).update f (fun o => { o with dict := some h.objs.size })).update h.objs.size (Obj.putName "read" (PyData.keyHash w.params "read") (.str "read" t) v), g, d, t + 1, os⟩) :
    wpAny (model prog w) A (Builtin.«object.__setattr__» ⟨[.ref f, .str "read" tk, v], []⟩) Q E ⟨h, g, d, t, os⟩ := by
  have hnm := FN.lk_read
  have hT : (⟨h, g, d, t, os⟩ : Shared).TypeIs (.ref f) "function" := ⟨_, ho, rfl⟩
  have f1 := FN.sub_static
  have f2 := FN.sub_classm
  have hne : f ≠ h.objs.size := Nat.ne_of_lt (Heap.lt_size ho)
  repeat (any_goals (first | assumption | with_reducible refine fn_refuse hT ?_ | with_reducible apply wpAny_nsGet_known | with_reducible apply wpAny_loadPart_known | wp_step))
  refine wpAny_askSetting (wpAny_pure ?_)
  refine wpAny_bind (wpAny_mkText ?_)
  refine wpAny_bind ?_
  have hd1 : ((h.push { cls := .type "dict", data := .dict #[] }).update f (fun o => { o with dict := some h.objs.size })).get? h.objs.size = some { cls := .type "dict", data := .dict #[] } :=
    (Heap.get?_update_ne _ _ _ _ (Ne.symm hne)).trans (Heap.get?_push_size _ rfl)
  refine wpAny_loadPart hd1 ?_
  dsimp only
  refine wpAny_ite ?_
  rw [if_neg (show ¬ (aRefKeyMayBeTheName (Str.ofString "read") #[] = true) by decide)]
  refine wpAny_updatePart hd1 ?_
  refine wpAny_bind (wpAny_lookBehind (Heap.get?_update_self _ hd1 rfl) ?_ ?_)
  · show (Obj.putName (Str.ofString "read") _ _ v (dictOf [] 0)).data.pastItsLine = none
    rw [putName_dict]
    exact pastItsLine_dict (by show 1 ≤ sizeLine + 1; rw [sizeLine_eq]; decide)
  · exact wpAny_pure hq
theorem fn_setAttr {v : Value} {Q : Unit → Shared → Prop} (ho : h.get? f = some { cls := .type "function", data := .func fd })
    (hq : Q () ⟨((h.push (dictOf [] 0)).update f (fun o => { o with dict := some h.objs.size })).update h.objs.size (Obj.putName "read" (PyData.keyHash w.params "read") (.str "read" (t + 1)) v), g, d, t + 2, os⟩) :
    wpAny (model prog w) A (setAttr (.ref f) "read" v) Q E ⟨h, g, d, t, os⟩ := by
  have hT1 : (⟨h, g, d, t + 1, os⟩ : Shared).TypeIs (.ref f) "function" := ⟨_, ho, rfl⟩
  unfold setAttr
  refine wpAny_bind (wpAny_mkText ?_)
  refine wpAny_bind (wpAny_callSpecial?_slot hT1 FN.slot_sa (wpAny_call ?_))
  refine codeAny_call_builtin FN.slot_sa.plain F.entry_object_setattr (FN.slot_sa.check _ _ _ _ _ _ _ _ hT1 (FN.args_sa _ _ _) (fn_osa ho ?_))
  exact wpAny_pure hq
end
section
variable {prog : Program} {w : World} {A : Around} {E : Value → Shared → Prop} {s : Shared} {h₀ : Heap} {L f : Addr} {m : Str → Option Value} {news : Led} {g : Obj → Led} {fd : FuncData}
theorem fn_setAttr_N {v : Value} {Q : Unit → Shared → Prop} (F : Fr h₀ L s.heap m) (N : News h₀ L s.heap news) (U : UpdF f { cls := .type "function", data := .func fd } news g)
    (hq : ∀ ds h', Fr h₀ L h' m → News h₀ L h' ((ds, dictOf [⟨PyData.keyHash w.params (Str.ofString "read"), .str (Str.ofString "read") (s.toks + 1), v⟩] 1) :: g { cls := .type "function", dict := some ds, data := .func fd }) → (∀ q ∈ news, q.1 < ds) → Q () { s with heap := h', toks := s.toks + 2 }) :
    wpAny (model prog w) A (setAttr (.ref f) (Str.ofString "read") v) Q E s := by
  obtain ⟨pre, post, rfl, hg, a, b⟩ := U.split
  have ho := (N (f, _) (List.mem_append_right _ (.head _))).1
  have lt : ∀ q ∈ pre ++ (f, ({ cls := .type "function", data := .func fd } : Obj)) :: post, q.1 < s.heap.objs.size := fun q hq => Heap.lt_size (N q hq).1
  obtain ⟨h, gs, d, t, os⟩ := s
  refine fn_setAttr ho ?_
  obtain ⟨F1, N1⟩ := news_upd (pre := (h.objs.size, dictOf [] 0) :: pre) (f := fun o => { o with dict := some h.objs.size }) (F.push (dictOf [] 0)) (N.push F (dictOf [] 0))
    (fun p hp => by
      rcases List.mem_cons.mp hp with rfl | hp
      · exact Nat.ne_of_gt (Heap.lt_size ho)
      · exact a p hp) b rfl rfl
  obtain ⟨F2, N2⟩ := news_upd (pre := []) (f := Obj.putName (Str.ofString "read") (PyData.keyHash w.params (Str.ofString "read")) (.str (Str.ofString "read") (t + 1)) v) F1 N1 (fun p hp => nomatch hp)
    (fun p hp => by
      rcases List.mem_append.mp hp with hp | hp
      · exact Nat.ne_of_lt (lt p (List.mem_append_left _ hp))
      · rcases List.mem_cons.mp hp with rfl | hp
        · exact Nat.ne_of_lt (Heap.lt_size ho)
        · exact Nat.ne_of_lt (lt p (List.mem_append_right _ (.tail _ hp)))) (putName_dict _ _ _ _ [] 0) rfl
  exact hq _ _ F2 (hg _ ▸ N2) lt
end
end Mine
end
section
open PySem PySem.W PyProof.Rows PySem.Calls
set_option maxRecDepth 100000
namespace Mine
abbrev ent (w : World) (n : String) (t : Tok) (v : Value) : DictEntry := ⟨PyData.keyHash w.params (Str.ofString n), .str (Str.ofString n) t, v⟩
abbrev lexDict (w : World) (t1 t2 t3 t4 tl tw : Tok) (ln : Int) (st pb : Addr) : Obj :=
  dictOf [ent w "lineno" t1 (.int ln tl), ent w "instream" t2 (.ref st), ent w "whitespace" t3 (.str (Str.ofString "\n\t\r ") tw), ent w "pushback" t4 (.ref pb)] 4
abbrev strObj (ds : Addr) (fd : FuncData) : Obj := { cls := .type "function", dict := some ds, data := .func fd }
def innerDef : Option Obj → Stmt
  | some ⟨_, _, .func fd, _⟩ => (match fd.body with | .stmts (_ :: d :: _) => d | _ => .Pass ⟨0, 0, 0, 0⟩)
  | _ => .Pass ⟨0, 0, 0, 0⟩
theorem codeHd_of {P : Params} {h : Heap} (X : (Mine.hd0.heap_1_1 P).In h) : CodeHd h 106 102 :=
  ⟨_, _, _, _, _, _, _, _, _, X 106 _ rfl, rfl, rfl, rfl, rfl, rfl, rfl, rfl, rfl, by decide⟩
theorem ns_of {h : Heap} {a : Addr} {n : Str} {hsh : Int} {t : Tok} {v : Value} {k : Nat} (ho : h.get? a = some (dictOf [⟨hsh, .str n t, v⟩] k)) : ∃ md, h.Ns a md ∧ md n = some v := by
  refine ⟨_, ⟨_, _, _, ho, rfl, ?_, fun _ => rfl⟩, ?_⟩
  · intro e he
    simp at he
    subst he
    exact ⟨_, _, rfl⟩
  · simp [nsFind, findBy, Value.isStr]
theorem fn_getMethod_N {prog : Program} {w : World} {A : Around} {E : Value → Shared → Prop} {s : Shared} {h₀ : Heap} {L f ds : Addr} {news : Led} {fd : FuncData} {hsh : Int} {t : Tok} {v : Addr} {n : Nat} {pl : Sem Bool} {Q : Value × List Value → Shared → Prop}
    (N : News h₀ L s.heap news) (h1 : (f, strObj ds fd) ∈ news) (h2 : (ds, dictOf [⟨hsh, .str (Str.ofString "read") t, .ref v⟩] n) ∈ news) (hq : Q (.ref v, []) { s with toks := s.toks + 1 }) :
    wpAny (model prog w) A (getMethod (.ref f) (Str.ofString "read") pl) Q E s := by
  obtain ⟨md, hD, hv⟩ := ns_of (N _ h2).1
  exact fn_getMethod (N _ h1).1 hD FN.lk_read hv rfl hq
local macro_rules | `(tactic| walk_at "getMethod ref") => `(tactic| (k_here; (with_reducible show wpAny _ _ (getMethod (Value.ref _) (Str.ofString "read") _) _ _ _); k_dflt (refine' fn_getMethod_N ?N ?a ?b ?_; (case N => k_asm); (case a => k_mem); (case b => k_mem))))
def chAt (page : Str) (k : Int) : Str := Txt.slice page (some k) (some (k + 1))
/-- the lexer's objects -/
structure LX where
  (x dx st ds fn cc cA cP al pb : Addr) (t1 t2 t3 t4 tw t5 tq tp : Tok) (fdS : FuncData) (qual page : Str) (params : Arguments) (body : List Stmt) (scope : Scope) (doc pm ctv : Value) (oc oA oP : Obj) (vs : Array Value)
abbrev lexL (w : World) (I : LX) (ln k : Int) (tl tk : Tok) (n : Nat) (pbs : List Value) (nb : Nat) : Led :=
    [(I.x, instObj 96 I.dx), (I.dx, lexDict w I.t1 I.t2 I.t3 I.t4 tl I.tw ln I.st I.pb), (I.st, strObj I.ds I.fdS), (I.ds, dictOf [ent w "read" I.t5 (.ref I.fn)] 1),
     (I.fn, fnMade "_law_read_on" I.qual I.params I.body I.scope [("page", I.cP), ("at", I.cA)] I.doc I.pm I.cc I.ctv), (I.cc, I.oc), (I.cA, I.oA), (I.cP, I.oP), (I.al, W.listOf [.int k tk].toArray n), (I.pb, W.listOf pbs.toArray nb)]
structure LXok (w : World) (I : LX) : Prop where
  hdef : ∃ pos, innerDef ((Mine.hd0.heap_1_1 w.params).lookup 107) = .FunctionDef "_law_read_on" I.params I.body [] none [] I.scope none "_law_read_on" pos
  hoc : I.oc.data = .fields I.vs
  hq : I.vs[1]? = some (.str I.qual I.tq)
  hoA : I.oA.data = .cell (some (.ref I.al))
  hoP : I.oP.data = .cell (some (.str I.page I.tp))
  hpg : I.page.length ≤ 1000
  ha1 : ∀ b ∈ [I.x, I.dx, I.st, I.ds, I.fn, I.cc, I.cA, I.cP, I.pb], b ≠ I.al
  ha2 : ∀ b ∈ [I.x, I.st, I.ds, I.fn, I.cc, I.cA, I.cP, I.al, I.pb], b ≠ I.dx
  ha3 : ∀ b ∈ [I.x, I.dx, I.st, I.ds, I.fn, I.cc, I.cA, I.cP, I.al], b ≠ I.pb
set_option maxHeartbeats 4000000 in
theorem neLX : Nonempty LX := by constructor; constructor <;> exact default
theorem skolL {P : LX → Prop} (h : P (skz neLX P)) : ∀ x, P x := skolN _ h
theorem read_ctr (w : World) (I : LX) (ln k : Int) (tl tk : Tok) (n : Nat) (pbs : List Value) (nb : Nat) (hI : LXok w I) (hk0 : 0 ≤ k) (hk : k ≤ 1000) (hln0 : 0 ≤ ln) (hln : ln ≤ 1000) :
   Ctr w 79 [.ref I.x] [] 3 (fun _ => True) (lexL w I ln k tl tk n pbs nb)
     (fun r kept new => ∃ t tl' tk', r = .str (chAt I.page k) t ∧ new = [] ∧ kept = lexL w I (if chAt I.page k = "\n" then ln + 1 else ln) (k + (chAt I.page k).length) tl' tk' n pbs nb) := by
  w_top off
  obtain ⟨⟨pos, hdef⟩, hoc, hq, hoA, hoP, hpg, ha1, ha2, -⟩ := hI
  obtain ⟨x, dx, st, ds, fn, cc, cA, cP, al, pb, t1, t2, t3, t4, tw, t5, tq, tp, fdS, qual, page, params, body, scope, doc, pm, ctv, oc, oA, oP, vs⟩ := I
  dsimp only at hdef hoc hq hoA hoP hpg ha1 ha2
  generalize hI : innerDef ((Mine.hd0.heap_1_1 w.params).lookup 107) = I at hdef
  conv at hI => (lhs; whnf)
  subst hI
  cases hdef
  simp only [List.forall_mem_cons] at ha1 ha2
  obtain ⟨_, _, _, _, _, _, _, _, _, _⟩ := ha1
  obtain ⟨_, _, _, _, _, _, _, _, _, _⟩ := ha2
  have hia : IntsAre [Value.int k tk] [k] := .cons _ _ .nil
  dsimp only [lexL]
  have hK0 : (fun w : World => Mine.hd0.heap_1_1 w.params, PySem.Challenge.rw_to0042_01) = (fun w : World => Mine.hd0.heap_1_1 w.params, PySem.Challenge.rw_to0042_01) := by (k_fill; rfl)
  clear hK0
  revert w ln k tl tk n pbs nb x dx st ds fn cc cA cP al pb t1 t2 t3 t4 tw t5 tq tp fdS qual page doc pm ctv oc oA oP vs
  first | (refine no_implicit_lambda% (skol4 (by first | exact ⟨default⟩ | exact neWorld | exact neShared | exact neAround | exact neLX) (by first | exact ⟨default⟩ | exact neWorld | exact neShared | exact neAround | exact neLX) (by first | exact ⟨default⟩ | exact neWorld | exact neShared | exact neAround | exact neLX) (by first | exact ⟨default⟩ | exact neWorld | exact neShared | exact neAround | exact neLX) ?_); generalize @sk4a _ _ _ _ _ _ _ _ _ = w; generalize @sk4b _ _ _ _ _ _ _ _ _ = ln; generalize @sk4c _ _ _ _ _ _ _ _ _ = k; generalize @sk4d _ _ _ _ _ _ _ _ _ = tl) | ((first | ((first | refine no_implicit_lambda% (skol ?_) | refine no_implicit_lambda% (skolW ?_) | refine no_implicit_lambda% (skolL ?_) | refine no_implicit_lambda% (skolS ?_) | refine no_implicit_lambda% (skolA ?_)); generalize @skz _ _ _ = w) | intro w); (first | ((first | refine no_implicit_lambda% (skol ?_) | refine no_implicit_lambda% (skolW ?_) | refine no_implicit_lambda% (skolL ?_) | refine no_implicit_lambda% (skolS ?_) | refine no_implicit_lambda% (skolA ?_)); generalize @skz _ _ _ = ln) | intro ln); (first | ((first | refine no_implicit_lambda% (skol ?_) | refine no_implicit_lambda% (skolW ?_) | refine no_implicit_lambda% (skolL ?_) | refine no_implicit_lambda% (skolS ?_) | refine no_implicit_lambda% (skolA ?_)); generalize @skz _ _ _ = k) | intro k); (first | ((first | refine no_implicit_lambda% (skol ?_) | refine no_implicit_lambda% (skolW ?_) | refine no_implicit_lambda% (skolL ?_) | refine no_implicit_lambda% (skolS ?_) | refine no_implicit_lambda% (skolA ?_)); generalize @skz _ _ _ = tl) | intro tl))
  first | (refine no_implicit_lambda% (skol4 (by first | exact ⟨default⟩ | exact neWorld | exact neShared | exact neAround | exact neLX) (by first | exact ⟨default⟩ | exact neWorld | exact neShared | exact neAround | exact neLX) (by first | exact ⟨default⟩ | exact neWorld | exact neShared | exact neAround | exact neLX) (by first | exact ⟨default⟩ | exact neWorld | exact neShared | exact neAround | exact neLX) ?_); generalize @sk4a _ _ _ _ _ _ _ _ _ = tk; generalize @sk4b _ _ _ _ _ _ _ _ _ = n; generalize @sk4c _ _ _ _ _ _ _ _ _ = pbs; generalize @sk4d _ _ _ _ _ _ _ _ _ = nb) | ((first | ((first | refine no_implicit_lambda% (skol ?_) | refine no_implicit_lambda% (skolW ?_) | refine no_implicit_lambda% (skolL ?_) | refine no_implicit_lambda% (skolS ?_) | refine no_implicit_lambda% (skolA ?_)); generalize @skz _ _ _ = tk) | intro tk); (first | ((first | refine no_implicit_lambda% (skol ?_) | refine no_implicit_lambda% (skolW ?_) | refine no_implicit_lambda% (skolL ?_) | refine no_implicit_lambda% (skolS ?_) | refine no_implicit_lambda% (skolA ?_)); generalize @skz _ _ _ = n) | intro n); (first | ((first | refine no_implicit_lambda% (skol ?_) | refine no_implicit_lambda% (skolW ?_) | refine no_implicit_lambda% (skolL ?_) | refine no_implicit_lambda% (skolS ?_) | refine no_implicit_lambda% (skolA ?_)); generalize @skz _ _ _ = pbs) | intro pbs); (first | ((first | refine no_implicit_lambda% (skol ?_) | refine no_implicit_lambda% (skolW ?_) | refine no_implicit_lambda% (skolL ?_) | refine no_implicit_lambda% (skolS ?_) | refine no_implicit_lambda% (skolA ?_)); generalize @skz _ _ _ = nb) | intro nb))
  first | ((first | refine no_implicit_lambda% (skol ?_) | refine no_implicit_lambda% (skolW ?_) | refine no_implicit_lambda% (skolL ?_) | refine no_implicit_lambda% (skolS ?_) | refine no_implicit_lambda% (skolA ?_)); generalize @skz _ _ _ = hk0) | intro hk0
  first | ((first | refine no_implicit_lambda% (skol ?_) | refine no_implicit_lambda% (skolW ?_) | refine no_implicit_lambda% (skolL ?_) | refine no_implicit_lambda% (skolS ?_) | refine no_implicit_lambda% (skolA ?_)); generalize @skz _ _ _ = hk) | intro hk
  first | ((first | refine no_implicit_lambda% (skol ?_) | refine no_implicit_lambda% (skolW ?_) | refine no_implicit_lambda% (skolL ?_) | refine no_implicit_lambda% (skolS ?_) | refine no_implicit_lambda% (skolA ?_)); generalize @skz _ _ _ = hln0) | intro hln0
  first | ((first | refine no_implicit_lambda% (skol ?_) | refine no_implicit_lambda% (skolW ?_) | refine no_implicit_lambda% (skolL ?_) | refine no_implicit_lambda% (skolS ?_) | refine no_implicit_lambda% (skolA ?_)); generalize @skz _ _ _ = hln) | intro hln
  first | (refine no_implicit_lambda% (skol4 (by first | exact ⟨default⟩ | exact neWorld | exact neShared | exact neAround | exact neLX) (by first | exact ⟨default⟩ | exact neWorld | exact neShared | exact neAround | exact neLX) (by first | exact ⟨default⟩ | exact neWorld | exact neShared | exact neAround | exact neLX) (by first | exact ⟨default⟩ | exact neWorld | exact neShared | exact neAround | exact neLX) ?_); generalize @sk4a _ _ _ _ _ _ _ _ _ = x; generalize @sk4b _ _ _ _ _ _ _ _ _ = dx; generalize @sk4c _ _ _ _ _ _ _ _ _ = st; generalize @sk4d _ _ _ _ _ _ _ _ _ = ds) | ((first | ((first | refine no_implicit_lambda% (skol ?_) | refine no_implicit_lambda% (skolW ?_) | refine no_implicit_lambda% (skolL ?_) | refine no_implicit_lambda% (skolS ?_) | refine no_implicit_lambda% (skolA ?_)); generalize @skz _ _ _ = x) | intro x); (first | ((first | refine no_implicit_lambda% (skol ?_) | refine no_implicit_lambda% (skolW ?_) | refine no_implicit_lambda% (skolL ?_) | refine no_implicit_lambda% (skolS ?_) | refine no_implicit_lambda% (skolA ?_)); generalize @skz _ _ _ = dx) | intro dx); (first | ((first | refine no_implicit_lambda% (skol ?_) | refine no_implicit_lambda% (skolW ?_) | refine no_implicit_lambda% (skolL ?_) | refine no_implicit_lambda% (skolS ?_) | refine no_implicit_lambda% (skolA ?_)); generalize @skz _ _ _ = st) | intro st); (first | ((first | refine no_implicit_lambda% (skol ?_) | refine no_implicit_lambda% (skolW ?_) | refine no_implicit_lambda% (skolL ?_) | refine no_implicit_lambda% (skolS ?_) | refine no_implicit_lambda% (skolA ?_)); generalize @skz _ _ _ = ds) | intro ds))
  first | (refine no_implicit_lambda% (skol4 (by first | exact ⟨default⟩ | exact neWorld | exact neShared | exact neAround | exact neLX) (by first | exact ⟨default⟩ | exact neWorld | exact neShared | exact neAround | exact neLX) (by first | exact ⟨default⟩ | exact neWorld | exact neShared | exact neAround | exact neLX) (by first | exact ⟨default⟩ | exact neWorld | exact neShared | exact neAround | exact neLX) ?_); generalize @sk4a _ _ _ _ _ _ _ _ _ = fn; generalize @sk4b _ _ _ _ _ _ _ _ _ = cc; generalize @sk4c _ _ _ _ _ _ _ _ _ = cA; generalize @sk4d _ _ _ _ _ _ _ _ _ = cP) | ((first | ((first | refine no_implicit_lambda% (skol ?_) | refine no_implicit_lambda% (skolW ?_) | refine no_implicit_lambda% (skolL ?_) | refine no_implicit_lambda% (skolS ?_) | refine no_implicit_lambda% (skolA ?_)); generalize @skz _ _ _ = fn) | intro fn); (first | ((first | refine no_implicit_lambda% (skol ?_) | refine no_implicit_lambda% (skolW ?_) | refine no_implicit_lambda% (skolL ?_) | refine no_implicit_lambda% (skolS ?_) | refine no_implicit_lambda% (skolA ?_)); generalize @skz _ _ _ = cc) | intro cc); (first | ((first | refine no_implicit_lambda% (skol ?_) | refine no_implicit_lambda% (skolW ?_) | refine no_implicit_lambda% (skolL ?_) | refine no_implicit_lambda% (skolS ?_) | refine no_implicit_lambda% (skolA ?_)); generalize @skz _ _ _ = cA) | intro cA); (first | ((first | refine no_implicit_lambda% (skol ?_) | refine no_implicit_lambda% (skolW ?_) | refine no_implicit_lambda% (skolL ?_) | refine no_implicit_lambda% (skolS ?_) | refine no_implicit_lambda% (skolA ?_)); generalize @skz _ _ _ = cP) | intro cP))
  first | (refine no_implicit_lambda% (skol4 (by first | exact ⟨default⟩ | exact neWorld | exact neShared | exact neAround | exact neLX) (by first | exact ⟨default⟩ | exact neWorld | exact neShared | exact neAround | exact neLX) (by first | exact ⟨default⟩ | exact neWorld | exact neShared | exact neAround | exact neLX) (by first | exact ⟨default⟩ | exact neWorld | exact neShared | exact neAround | exact neLX) ?_); generalize @sk4a _ _ _ _ _ _ _ _ _ = al; generalize @sk4b _ _ _ _ _ _ _ _ _ = pb; generalize @sk4c _ _ _ _ _ _ _ _ _ = t1; generalize @sk4d _ _ _ _ _ _ _ _ _ = t2) | ((first | ((first | refine no_implicit_lambda% (skol ?_) | refine no_implicit_lambda% (skolW ?_) | refine no_implicit_lambda% (skolL ?_) | refine no_implicit_lambda% (skolS ?_) | refine no_implicit_lambda% (skolA ?_)); generalize @skz _ _ _ = al) | intro al); (first | ((first | refine no_implicit_lambda% (skol ?_) | refine no_implicit_lambda% (skolW ?_) | refine no_implicit_lambda% (skolL ?_) | refine no_implicit_lambda% (skolS ?_) | refine no_implicit_lambda% (skolA ?_)); generalize @skz _ _ _ = pb) | intro pb); (first | ((first | refine no_implicit_lambda% (skol ?_) | refine no_implicit_lambda% (skolW ?_) | refine no_implicit_lambda% (skolL ?_) | refine no_implicit_lambda% (skolS ?_) | refine no_implicit_lambda% (skolA ?_)); generalize @skz _ _ _ = t1) | intro t1); (first | ((first | refine no_implicit_lambda% (skol ?_) | refine no_implicit_lambda% (skolW ?_) | refine no_implicit_lambda% (skolL ?_) | refine no_implicit_lambda% (skolS ?_) | refine no_implicit_lambda% (skolA ?_)); generalize @skz _ _ _ = t2) | intro t2))
  first | (refine no_implicit_lambda% (skol4 (by first | exact ⟨default⟩ | exact neWorld | exact neShared | exact neAround | exact neLX) (by first | exact ⟨default⟩ | exact neWorld | exact neShared | exact neAround | exact neLX) (by first | exact ⟨default⟩ | exact neWorld | exact neShared | exact neAround | exact neLX) (by first | exact ⟨default⟩ | exact neWorld | exact neShared | exact neAround | exact neLX) ?_); generalize @sk4a _ _ _ _ _ _ _ _ _ = t3; generalize @sk4b _ _ _ _ _ _ _ _ _ = t4; generalize @sk4c _ _ _ _ _ _ _ _ _ = tw; generalize @sk4d _ _ _ _ _ _ _ _ _ = t5) | ((first | ((first | refine no_implicit_lambda% (skol ?_) | refine no_implicit_lambda% (skolW ?_) | refine no_implicit_lambda% (skolL ?_) | refine no_implicit_lambda% (skolS ?_) | refine no_implicit_lambda% (skolA ?_)); generalize @skz _ _ _ = t3) | intro t3); (first | ((first | refine no_implicit_lambda% (skol ?_) | refine no_implicit_lambda% (skolW ?_) | refine no_implicit_lambda% (skolL ?_) | refine no_implicit_lambda% (skolS ?_) | refine no_implicit_lambda% (skolA ?_)); generalize @skz _ _ _ = t4) | intro t4); (first | ((first | refine no_implicit_lambda% (skol ?_) | refine no_implicit_lambda% (skolW ?_) | refine no_implicit_lambda% (skolL ?_) | refine no_implicit_lambda% (skolS ?_) | refine no_implicit_lambda% (skolA ?_)); generalize @skz _ _ _ = tw) | intro tw); (first | ((first | refine no_implicit_lambda% (skol ?_) | refine no_implicit_lambda% (skolW ?_) | refine no_implicit_lambda% (skolL ?_) | refine no_implicit_lambda% (skolS ?_) | refine no_implicit_lambda% (skolA ?_)); generalize @skz _ _ _ = t5) | intro t5))
  first | (refine no_implicit_lambda% (skol4 (by first | exact ⟨default⟩ | exact neWorld | exact neShared | exact neAround | exact neLX) (by first | exact ⟨default⟩ | exact neWorld | exact neShared | exact neAround | exact neLX) (by first | exact ⟨default⟩ | exact neWorld | exact neShared | exact neAround | exact neLX) (by first | exact ⟨default⟩ | exact neWorld | exact neShared | exact neAround | exact neLX) ?_); generalize @sk4a _ _ _ _ _ _ _ _ _ = tq; generalize @sk4b _ _ _ _ _ _ _ _ _ = tp; generalize @sk4c _ _ _ _ _ _ _ _ _ = fdS; generalize @sk4d _ _ _ _ _ _ _ _ _ = qual) | ((first | ((first | refine no_implicit_lambda% (skol ?_) | refine no_implicit_lambda% (skolW ?_) | refine no_implicit_lambda% (skolL ?_) | refine no_implicit_lambda% (skolS ?_) | refine no_implicit_lambda% (skolA ?_)); generalize @skz _ _ _ = tq) | intro tq); (first | ((first | refine no_implicit_lambda% (skol ?_) | refine no_implicit_lambda% (skolW ?_) | refine no_implicit_lambda% (skolL ?_) | refine no_implicit_lambda% (skolS ?_) | refine no_implicit_lambda% (skolA ?_)); generalize @skz _ _ _ = tp) | intro tp); (first | ((first | refine no_implicit_lambda% (skol ?_) | refine no_implicit_lambda% (skolW ?_) | refine no_implicit_lambda% (skolL ?_) | refine no_implicit_lambda% (skolS ?_) | refine no_implicit_lambda% (skolA ?_)); generalize @skz _ _ _ = fdS) | intro fdS); (first | ((first | refine no_implicit_lambda% (skol ?_) | refine no_implicit_lambda% (skolW ?_) | refine no_implicit_lambda% (skolL ?_) | refine no_implicit_lambda% (skolS ?_) | refine no_implicit_lambda% (skolA ?_)); generalize @skz _ _ _ = qual) | intro qual))
  first | (refine no_implicit_lambda% (skol4 (by first | exact ⟨default⟩ | exact neWorld | exact neShared | exact neAround | exact neLX) (by first | exact ⟨default⟩ | exact neWorld | exact neShared | exact neAround | exact neLX) (by first | exact ⟨default⟩ | exact neWorld | exact neShared | exact neAround | exact neLX) (by first | exact ⟨default⟩ | exact neWorld | exact neShared | exact neAround | exact neLX) ?_); generalize @sk4a _ _ _ _ _ _ _ _ _ = page; generalize @sk4b _ _ _ _ _ _ _ _ _ = doc; generalize @sk4c _ _ _ _ _ _ _ _ _ = pm; generalize @sk4d _ _ _ _ _ _ _ _ _ = ctv) | ((first | ((first | refine no_implicit_lambda% (skol ?_) | refine no_implicit_lambda% (skolW ?_) | refine no_implicit_lambda% (skolL ?_) | refine no_implicit_lambda% (skolS ?_) | refine no_implicit_lambda% (skolA ?_)); generalize @skz _ _ _ = page) | intro page); (first | ((first | refine no_implicit_lambda% (skol ?_) | refine no_implicit_lambda% (skolW ?_) | refine no_implicit_lambda% (skolL ?_) | refine no_implicit_lambda% (skolS ?_) | refine no_implicit_lambda% (skolA ?_)); generalize @skz _ _ _ = doc) | intro doc); (first | ((first | refine no_implicit_lambda% (skol ?_) | refine no_implicit_lambda% (skolW ?_) | refine no_implicit_lambda% (skolL ?_) | refine no_implicit_lambda% (skolS ?_) | refine no_implicit_lambda% (skolA ?_)); generalize @skz _ _ _ = pm) | intro pm); (first | ((first | refine no_implicit_lambda% (skol ?_) | refine no_implicit_lambda% (skolW ?_) | refine no_implicit_lambda% (skolL ?_) | refine no_implicit_lambda% (skolS ?_) | refine no_implicit_lambda% (skolA ?_)); generalize @skz _ _ _ = ctv) | intro ctv))
  first | (refine no_implicit_lambda% (skol4 (by first | exact ⟨default⟩ | exact neWorld | exact neShared | exact neAround | exact neLX) (by first | exact ⟨default⟩ | exact neWorld | exact neShared | exact neAround | exact neLX) (by first | exact ⟨default⟩ | exact neWorld | exact neShared | exact neAround | exact neLX) (by first | exact ⟨default⟩ | exact neWorld | exact neShared | exact neAround | exact neLX) ?_); generalize @sk4a _ _ _ _ _ _ _ _ _ = oc; generalize @sk4b _ _ _ _ _ _ _ _ _ = oA; generalize @sk4c _ _ _ _ _ _ _ _ _ = oP; generalize @sk4d _ _ _ _ _ _ _ _ _ = vs) | ((first | ((first | refine no_implicit_lambda% (skol ?_) | refine no_implicit_lambda% (skolW ?_) | refine no_implicit_lambda% (skolL ?_) | refine no_implicit_lambda% (skolS ?_) | refine no_implicit_lambda% (skolA ?_)); generalize @skz _ _ _ = oc) | intro oc); (first | ((first | refine no_implicit_lambda% (skol ?_) | refine no_implicit_lambda% (skolW ?_) | refine no_implicit_lambda% (skolL ?_) | refine no_implicit_lambda% (skolS ?_) | refine no_implicit_lambda% (skolA ?_)); generalize @skz _ _ _ = oA) | intro oA); (first | ((first | refine no_implicit_lambda% (skol ?_) | refine no_implicit_lambda% (skolW ?_) | refine no_implicit_lambda% (skolL ?_) | refine no_implicit_lambda% (skolS ?_) | refine no_implicit_lambda% (skolA ?_)); generalize @skz _ _ _ = oP) | intro oP); (first | ((first | refine no_implicit_lambda% (skol ?_) | refine no_implicit_lambda% (skolW ?_) | refine no_implicit_lambda% (skolL ?_) | refine no_implicit_lambda% (skolS ?_) | refine no_implicit_lambda% (skolA ?_)); generalize @skz _ _ _ = vs) | intro vs))
  intros
  refine' enter_def [("self", .ref x)] ?pre ?ho ?hcd ?hb ?hl ?c1 ?c2 ?c3 ?c4 ?_
  case ho => k_is
  case hcd => k_is
  case pre => exact fun _ _ _ _ => trivial
  case hb => exact fun _ _ => BindsTo.of_eq rfl
  case hl => exact locs rfl
  case c1 => rfl
  case c2 => rfl
  case c3 => rfl
  case c4 => decide
  unfold Body
  first | (refine no_implicit_lambda% (skol4 (by first | exact ⟨default⟩ | exact neWorld | exact neShared | exact neAround | exact neLX) (by first | exact ⟨default⟩ | exact neWorld | exact neShared | exact neAround | exact neLX) (by first | exact ⟨default⟩ | exact neWorld | exact neShared | exact neAround | exact neLX) (by first | exact ⟨default⟩ | exact neWorld | exact neShared | exact neAround | exact neLX) ?_); generalize @sk4a _ _ _ _ _ _ _ _ _ = p; generalize @sk4b _ _ _ _ _ _ _ _ _ = loose; generalize @sk4c _ _ _ _ _ _ _ _ _ = mean; generalize @sk4d _ _ _ _ _ _ _ _ _ = mg) | ((first | ((first | refine no_implicit_lambda% (skol ?_) | refine no_implicit_lambda% (skolW ?_) | refine no_implicit_lambda% (skolL ?_) | refine no_implicit_lambda% (skolS ?_) | refine no_implicit_lambda% (skolA ?_)); generalize @skz _ _ _ = p) | intro p); (first | ((first | refine no_implicit_lambda% (skol ?_) | refine no_implicit_lambda% (skolW ?_) | refine no_implicit_lambda% (skolL ?_) | refine no_implicit_lambda% (skolS ?_) | refine no_implicit_lambda% (skolA ?_)); generalize @skz _ _ _ = loose) | intro loose); (first | ((first | refine no_implicit_lambda% (skol ?_) | refine no_implicit_lambda% (skolW ?_) | refine no_implicit_lambda% (skolL ?_) | refine no_implicit_lambda% (skolS ?_) | refine no_implicit_lambda% (skolA ?_)); generalize @skz _ _ _ = mean) | intro mean); (first | ((first | refine no_implicit_lambda% (skol ?_) | refine no_implicit_lambda% (skolW ?_) | refine no_implicit_lambda% (skolL ?_) | refine no_implicit_lambda% (skolS ?_) | refine no_implicit_lambda% (skolA ?_)); generalize @skz _ _ _ = mg) | intro mg))
  first | (refine no_implicit_lambda% (skol4 (by first | exact ⟨default⟩ | exact neWorld | exact neShared | exact neAround | exact neLX) (by first | exact ⟨default⟩ | exact neWorld | exact neShared | exact neAround | exact neLX) (by first | exact ⟨default⟩ | exact neWorld | exact neShared | exact neAround | exact neLX) (by first | exact ⟨default⟩ | exact neWorld | exact neShared | exact neAround | exact neLX) ?_); generalize @sk4a _ _ _ _ _ _ _ _ _ = mb; generalize @sk4b _ _ _ _ _ _ _ _ _ = dp; generalize @sk4c _ _ _ _ _ _ _ _ _ = un; generalize @sk4d _ _ _ _ _ _ _ _ _ = gd) | ((first | ((first | refine no_implicit_lambda% (skol ?_) | refine no_implicit_lambda% (skolW ?_) | refine no_implicit_lambda% (skolL ?_) | refine no_implicit_lambda% (skolS ?_) | refine no_implicit_lambda% (skolA ?_)); generalize @skz _ _ _ = mb) | intro mb); (first | ((first | refine no_implicit_lambda% (skol ?_) | refine no_implicit_lambda% (skolW ?_) | refine no_implicit_lambda% (skolL ?_) | refine no_implicit_lambda% (skolS ?_) | refine no_implicit_lambda% (skolA ?_)); generalize @skz _ _ _ = dp) | intro dp); (first | ((first | refine no_implicit_lambda% (skol ?_) | refine no_implicit_lambda% (skolW ?_) | refine no_implicit_lambda% (skolL ?_) | refine no_implicit_lambda% (skolS ?_) | refine no_implicit_lambda% (skolA ?_)); generalize @skz _ _ _ = un) | intro un); (first | ((first | refine no_implicit_lambda% (skol ?_) | refine no_implicit_lambda% (skolW ?_) | refine no_implicit_lambda% (skolL ?_) | refine no_implicit_lambda% (skolS ?_) | refine no_implicit_lambda% (skolA ?_)); generalize @skz _ _ _ = gd) | intro gd))
  first | (refine no_implicit_lambda% (skol4 (by first | exact ⟨default⟩ | exact neWorld | exact neShared | exact neAround | exact neLX) (by first | exact ⟨default⟩ | exact neWorld | exact neShared | exact neAround | exact neLX) (by first | exact ⟨default⟩ | exact neWorld | exact neShared | exact neAround | exact neLX) (by first | exact ⟨default⟩ | exact neWorld | exact neShared | exact neAround | exact neLX) ?_); generalize @sk4a _ _ _ _ _ _ _ _ _ = outer; generalize @sk4b _ _ _ _ _ _ _ _ _ = A₀; generalize @sk4c _ _ _ _ _ _ _ _ _ = base; generalize @sk4d _ _ _ _ _ _ _ _ _ = g) | ((first | ((first | refine no_implicit_lambda% (skol ?_) | refine no_implicit_lambda% (skolW ?_) | refine no_implicit_lambda% (skolL ?_) | refine no_implicit_lambda% (skolS ?_) | refine no_implicit_lambda% (skolA ?_)); generalize @skz _ _ _ = outer) | intro outer); (first | ((first | refine no_implicit_lambda% (skol ?_) | refine no_implicit_lambda% (skolW ?_) | refine no_implicit_lambda% (skolL ?_) | refine no_implicit_lambda% (skolS ?_) | refine no_implicit_lambda% (skolA ?_)); generalize @skz _ _ _ = A₀) | intro A₀); (first | ((first | refine no_implicit_lambda% (skol ?_) | refine no_implicit_lambda% (skolW ?_) | refine no_implicit_lambda% (skolL ?_) | refine no_implicit_lambda% (skolS ?_) | refine no_implicit_lambda% (skolA ?_)); generalize @skz _ _ _ = base) | intro base); (first | ((first | refine no_implicit_lambda% (skol ?_) | refine no_implicit_lambda% (skolW ?_) | refine no_implicit_lambda% (skolL ?_) | refine no_implicit_lambda% (skolS ?_) | refine no_implicit_lambda% (skolA ?_)); generalize @skz _ _ _ = g) | intro g))
  first | ((first | refine no_implicit_lambda% (skol ?_) | refine no_implicit_lambda% (skolW ?_) | refine no_implicit_lambda% (skolL ?_) | refine no_implicit_lambda% (skolS ?_) | refine no_implicit_lambda% (skolA ?_)); generalize @skz _ _ _ = h₁) | intro h₁
  first | ((first | refine no_implicit_lambda% (skol ?_) | refine no_implicit_lambda% (skolW ?_) | refine no_implicit_lambda% (skolL ?_) | refine no_implicit_lambda% (skolS ?_) | refine no_implicit_lambda% (skolA ?_)); generalize @skz _ _ _ = L') | intro L'
  first | ((first | refine no_implicit_lambda% (skol ?_) | refine no_implicit_lambda% (skolW ?_) | refine no_implicit_lambda% (skolL ?_) | refine no_implicit_lambda% (skolS ?_) | refine no_implicit_lambda% (skolA ?_)); generalize @skz _ _ _ = s) | intro s
  intro B
  intro F
  intro X
  intro N
  intro T
  intro hd
  intro hu
  intro hp
  have hcode := codeHd_of X
  k_steps
  · have e : chAt page k = Str.ofString "\n" := beq_iff_eq.mp (by assumption)
    exact Done.intro _ [] (by k_asm) (by k_asm) (fun _ h => h) (fun _ h => nomatch h) (fun _ h => nomatch h) ⟨_, _, _, rfl, rfl, by rw [if_pos e]; rfl⟩
  · have e : ¬ chAt page k = Str.ofString "\n" := fun e => absurd (beq_iff_eq.mpr e) (by rw [show (chAt page k == Str.ofString "\n") = false by assumption]; decide)
    exact Done.intro _ [] (by k_asm) (by k_asm) (fun _ h => h) (fun _ h => nomatch h) (fun _ h => nomatch h) ⟨_, _, _, rfl, rfl, by rw [if_neg e]; rfl⟩
end Mine
end
section
open PySem PySem.W PyProof.Rows PySem.Calls
set_option maxRecDepth 100000
namespace Mine
section
variable {g h h' : Heap} {L it : Addr} {m : Str → Option Value} {news : Led}
theorem fr_but (F : Fr g L h m) (hit : it ≠ L) (hg : g.get? it = none) (k : ∀ b o, b ≠ it → h.get? b = some o → h'.get? b = some o) : Fr g L h' m :=
  ⟨F.ns.at' (fun o e => k _ o (Ne.symm hit) e), fun b o e => k b o (fun q => by rw [q, hg] at e; cases e) (F.keep b o e), F.above⟩
theorem news_but (N : News g L h news) (k : ∀ b o, b ≠ it → h.get? b = some o → h'.get? b = some o) (hn : ∀ p ∈ news, p.1 ≠ it) : News g L h' news :=
  fun p hp => ⟨k _ _ (hn p hp) (N p hp).1, (N p hp).2⟩
end
/-- a turn's end -/
def TurnEnd (g : Heap) (L : Addr) (s : Shared) (J : Nat → (Str → Option Value) → Led → Prop) (n : Nat) (Q : Flow → Shared → Prop) (fl : Flow) (s₄ : Shared) : Prop :=
  match fl with
  | .ret v => Q (.ret v) s₄
  | .brk => Q .next s₄
  | _ => ∃ h' tk m₂ news₂ n', s₄ = { s with heap := h', toks := tk } ∧ Fr g L h' m₂ ∧ News g L h' news₂ ∧ n' < n ∧ J n' m₂ news₂
section
variable {prog : Program} {w : World} {A : Around} {E : Value → Shared → Prop} {s : Shared} {env : Env} {g : Heap} {m : Str → Option Value} {news : Led}
theorem it_loop {x : Str} {px : Pos} {body : List Stmt} {it : Addr} {Q : Flow → Shared → Prop} (J : Nat → (Str → Option Value) → Led → Prop) {n₀ : Nat} (hx : env.kindOf x = some .local)
    (hp : (env.scope.kind == .class || (env.scope.kind == .module && env.locals != env.globals)) = false)
    (F : Fr g env.locals s.heap m) (N : News g env.locals s.heap news) (hJ : J n₀ m news)
    (turn : ∀ n m₁ news₁ h₁ tk₁, Fr g env.locals h₁ m₁ → News g env.locals h₁ news₁ → J n m₁ news₁ →
      wpAny (model prog w) A (pyNext (.ref it)) (fun r s₂ => match r with
        | none => Q .next s₂
        | some v => wpAny (model prog w) A (storeName env x v) (fun _ s₃ => wpAny (model prog w) A (execs body env) (TurnEnd g env.locals s J n Q) (fun _ _ => False) s₃) (fun _ _ => False) s₂) (fun _ _ => False) { s with heap := h₁, toks := tk₁ }) :
    codeAny (model prog w) A (.forLoop (.Name x px) (.ref it) body [] env) (fun r s' => match r with | .ok f => Q f s' | .error e => cameBackBy (model prog w) A env E e s') s := by
  refine codeAny_forLoop (fun n s' => ∃ h' tk m' news', s' = { s with heap := h', toks := tk } ∧ Fr g env.locals h' m' ∧ News g env.locals h' news' ∧ J n m' news') ?_ n₀ ⟨s.heap, s.toks, m, news, rfl, F, N, hJ⟩
  rintro n s' ⟨h₁, tk₁, m₁, news₁, rfl, F₁, N₁, J₁⟩
  refine wpAny_mono (turn n m₁ news₁ h₁ tk₁ F₁ N₁ J₁) (fun r s₂ h₂ => ?_) fun _ _ x => x.elim
  cases r with
  | none => exact wpAny_execs_nil h₂
  | some v =>
    refine wpAny_mono (wpAny_assign_Name h₂) (fun _ s₃ h₃ => ?_) fun _ _ x => x.elim
    refine wpAny_mono h₃ (fun f s₄ h₄ => ?_) fun _ _ x => x.elim
    cases f with
    | ret v => exact h₄
    | brk => exact h₄
    | next =>
      obtain ⟨h', tk, m₂, news₂, n', rfl, F₂, N₂, hn, J₂⟩ := h₄
      exact ⟨n', hn, h', tk, m₂, news₂, rfl, F₂, N₂, J₂⟩
    | cont =>
      obtain ⟨h', tk, m₂, news₂, n', rfl, F₂, N₂, hn, J₂⟩ := h₄
      exact ⟨n', hn, h', tk, m₂, news₂, rfl, F₂, N₂, J₂⟩
theorem cit_make_N {h₀ : Heap} {L : Addr} {q : Addr} {f self : Value} {ts : Tok} {Q : Value → Shared → Prop} (F : Fr h₀ L s.heap m) (N : News h₀ L s.heap news) (hq : (q, methodObj f self) ∈ news)
    (h : ∀ it h', Fr h₀ L h' m → News h₀ L h' ((it, citObj q ts) :: news) → (∀ p ∈ news, p.1 < it) → Q (.ref it) { s with heap := h' }) :
    wpAny (model prog w) A (call (.builtin "iter") [.ref q, .str (Str.ofString "") ts]) Q E s :=
  cit_make (N _ hq).1 (h _ _ (F.push _) (N.push F _) fun p hp => Heap.lt_size (N p hp).1)
end
abbrev gtA (w : World) (I : LX) (it q : Addr) (ts : Tok) (ln k : Int) (tl tk : Tok) (n : Nat) (nb : Nat) : Led :=
  (it, citObj q ts) :: (q, methodObj (.ref 79) (.ref I.x)) :: lexL w I ln k tl tk n [] nb
abbrev gtE (w : World) (I : LX) (it q : Addr) (ln k : Int) (tl tk : Tok) (n : Nat) (nb : Nat) : Led :=
  (it, citEnd) :: (q, methodObj (.ref 79) (.ref I.x)) :: lexL w I ln k tl tk n [] nb
def offL (I : LX) (it q : Addr) : Prop := (∀ b ∈ [I.x, I.dx, I.st, I.ds, I.fn, I.cc, I.cA, I.cP, I.al, I.pb], it ≠ b) ∧ (∀ b ∈ [I.x, I.dx, I.st, I.ds, I.fn, I.cc, I.cA, I.cP, I.al, I.pb], q ≠ b) ∧ it ≠ q
theorem next_read {w : World} {I : LX} {it q : Addr} {ts : Tok} {ln k : Int} {tl tk : Tok} {n nb : Nat} (hI : LXok w I) (hk0 : 0 ≤ k) (hk : k ≤ 1000) (hln0 : 0 ≤ ln) (hln : ln ≤ 1000)
    {p : Program} {loose : List Str} {mean : ExcName → Option Value} {mg mb : Str → Option Value} {dp un : Nat} {gd : Option (List Code)} {cn : Str} {cs : Scope} {a : Addr} {ccd : Value} {cl : List (Str × Addr)} {outer : List Env} {A₀ : Around} {base g : Heap} {L : Addr} {m : Str → Option Value} {s : Shared} {Q : Option Value → Shared → Prop}
    (B : Below A₀ base outer g) (F : Fr g L s.heap m) (X : (Mine.hd0.heap_1_1 w.params).In g) (N : News g L s.heap (gtA w I it q ts ln k tl tk n nb)) (T : Top p loose mean mg mb g) (hcs : cs.kind = .function) (hd : dp + 3 < recursionLimit) (hu : un + 25 < cLine)
    (hoff : offL I it q)
    (h1 : chAt I.page k ≠ "" → ∀ t h' tk' tl' tk'', Fr g L h' m → News g L h' (gtA w I it q ts (if chAt I.page k = "\n" then ln + 1 else ln) (k + (chAt I.page k).length) tl' tk'' n nb) → Q (some (.str (chAt I.page k) t)) { s with heap := h', toks := tk' })
    (h2 : chAt I.page k = "" → ∀ h' tk' tl' tk'', Fr g L h' m → News g L h' (gtE w I it q ln k tl' tk'' n nb) → Q none { s with heap := h', toks := tk' }) :
    wpAny (model PySem.Challenge.rw_to0042_01.row.prog w) (ktrTop dp un gd cn cs L a ccd cl outer) (pyNext (.ref it)) Q (fun _ _ => False) s := by
  obtain ⟨o, ho, fd, hfd⟩ : ∃ o, (Mine.hd0.heap_1_1 w.params).lookup 79 = some o ∧ ∃ fd, o.data = .func fd := ⟨_, rfl, _, rfl⟩
  have hg : ∀ h m', Fr g L h m' → h.get? 79 = some o := fun h m' F' => F'.keep _ _ (X _ _ ho)
  have Ni := N (it, citObj q ts) (.head _)
  have Nq := N (q, methodObj (.ref 79) (.ref I.x)) (.tail _ (.head _))
  refine cit_next rfl Ni.1 Nq.1 (hg _ _ F) hfd ?_
  refine ctr_code (rest := [(it, citObj q ts), (q, methodObj (.ref 79) (.ref I.x))]) (E := fun _ _ => False) (read_ctr w I ln k tl tk n [] nb hI hk0 hk hln0 hln) B F X N T hcs hd (by omega) trivial (fun q h => .tail _ (.tail _ h)) ?_ ?_
  · refine .keep hoff.1 (.keep hoff.2.1 ?_)
    have : ∀ (l : Led) (A : List Addr), (∀ q ∈ l, q.1 ∈ A) → Cut A l [] := by
      intro l A
      induction l with
      | nil => exact fun _ => .nil
      | cons q r ih => exact fun h => .drop (h q (.head _)) (ih fun q hq => h q (.tail _ hq))
    exact this _ _ fun q hq => List.mem_map_of_mem hq
  · intro r kept new h' tk' F' N' hpost
    obtain ⟨t, tl', tk'', rfl, rfl, rfl⟩ := hpost
    have Ni' := N' (it, citObj q ts) (by simp)
    have Nq' := N' (q, methodObj (.ref 79) (.ref I.x)) (by simp)
    refine ⟨_, _, rfl, Ni'.1, Nq'.1, hg _ _ F', fun hne => h1 hne t h' tk' tl' tk'' F' fun b hb => N' b ?_, fun he h'' e1 k1 => ?_⟩
    · rcases List.mem_cons.mp hb with rfl | hb
      · simp
      · rcases List.mem_cons.mp hb with rfl | hb
        · simp
        · exact List.mem_append_left _ (List.mem_append_left _ hb)
    · have he' : (if chAt I.page k = Str.ofString "\n" then ln + 1 else ln) = ln := by rw [he]; exact if_neg (by decide)
      have hl' : k + ((chAt I.page k).length : Int) = k := by rw [he]; show k + ((0 : Nat) : Int) = k; omega
      rw [he', hl'] at N'
      refine h2 he h'' tk' tl' tk'' (fr_but F' Ni'.2.1 Ni'.2.2 k1) fun b hb => ?_
      rcases List.mem_cons.mp hb with rfl | hb
      · exact ⟨e1, Ni'.2⟩
      · refine news_but (news := (q, methodObj (.ref 79) (.ref I.x)) :: lexL w I ln k tl' tk'' n [] nb) (fun b hb => ?_) k1 (fun b hb => ?_) b hb
        · rcases List.mem_cons.mp hb with rfl | hb
          · exact Nq'
          · exact N' b (List.mem_append_left _ (List.mem_append_left _ hb))
        · rcases List.mem_cons.mp hb with rfl | hb
          · exact Ne.symm hoff.2.2
          · have : b.1 ∈ [I.x, I.dx, I.st, I.ds, I.fn, I.cc, I.cA, I.cP, I.al, I.pb] := by
              have := List.mem_map_of_mem (f := fun q : Addr × Obj => q.1) hb
              exact this
            exact Ne.symm (hoff.1 _ this)
end Mine
end
section
open PySem PySem.W PyProof.Rows PySem.Calls
set_option maxRecDepth 100000
namespace Mine
local macro_rules | `(tactic| omega) => `(tactic| lia)
def sOf (c : Nat) : Str := ⟨#[c]⟩
/-- where the reading stands -/
structure At (page : Str) (k : Int) (rest : List Nat) : Prop where
  h0 : 0 ≤ k
  hl : k + rest.length = page.length
  hd : page.cps.toList.drop k.toNat = rest
theorem At.cons {page : Str} {k : Int} {c : Nat} {r : List Nat} (h : At page k (c :: r)) : chAt page k = sOf c ∧ At page (k + 1) r := by
  obtain ⟨h0, hl, hd⟩ := h
  have hz : page.cps.toList.length = page.length := by simp [Str.length]
  simp only [List.length_cons] at hl
  constructor
  · show StrLaws.sliceText page (some k) (some (k + 1)) = _
    rw [StrLaws.sliceText_plain ⟨h0, by omega, by omega⟩, hd]
    have : (k + 1 - k).toNat = 1 := by omega
    rw [this]; rfl
  · refine ⟨by omega, by omega, ?_⟩
    have e : (k + 1).toNat = k.toNat + 1 := by omega
    rw [e, ← List.drop_drop, hd]; rfl
theorem At.nil {page : Str} {k : Int} (h : At page k []) : chAt page k = Str.ofString "" := by
  obtain ⟨h0, hl, hd⟩ := h
  simp only [List.length_nil] at hl
  obtain ⟨n, rfl⟩ := Int.eq_ofNat_of_zero_le h0
  have hn : n = page.length := by omega
  show Txt.slice page _ _ = _
  have e : Builtin.Str.strSliceIndices (some (n : Int)) (some ((n : Int) + 1)) 1 page.length = [] := by
    have h1 : ¬ ((n : Int) < 0) := by omega
    have h2 : ¬ ((n : Int) + 1 < 0) := by omega
    have e1 : max (0 : Int) (min (n : Int) (page.length : Int)) = n := by omega
    have e2 : max (0 : Int) (min ((n : Int) + 1) (page.length : Int)) = n := by omega
    simp only [Builtin.Str.strSliceIndices, sliceRange, h1, h2, if_false, e1, e2, show ((1 : Int) > 0) = True from by simp, if_true]
    rw [if_neg (by omega)]; rfl
  unfold Txt.slice
  rw [e]
  split
  · rename_i hc
    have : page.length = 0 := (by simpa using hc.symm : 0 = page.length).symm
    obtain ⟨⟨l⟩⟩ := page
    have : l = [] := by simpa [Str.length] using this
    subst this; rfl
  · rfl
def wsC (c : Nat) : Bool := decide (c ∈ [10, 9, 13, 32])
def nlC (c : Nat) (ln : Int) : Int := if c = 10 then ln + 1 else ln
/-- a backslash takes the next sign as it stands -/
def hdS : List Nat → Str
  | [] => Str.ofString ""
  | d :: _ => sOf d
def hdL : List Nat → Int → Int
  | [], ln => ln
  | d :: _, ln => nlC d ln
def escS (c : Nat) (r : List Nat) : Str := if c = 92 then hdS r else sOf c
def escR (c : Nat) (r : List Nat) : List Nat := if c = 92 then r.tail else r
def escL (c : Nat) (r : List Nat) (ln : Int) : Int := if c = 92 then hdL r ln else nlC c ln
theorem escR_le (c : Nat) (r : List Nat) : (escR c r).length ≤ r.length := by
  unfold escR; split <;> simp
theorem escS_le (c : Nat) (r : List Nat) : (escS c r).length ≤ 1 := by
  unfold escS; split
  · cases r
    · decide
    · exact Nat.le_refl 1
  · exact Nat.le_refl 1
/-- a plain word -/
def lexP (rest : List Nat) (tok : Str) (ln : Int) : Str × List Nat × Int :=
  match rest with
  | [] => (tok, [], ln)
  | c :: r => if wsC c then (tok, r, nlC c ln) else
    have := escR_le c r
    lexP (escR c r) (tok ++ escS c r) (escL c r ln)
termination_by rest.length
decreasing_by simp; omega
/-- a word in quotes -/
def lexQ (rest : List Nat) (tok : Str) (ln : Int) : Str × List Nat × Int :=
  match rest with
  | [] => (tok, [], ln)
  | c :: r => if c = 34 then (tok, r, ln) else
    have := escR_le c r
    lexQ (escR c r) (tok ++ escS c r) (escL c r ln)
termination_by rest.length
decreasing_by simp; omega
def lexO : List Nat → Int → Str × List Nat × Int
  | [], ln => (Str.ofString "", [], ln)
  | c :: r, ln => if wsC c then lexO r (nlC c ln) else if c = 34 then lexQ r (Str.ofString "") ln else lexP (escR c r) (Str.ofString "" ++ escS c r) (escL c r ln)
theorem At.step {page : Str} {k : Int} {r : List Nat} (h : At page k r) : chAt page k = hdS r ∧ At page (k + (hdS r).length) r.tail := by
  cases r with
  | nil => exact ⟨h.nil, by show At page (k + ((0 : Nat) : Int)) []; rw [show k + ((0 : Nat) : Int) = k by omega]; exact h⟩
  | cons c r => exact ⟨h.cons.1, h.cons.2⟩
theorem nl_eq (c : Nat) (ln : Int) : (if sOf c = Str.ofString "\n" then ln + 1 else ln) = nlC c ln := by
  unfold nlC
  by_cases h : c = 10
  · subst h; rfl
  · rw [if_neg h, if_neg]
    intro e
    have e2 : (sOf c).cps = (Str.ofString "\n").cps := congrArg Str.cps e
    have : #[c] = #[10] := e2
    simp at this; exact h this
theorem nl_hd (r : List Nat) (ln : Int) : (if hdS r = Str.ofString "\n" then ln + 1 else ln) = hdL r ln := by
  cases r with
  | nil => exact if_neg (by decide)
  | cons c r => exact nl_eq c ln
theorem one_eq {c d : Nat} (h : (sOf c == sOf d) = true) : c = d := by
  have e2 : (sOf c).cps = (sOf d).cps := congrArg Str.cps (beq_iff_eq.mp h)
  have : #[c] = #[d] := e2
  simpa using this
theorem one_ne {c d : Nat} (h : (sOf c == sOf d) = false) : c ≠ d := by
  rintro rfl
  rw [beq_self_eq_true] at h; cases h
theorem ws_found (c : Nat) : (!(Builtin.Str.occurrences (Str.ofString "\n\t\r ") (sOf c) 0 (Str.ofString "\n\t\r ").length 1).isEmpty) = wsC c := StrLaws.found_one _ c
theorem ws_t {c : Nat} (h : (Builtin.Str.occurrences (Str.ofString "\n\t\r ") (sOf c) 0 (Str.ofString "\n\t\r ").length 1).isEmpty = false) : wsC c = true := by
  rw [← ws_found, h]; rfl
theorem ws_f {c : Nat} (h : (Builtin.Str.occurrences (Str.ofString "\n\t\r ") (sOf c) 0 (Str.ofString "\n\t\r ").length 1).isEmpty = true) : wsC c = false := by
  rw [← ws_found, h]; rfl
theorem nlC_le (c : Nat) (ln : Int) : ln ≤ nlC c ln ∧ nlC c ln ≤ ln + 1 := by unfold nlC; split <;> omega
theorem hdL_le (r : List Nat) (ln : Int) : ln ≤ hdL r ln ∧ hdL r ln ≤ ln + 1 ∧ (r = [] → hdL r ln = ln) := by
  cases r with
  | nil => exact ⟨Int.le_refl _, by show ln ≤ ln + 1; omega, fun _ => rfl⟩
  | cons c r => exact ⟨(nlC_le c ln).1, (nlC_le c ln).2, fun h => nomatch h⟩
theorem len_hdS (r : List Nat) : (hdS r).length + r.tail.length = r.length := by
  cases r with
  | nil => rfl
  | cons c r => show 1 + r.length = r.length + 1; omega
theorem sOf_ne (c : Nat) : sOf c ≠ Str.ofString "" := fun e => Nat.one_ne_zero (congrArg Str.length e : (1 : Nat) = 0)
theorem mem_rot {α : Type} {b : α} (l1 l2 : List α) (h : b ∈ l1 ++ l2) : b ∈ l2 ++ l1 := List.mem_append.mpr (List.mem_append.mp h).symm
theorem len_app (a b : Str) : (a ++ b).length = a.length + b.length := Str.length_append a b
end Mine
end
section
open PySem PySem.W PyProof.Rows PySem.Calls
set_option maxRecDepth 100000
namespace Mine
abbrev gm (x it : Addr) (tok : Str) (tt : Tok) (ch : Option Value) : Str → Option Value := fun y =>
  if y = Str.ofString "ch" then ch else if y = Str.ofString "token" then some (.str tok tt) else if y = Str.ofString "fiter" then some (.ref it) else if y = Str.ofString "self" then some (.ref x) else none
structure Hold (P : Prop) : Prop where
  out : P
def bodyOf : Option Obj → List Stmt
  | some ⟨_, _, .func fd, _⟩ => (match fd.body with | .stmts b => b | _ => [])
  | _ => []
def scopeOf : Option Obj → Scope
  | some ⟨_, _, .func fd, _⟩ => fd.scope
  | _ => default
def pass0 : Stmt := .Pass ⟨0, 0, 0, 0⟩
noncomputable def forP (P : Params) : Stmt := match bodyOf ((Mine.hd0.heap_1_1 P).lookup 86) with
  | [_, _, _, .For _ _ [_, .If _ _ [_, _, f] _] _ _, _] => f
  | _ => pass0
noncomputable def forQ (P : Params) : Stmt := match bodyOf ((Mine.hd0.heap_1_1 P).lookup 86) with
  | [_, _, _, .For _ _ [_, .If _ [f] _ _] _ _, _] => f
  | _ => pass0
noncomputable def gtScope (P : Params) : Scope := scopeOf ((Mine.hd0.heap_1_1 P).lookup 86)
theorem gm_eq {f : Str → Option Value} {x it : Addr} {tok : Str} {tt : Tok} {ch : Option Value} (h1 : f (Str.ofString "ch") = ch) (h2 : f (Str.ofString "token") = some (.str tok tt)) (h3 : f (Str.ofString "fiter") = some (.ref it)) (h4 : f (Str.ofString "self") = some (.ref x))
    (h5 : ∀ y, y ≠ Str.ofString "ch" → y ≠ Str.ofString "token" → y ≠ Str.ofString "fiter" → y ≠ Str.ofString "self" → f y = none) : f = gm x it tok tt ch := by
  funext y
  unfold gm
  split
  · rename_i e; rw [e]; exact h1
  · split
    · rename_i e; rw [e]; exact h2
    · split
      · rename_i e; rw [e]; exact h3
      · split
        · rename_i e; rw [e]; exact h4
        · exact h5 y (by assumption) (by assumption) (by assumption) (by assumption)
local macro_rules | `(tactic| walk_at "exec For Name Name cons nil") => `(tactic| (k_here; (with_reducible show wpAny _ _ (exec (Stmt.For _ (Expr.Name (Str.ofString "fiter") _) _ _ _) _) _ _ _); refine Hold.out ?_))
local macro_rules | `(tactic| k_all) => `(tactic| (refine' Cut.self (own_sub ?a ?b); (case a => assumption); (case b => k_all)))
local macro_rules | `(tactic| walk_at "call ref") => `(tactic| (k_here; (with_reducible show wpAny _ _ (call (Value.ref 79) _ _) _ _ _); k_dflt (refine' ctr_useA (read_ctr _ _ _ _ _ _ _ _ _ ?hI ?a0 ?a1 ?a2 ?a3) ?k1 ?k2 ?_; (case hI => assumption); (case k1 => k_all); (case k2 => k_all); (case a0 => omega); (case a1 => omega); (case a2 => omega); (case a3 => omega)); intro r kept new h' tk' F' N' hpost; (obtain ⟨t', tl', tk'', e1, e2, e3⟩ := hpost); subst e1 e2 e3; o_facts N'))
set_option maxHeartbeats 4000000 in
theorem loopP {w : World} {I : LX} {it q : Addr} {ts : Tok} (hI : LXok w I) {RES : Str × List Nat × Int} {rest : List Nat} {ln k : Int} {tok : Str} {tl tk tt : Tok} {n nb : Nat} {ch : Option Value} (hat : At I.page k rest) (hspec : lexP rest tok ln = RES) (hsz : tok.length + rest.length ≤ 1001) (hln0 : 0 ≤ ln) (hln : ln + rest.length ≤ 1000)
    {p : Program} {loose : List Str} {mean : ExcName → Option Value} {mg mb : Str → Option Value} {dp un : Nat} {gd : Option (List Code)} {outer : List Env} {A₀ : Around} {base g : Heap} {L : Addr} {s : Shared} {Q : Flow → Shared → Prop}
    (B : Below A₀ base outer g) (F : Fr g L s.heap (gm I.x it tok tt ch)) (X : (Mine.hd0.heap_1_1 w.params).In g) (N : News g L s.heap (gtA w I it q ts ln k tl tk n nb)) (T : Top p loose mean mg mb g) (hd : dp + 4 < recursionLimit) (hu : un + 32 < cLine) (hoff : offL I it q)
    (hret : ∀ t h' tk' k' tl' tk'' m', Fr g L h' m' → News g L h' (gtA w I it q ts RES.2.2 k' tl' tk'' n nb) → At I.page k' RES.2.1 → Q (.ret (.str RES.1 t)) { s with heap := h', toks := tk' })
    (hfall : RES.2.1 = [] → ∀ tt' ch' h' tk' k' tl' tk'', Fr g L h' (gm I.x it RES.1 tt' ch') → News g L h' (gtE w I it q RES.2.2 k' tl' tk'' n nb) → At I.page k' [] → Q .next { s with heap := h', toks := tk' }) :
    wpAny (model PySem.Challenge.rw_to0042_01.row.prog w) (ktrTop dp un gd (Str.ofString "_netrclex.get_token") (gtScope w.params) L 86 (.ref 85) [] outer)
      (exec (forP w.params) (envOf (Str.ofString "_netrclex.get_token") (gtScope w.params) L 86 (.ref 85))) Q (fun _ _ => False) s := by
  w_top off
  revert w I it q ts hI RES rest ln k tok tl tk tt n nb ch hat hspec hsz hln0 hln p loose mean mg mb dp un gd outer A₀ base g L s Q B F X N T hd hu hoff hret hfall
  first | (refine no_implicit_lambda% (skol4 (by first | exact ⟨default⟩ | exact neWorld | exact neShared | exact neAround | exact neLX) (by first | exact ⟨default⟩ | exact neWorld | exact neShared | exact neAround | exact neLX) (by first | exact ⟨default⟩ | exact neWorld | exact neShared | exact neAround | exact neLX) (by first | exact ⟨default⟩ | exact neWorld | exact neShared | exact neAround | exact neLX) ?_); generalize @sk4a _ _ _ _ _ _ _ _ _ = w; generalize @sk4b _ _ _ _ _ _ _ _ _ = I; generalize @sk4c _ _ _ _ _ _ _ _ _ = it; generalize @sk4d _ _ _ _ _ _ _ _ _ = q) | ((first | ((first | refine no_implicit_lambda% (skol ?_) | refine no_implicit_lambda% (skolW ?_) | refine no_implicit_lambda% (skolL ?_) | refine no_implicit_lambda% (skolS ?_) | refine no_implicit_lambda% (skolA ?_)); generalize @skz _ _ _ = w) | intro w); (first | ((first | refine no_implicit_lambda% (skol ?_) | refine no_implicit_lambda% (skolW ?_) | refine no_implicit_lambda% (skolL ?_) | refine no_implicit_lambda% (skolS ?_) | refine no_implicit_lambda% (skolA ?_)); generalize @skz _ _ _ = I) | intro I); (first | ((first | refine no_implicit_lambda% (skol ?_) | refine no_implicit_lambda% (skolW ?_) | refine no_implicit_lambda% (skolL ?_) | refine no_implicit_lambda% (skolS ?_) | refine no_implicit_lambda% (skolA ?_)); generalize @skz _ _ _ = it) | intro it); (first | ((first | refine no_implicit_lambda% (skol ?_) | refine no_implicit_lambda% (skolW ?_) | refine no_implicit_lambda% (skolL ?_) | refine no_implicit_lambda% (skolS ?_) | refine no_implicit_lambda% (skolA ?_)); generalize @skz _ _ _ = q) | intro q))
  first | ((first | refine no_implicit_lambda% (skol ?_) | refine no_implicit_lambda% (skolW ?_) | refine no_implicit_lambda% (skolL ?_) | refine no_implicit_lambda% (skolS ?_) | refine no_implicit_lambda% (skolA ?_)); generalize @skz _ _ _ = ts) | intro ts
  first | ((first | refine no_implicit_lambda% (skol ?_) | refine no_implicit_lambda% (skolW ?_) | refine no_implicit_lambda% (skolL ?_) | refine no_implicit_lambda% (skolS ?_) | refine no_implicit_lambda% (skolA ?_)); generalize @skz _ _ _ = hI) | intro hI
  first | (refine no_implicit_lambda% (skol4 (by first | exact ⟨default⟩ | exact neWorld | exact neShared | exact neAround | exact neLX) (by first | exact ⟨default⟩ | exact neWorld | exact neShared | exact neAround | exact neLX) (by first | exact ⟨default⟩ | exact neWorld | exact neShared | exact neAround | exact neLX) (by first | exact ⟨default⟩ | exact neWorld | exact neShared | exact neAround | exact neLX) ?_); generalize @sk4a _ _ _ _ _ _ _ _ _ = RES; generalize @sk4b _ _ _ _ _ _ _ _ _ = rest; generalize @sk4c _ _ _ _ _ _ _ _ _ = ln; generalize @sk4d _ _ _ _ _ _ _ _ _ = k) | ((first | ((first | refine no_implicit_lambda% (skol ?_) | refine no_implicit_lambda% (skolW ?_) | refine no_implicit_lambda% (skolL ?_) | refine no_implicit_lambda% (skolS ?_) | refine no_implicit_lambda% (skolA ?_)); generalize @skz _ _ _ = RES) | intro RES); (first | ((first | refine no_implicit_lambda% (skol ?_) | refine no_implicit_lambda% (skolW ?_) | refine no_implicit_lambda% (skolL ?_) | refine no_implicit_lambda% (skolS ?_) | refine no_implicit_lambda% (skolA ?_)); generalize @skz _ _ _ = rest) | intro rest); (first | ((first | refine no_implicit_lambda% (skol ?_) | refine no_implicit_lambda% (skolW ?_) | refine no_implicit_lambda% (skolL ?_) | refine no_implicit_lambda% (skolS ?_) | refine no_implicit_lambda% (skolA ?_)); generalize @skz _ _ _ = ln) | intro ln); (first | ((first | refine no_implicit_lambda% (skol ?_) | refine no_implicit_lambda% (skolW ?_) | refine no_implicit_lambda% (skolL ?_) | refine no_implicit_lambda% (skolS ?_) | refine no_implicit_lambda% (skolA ?_)); generalize @skz _ _ _ = k) | intro k))
  first | (refine no_implicit_lambda% (skol4 (by first | exact ⟨default⟩ | exact neWorld | exact neShared | exact neAround | exact neLX) (by first | exact ⟨default⟩ | exact neWorld | exact neShared | exact neAround | exact neLX) (by first | exact ⟨default⟩ | exact neWorld | exact neShared | exact neAround | exact neLX) (by first | exact ⟨default⟩ | exact neWorld | exact neShared | exact neAround | exact neLX) ?_); generalize @sk4a _ _ _ _ _ _ _ _ _ = tok; generalize @sk4b _ _ _ _ _ _ _ _ _ = tl; generalize @sk4c _ _ _ _ _ _ _ _ _ = tk; generalize @sk4d _ _ _ _ _ _ _ _ _ = tt) | ((first | ((first | refine no_implicit_lambda% (skol ?_) | refine no_implicit_lambda% (skolW ?_) | refine no_implicit_lambda% (skolL ?_) | refine no_implicit_lambda% (skolS ?_) | refine no_implicit_lambda% (skolA ?_)); generalize @skz _ _ _ = tok) | intro tok); (first | ((first | refine no_implicit_lambda% (skol ?_) | refine no_implicit_lambda% (skolW ?_) | refine no_implicit_lambda% (skolL ?_) | refine no_implicit_lambda% (skolS ?_) | refine no_implicit_lambda% (skolA ?_)); generalize @skz _ _ _ = tl) | intro tl); (first | ((first | refine no_implicit_lambda% (skol ?_) | refine no_implicit_lambda% (skolW ?_) | refine no_implicit_lambda% (skolL ?_) | refine no_implicit_lambda% (skolS ?_) | refine no_implicit_lambda% (skolA ?_)); generalize @skz _ _ _ = tk) | intro tk); (first | ((first | refine no_implicit_lambda% (skol ?_) | refine no_implicit_lambda% (skolW ?_) | refine no_implicit_lambda% (skolL ?_) | refine no_implicit_lambda% (skolS ?_) | refine no_implicit_lambda% (skolA ?_)); generalize @skz _ _ _ = tt) | intro tt))
  first | ((first | refine no_implicit_lambda% (skol ?_) | refine no_implicit_lambda% (skolW ?_) | refine no_implicit_lambda% (skolL ?_) | refine no_implicit_lambda% (skolS ?_) | refine no_implicit_lambda% (skolA ?_)); generalize @skz _ _ _ = n) | intro n
  first | ((first | refine no_implicit_lambda% (skol ?_) | refine no_implicit_lambda% (skolW ?_) | refine no_implicit_lambda% (skolL ?_) | refine no_implicit_lambda% (skolS ?_) | refine no_implicit_lambda% (skolA ?_)); generalize @skz _ _ _ = nb) | intro nb
  first | ((first | refine no_implicit_lambda% (skol ?_) | refine no_implicit_lambda% (skolW ?_) | refine no_implicit_lambda% (skolL ?_) | refine no_implicit_lambda% (skolS ?_) | refine no_implicit_lambda% (skolA ?_)); generalize @skz _ _ _ = ch) | intro ch
  first | ((first | refine no_implicit_lambda% (skol ?_) | refine no_implicit_lambda% (skolW ?_) | refine no_implicit_lambda% (skolL ?_) | refine no_implicit_lambda% (skolS ?_) | refine no_implicit_lambda% (skolA ?_)); generalize @skz _ _ _ = hat) | intro hat
  first | ((first | refine no_implicit_lambda% (skol ?_) | refine no_implicit_lambda% (skolW ?_) | refine no_implicit_lambda% (skolL ?_) | refine no_implicit_lambda% (skolS ?_) | refine no_implicit_lambda% (skolA ?_)); generalize @skz _ _ _ = hspec) | intro hspec
  first | ((first | refine no_implicit_lambda% (skol ?_) | refine no_implicit_lambda% (skolW ?_) | refine no_implicit_lambda% (skolL ?_) | refine no_implicit_lambda% (skolS ?_) | refine no_implicit_lambda% (skolA ?_)); generalize @skz _ _ _ = hsz) | intro hsz
  first | ((first | refine no_implicit_lambda% (skol ?_) | refine no_implicit_lambda% (skolW ?_) | refine no_implicit_lambda% (skolL ?_) | refine no_implicit_lambda% (skolS ?_) | refine no_implicit_lambda% (skolA ?_)); generalize @skz _ _ _ = hln0) | intro hln0
  first | ((first | refine no_implicit_lambda% (skol ?_) | refine no_implicit_lambda% (skolW ?_) | refine no_implicit_lambda% (skolL ?_) | refine no_implicit_lambda% (skolS ?_) | refine no_implicit_lambda% (skolA ?_)); generalize @skz _ _ _ = hln) | intro hln
  first | (refine no_implicit_lambda% (skol4 (by first | exact ⟨default⟩ | exact neWorld | exact neShared | exact neAround | exact neLX) (by first | exact ⟨default⟩ | exact neWorld | exact neShared | exact neAround | exact neLX) (by first | exact ⟨default⟩ | exact neWorld | exact neShared | exact neAround | exact neLX) (by first | exact ⟨default⟩ | exact neWorld | exact neShared | exact neAround | exact neLX) ?_); generalize @sk4a _ _ _ _ _ _ _ _ _ = p; generalize @sk4b _ _ _ _ _ _ _ _ _ = loose; generalize @sk4c _ _ _ _ _ _ _ _ _ = mean; generalize @sk4d _ _ _ _ _ _ _ _ _ = mg) | ((first | ((first | refine no_implicit_lambda% (skol ?_) | refine no_implicit_lambda% (skolW ?_) | refine no_implicit_lambda% (skolL ?_) | refine no_implicit_lambda% (skolS ?_) | refine no_implicit_lambda% (skolA ?_)); generalize @skz _ _ _ = p) | intro p); (first | ((first | refine no_implicit_lambda% (skol ?_) | refine no_implicit_lambda% (skolW ?_) | refine no_implicit_lambda% (skolL ?_) | refine no_implicit_lambda% (skolS ?_) | refine no_implicit_lambda% (skolA ?_)); generalize @skz _ _ _ = loose) | intro loose); (first | ((first | refine no_implicit_lambda% (skol ?_) | refine no_implicit_lambda% (skolW ?_) | refine no_implicit_lambda% (skolL ?_) | refine no_implicit_lambda% (skolS ?_) | refine no_implicit_lambda% (skolA ?_)); generalize @skz _ _ _ = mean) | intro mean); (first | ((first | refine no_implicit_lambda% (skol ?_) | refine no_implicit_lambda% (skolW ?_) | refine no_implicit_lambda% (skolL ?_) | refine no_implicit_lambda% (skolS ?_) | refine no_implicit_lambda% (skolA ?_)); generalize @skz _ _ _ = mg) | intro mg))
  first | (refine no_implicit_lambda% (skol4 (by first | exact ⟨default⟩ | exact neWorld | exact neShared | exact neAround | exact neLX) (by first | exact ⟨default⟩ | exact neWorld | exact neShared | exact neAround | exact neLX) (by first | exact ⟨default⟩ | exact neWorld | exact neShared | exact neAround | exact neLX) (by first | exact ⟨default⟩ | exact neWorld | exact neShared | exact neAround | exact neLX) ?_); generalize @sk4a _ _ _ _ _ _ _ _ _ = mb; generalize @sk4b _ _ _ _ _ _ _ _ _ = dp; generalize @sk4c _ _ _ _ _ _ _ _ _ = un; generalize @sk4d _ _ _ _ _ _ _ _ _ = gd) | ((first | ((first | refine no_implicit_lambda% (skol ?_) | refine no_implicit_lambda% (skolW ?_) | refine no_implicit_lambda% (skolL ?_) | refine no_implicit_lambda% (skolS ?_) | refine no_implicit_lambda% (skolA ?_)); generalize @skz _ _ _ = mb) | intro mb); (first | ((first | refine no_implicit_lambda% (skol ?_) | refine no_implicit_lambda% (skolW ?_) | refine no_implicit_lambda% (skolL ?_) | refine no_implicit_lambda% (skolS ?_) | refine no_implicit_lambda% (skolA ?_)); generalize @skz _ _ _ = dp) | intro dp); (first | ((first | refine no_implicit_lambda% (skol ?_) | refine no_implicit_lambda% (skolW ?_) | refine no_implicit_lambda% (skolL ?_) | refine no_implicit_lambda% (skolS ?_) | refine no_implicit_lambda% (skolA ?_)); generalize @skz _ _ _ = un) | intro un); (first | ((first | refine no_implicit_lambda% (skol ?_) | refine no_implicit_lambda% (skolW ?_) | refine no_implicit_lambda% (skolL ?_) | refine no_implicit_lambda% (skolS ?_) | refine no_implicit_lambda% (skolA ?_)); generalize @skz _ _ _ = gd) | intro gd))
  first | (refine no_implicit_lambda% (skol4 (by first | exact ⟨default⟩ | exact neWorld | exact neShared | exact neAround | exact neLX) (by first | exact ⟨default⟩ | exact neWorld | exact neShared | exact neAround | exact neLX) (by first | exact ⟨default⟩ | exact neWorld | exact neShared | exact neAround | exact neLX) (by first | exact ⟨default⟩ | exact neWorld | exact neShared | exact neAround | exact neLX) ?_); generalize @sk4a _ _ _ _ _ _ _ _ _ = outer; generalize @sk4b _ _ _ _ _ _ _ _ _ = A₀; generalize @sk4c _ _ _ _ _ _ _ _ _ = base; generalize @sk4d _ _ _ _ _ _ _ _ _ = g) | ((first | ((first | refine no_implicit_lambda% (skol ?_) | refine no_implicit_lambda% (skolW ?_) | refine no_implicit_lambda% (skolL ?_) | refine no_implicit_lambda% (skolS ?_) | refine no_implicit_lambda% (skolA ?_)); generalize @skz _ _ _ = outer) | intro outer); (first | ((first | refine no_implicit_lambda% (skol ?_) | refine no_implicit_lambda% (skolW ?_) | refine no_implicit_lambda% (skolL ?_) | refine no_implicit_lambda% (skolS ?_) | refine no_implicit_lambda% (skolA ?_)); generalize @skz _ _ _ = A₀) | intro A₀); (first | ((first | refine no_implicit_lambda% (skol ?_) | refine no_implicit_lambda% (skolW ?_) | refine no_implicit_lambda% (skolL ?_) | refine no_implicit_lambda% (skolS ?_) | refine no_implicit_lambda% (skolA ?_)); generalize @skz _ _ _ = base) | intro base); (first | ((first | refine no_implicit_lambda% (skol ?_) | refine no_implicit_lambda% (skolW ?_) | refine no_implicit_lambda% (skolL ?_) | refine no_implicit_lambda% (skolS ?_) | refine no_implicit_lambda% (skolA ?_)); generalize @skz _ _ _ = g) | intro g))
  first | ((first | refine no_implicit_lambda% (skol ?_) | refine no_implicit_lambda% (skolW ?_) | refine no_implicit_lambda% (skolL ?_) | refine no_implicit_lambda% (skolS ?_) | refine no_implicit_lambda% (skolA ?_)); generalize @skz _ _ _ = L) | intro L
  first | ((first | refine no_implicit_lambda% (skol ?_) | refine no_implicit_lambda% (skolW ?_) | refine no_implicit_lambda% (skolL ?_) | refine no_implicit_lambda% (skolS ?_) | refine no_implicit_lambda% (skolA ?_)); generalize @skz _ _ _ = s) | intro s
  first | ((first | refine no_implicit_lambda% (skol ?_) | refine no_implicit_lambda% (skolW ?_) | refine no_implicit_lambda% (skolL ?_) | refine no_implicit_lambda% (skolS ?_) | refine no_implicit_lambda% (skolA ?_)); generalize @skz _ _ _ = Q) | intro Q
  first | ((first | refine no_implicit_lambda% (skol ?_) | refine no_implicit_lambda% (skolW ?_) | refine no_implicit_lambda% (skolL ?_) | refine no_implicit_lambda% (skolS ?_) | refine no_implicit_lambda% (skolA ?_)); generalize @skz _ _ _ = B) | intro B
  first | ((first | refine no_implicit_lambda% (skol ?_) | refine no_implicit_lambda% (skolW ?_) | refine no_implicit_lambda% (skolL ?_) | refine no_implicit_lambda% (skolS ?_) | refine no_implicit_lambda% (skolA ?_)); generalize @skz _ _ _ = F) | intro F
  first | ((first | refine no_implicit_lambda% (skol ?_) | refine no_implicit_lambda% (skolW ?_) | refine no_implicit_lambda% (skolL ?_) | refine no_implicit_lambda% (skolS ?_) | refine no_implicit_lambda% (skolA ?_)); generalize @skz _ _ _ = X) | intro X
  first | ((first | refine no_implicit_lambda% (skol ?_) | refine no_implicit_lambda% (skolW ?_) | refine no_implicit_lambda% (skolL ?_) | refine no_implicit_lambda% (skolS ?_) | refine no_implicit_lambda% (skolA ?_)); generalize @skz _ _ _ = N) | intro N
  first | ((first | refine no_implicit_lambda% (skol ?_) | refine no_implicit_lambda% (skolW ?_) | refine no_implicit_lambda% (skolL ?_) | refine no_implicit_lambda% (skolS ?_) | refine no_implicit_lambda% (skolA ?_)); generalize @skz _ _ _ = T) | intro T
  first | ((first | refine no_implicit_lambda% (skol ?_) | refine no_implicit_lambda% (skolW ?_) | refine no_implicit_lambda% (skolL ?_) | refine no_implicit_lambda% (skolS ?_) | refine no_implicit_lambda% (skolA ?_)); generalize @skz _ _ _ = hd) | intro hd
  first | ((first | refine no_implicit_lambda% (skol ?_) | refine no_implicit_lambda% (skolW ?_) | refine no_implicit_lambda% (skolL ?_) | refine no_implicit_lambda% (skolS ?_) | refine no_implicit_lambda% (skolA ?_)); generalize @skz _ _ _ = hu) | intro hu
  first | ((first | refine no_implicit_lambda% (skol ?_) | refine no_implicit_lambda% (skolW ?_) | refine no_implicit_lambda% (skolL ?_) | refine no_implicit_lambda% (skolS ?_) | refine no_implicit_lambda% (skolA ?_)); generalize @skz _ _ _ = hoff) | intro hoff
  first | ((first | refine no_implicit_lambda% (skol ?_) | refine no_implicit_lambda% (skolW ?_) | refine no_implicit_lambda% (skolL ?_) | refine no_implicit_lambda% (skolS ?_) | refine no_implicit_lambda% (skolA ?_)); generalize @skz _ _ _ = hret) | intro hret
  first | ((first | refine no_implicit_lambda% (skol ?_) | refine no_implicit_lambda% (skolW ?_) | refine no_implicit_lambda% (skolL ?_) | refine no_implicit_lambda% (skolS ?_) | refine no_implicit_lambda% (skolA ?_)); generalize @skz _ _ _ = hfall) | intro hfall
  have hK0 : (fun w : World => Mine.hd0.heap_1_1 w.params, PySem.Challenge.rw_to0042_01) = (fun w : World => Mine.hd0.heap_1_1 w.params, PySem.Challenge.rw_to0042_01) := by (k_fill; rfl)
  clear hK0
  generalize hP : forP w.params = S
  conv at hP => (lhs; whnf)
  subst hP
  generalize hS : gtScope w.params = S
  conv at hS => (lhs; whnf)
  subst hS
  refine wpAny_For ?_
  k_steps
  refine cit_iter (N _ (.head _)).1 ?_
  refine it_loop (g := g) (m := gm I.x it tok tt ch) (news := gtA w I it q ts ln k tl tk n nb) (fun n' m₁ news₁ => ∃ rest tok tt ch ln k tl tk, m₁ = gm I.x it tok tt ch ∧ news₁ = gtA w I it q ts ln k tl tk n nb ∧ n' = rest.length ∧ At I.page k rest ∧ lexP rest tok ln = RES ∧ tok.length + rest.length ≤ 1001 ∧ 0 ≤ ln ∧ ln + rest.length ≤ 1000) rfl rfl F N ⟨rest, tok, tt, ch, ln, k, tl, tk, rfl, rfl, rfl, hat, hspec, hsz, hln0, hln⟩ ?_
  clear F N hat hspec hsz hln0 hln
  rintro n' m₁ news₁ h₁ tk₁ F N ⟨rest, tok, tt, ch, ln, k, tl, tk, rfl, rfl, rfl, hat, hspec, hsz, hln0, hln⟩
  refine next_read hI hat.h0 (by have := hat.hl; have := hI.hpg; omega) hln0 (by omega) B F X N T rfl (by omega) (by omega) hoff ?_ ?_
  · cases rest with
    | nil => intro hne; exact absurd hat.nil hne
    | cons c r =>
      obtain ⟨e, hat'⟩ := hat.cons
      rw [e]
      intro hne t h' tk' tl' tk'' F N
      rw [nl_eq] at N
      have hk1 : k + ((sOf c).length : Int) = k + 1 := rfl
      rw [hk1] at N
      simp only [List.length_cons] at hsz hln
      dsimp only [gtA, lexL] at N
      dsimp only
      have hw1 := nlC_le c ln
      have hz1 := hat'.hl
      have hz2 := hI.hpg
      have hz3 : 0 ≤ k := hat.h0
      have hoff1 := hoff.1
      have hoff2 := hoff.2.1
      simp only [List.forall_mem_cons] at hoff1 hoff2
      obtain ⟨_, _, _, _, _, _, _, _, _, _, _⟩ := hoff1
      obtain ⟨_, _, _, _, _, _, _, _, _, _, _⟩ := hoff2
      have hz5 := hat'.step
      have hz4 : (chAt I.page (k + 1)).length ≤ 1 := by rw [hz5.1]; have := len_hdS r; cases r with | nil => decide | cons a b => exact Nat.le_refl 1
      k_steps
      · -- a backslash
        have hw := ws_f (by assumption)
        have hc : c = 92 := one_eq (d := 92) (by assumption)
        rw [lexP, if_neg (by rw [hw]; decide)] at hspec
        have hes : escS c r = chAt I.page (k + 1) := by rw [hz5.1]; exact if_pos hc
        have her : escR c r = r.tail := if_pos hc
        have hel : escL c r ln = hdL r (nlC c ln) := by rw [show nlC c ln = ln from if_neg (by omega)]; exact if_pos hc
        rename Fr _ _ _ _ => F
        rename News _ _ _ _ => N
        rw [hz5.1, nl_hd] at N
        have h9 := len_hdS r
        have h8 := hdL_le r (nlC c ln)
        have h7 : nlC c ln = ln := if_neg (by omega)
        refine ⟨_, _, _, gtA w I it q ts (hdL r (nlC c ln)) (k + 1 + (hdS r).length) _ _ n nb, r.tail.length, rfl, F, fun b hb => N b (mem_rot [(it, citObj q ts), (q, methodObj (.ref 79) (.ref I.x))] (lexL w I (hdL r (nlC c ln)) (k + 1 + (hdS r).length) _ _ n [] nb) hb), by simp; omega, r.tail, tok ++ chAt I.page (k + 1), _, _, hdL r (nlC c ln), k + 1 + (hdS r).length, _, _, gm_eq rfl rfl rfl rfl (fun y h1 h2 h3 h4 => by simp only [gm, if_neg h1, if_neg h2, if_neg h3, if_neg h4]), rfl, rfl, hz5.2, ?_, ?_, ?_, ?_⟩
        · rw [← hes, ← her, ← hel]; exact hspec
        · rw [len_app]; omega
        · omega
        · omega
      · -- another sign
        have hw := ws_f (by assumption)
        have hc : c ≠ 92 := one_ne (d := 92) (by assumption)
        rw [lexP, if_neg (by rw [hw]; decide)] at hspec
        have hes : escS c r = sOf c := if_neg hc
        have her : escR c r = r := if_neg hc
        have hel : escL c r ln = nlC c ln := if_neg hc
        rw [hes, her, hel] at hspec
        rename Fr _ _ _ _ => F
        rename News _ _ _ _ => N
        refine ⟨_, _, _, _, r.length, rfl, F, N, by simp, r, tok ++ sOf c, _, _, nlC c ln, k + 1, _, _, gm_eq rfl rfl rfl rfl (fun y h1 h2 h3 h4 => by simp only [gm, if_neg h1, if_neg h2, if_neg h3, if_neg h4]), rfl, rfl, hat', hspec, ?_, ?_, ?_⟩
        · rw [len_app]; show tok.length + 1 + r.length ≤ 1001; omega
        · omega
        · omega
      · -- a blank: the word ends
        have hw := ws_t (by assumption)
        rw [lexP, if_pos hw] at hspec
        subst hspec
        exact hret _ _ _ _ _ _ _ (by k_asm) (by k_asm) hat'
  · -- no more signs
    intro he h' tk' tl' tk'' F N
    cases rest with
    | cons c r => rw [hat.cons.1] at he; exact absurd he (sOf_ne c)
    | nil =>
      rw [lexP] at hspec
      subst hspec
      exact hfall rfl _ _ _ _ _ _ _ F N hat
set_option maxHeartbeats 4000000 in
theorem loopQ {w : World} {I : LX} {it q : Addr} {ts : Tok} (hI : LXok w I) {RES : Str × List Nat × Int} {rest : List Nat} {ln k : Int} {tok : Str} {tl tk tt : Tok} {n nb : Nat} {ch : Option Value} (hat : At I.page k rest) (hspec : lexQ rest tok ln = RES) (hsz : tok.length + rest.length ≤ 1001) (hln0 : 0 ≤ ln) (hln : ln + rest.length ≤ 1000)
    {p : Program} {loose : List Str} {mean : ExcName → Option Value} {mg mb : Str → Option Value} {dp un : Nat} {gd : Option (List Code)} {outer : List Env} {A₀ : Around} {base g : Heap} {L : Addr} {s : Shared} {Q : Flow → Shared → Prop}
    (B : Below A₀ base outer g) (F : Fr g L s.heap (gm I.x it tok tt ch)) (X : (Mine.hd0.heap_1_1 w.params).In g) (N : News g L s.heap (gtA w I it q ts ln k tl tk n nb)) (T : Top p loose mean mg mb g) (hd : dp + 4 < recursionLimit) (hu : un + 32 < cLine) (hoff : offL I it q)
    (hret : ∀ t h' tk' k' tl' tk'' m', Fr g L h' m' → News g L h' (gtA w I it q ts RES.2.2 k' tl' tk'' n nb) → At I.page k' RES.2.1 → Q (.ret (.str RES.1 t)) { s with heap := h', toks := tk' })
    (hfall : RES.2.1 = [] → ∀ tt' ch' h' tk' k' tl' tk'', Fr g L h' (gm I.x it RES.1 tt' ch') → News g L h' (gtE w I it q RES.2.2 k' tl' tk'' n nb) → At I.page k' [] → Q .next { s with heap := h', toks := tk' }) :
    wpAny (model PySem.Challenge.rw_to0042_01.row.prog w) (ktrTop dp un gd (Str.ofString "_netrclex.get_token") (gtScope w.params) L 86 (.ref 85) [] outer)
      (exec (forQ w.params) (envOf (Str.ofString "_netrclex.get_token") (gtScope w.params) L 86 (.ref 85))) Q (fun _ _ => False) s := by
  w_top off
  revert w I it q ts hI RES rest ln k tok tl tk tt n nb ch hat hspec hsz hln0 hln p loose mean mg mb dp un gd outer A₀ base g L s Q B F X N T hd hu hoff hret hfall
  first | (refine no_implicit_lambda% (skol4 (by first | exact ⟨default⟩ | exact neWorld | exact neShared | exact neAround | exact neLX) (by first | exact ⟨default⟩ | exact neWorld | exact neShared | exact neAround | exact neLX) (by first | exact ⟨default⟩ | exact neWorld | exact neShared | exact neAround | exact neLX) (by first | exact ⟨default⟩ | exact neWorld | exact neShared | exact neAround | exact neLX) ?_); generalize @sk4a _ _ _ _ _ _ _ _ _ = w; generalize @sk4b _ _ _ _ _ _ _ _ _ = I; generalize @sk4c _ _ _ _ _ _ _ _ _ = it; generalize @sk4d _ _ _ _ _ _ _ _ _ = q) | ((first | ((first | refine no_implicit_lambda% (skol ?_) | refine no_implicit_lambda% (skolW ?_) | refine no_implicit_lambda% (skolL ?_) | refine no_implicit_lambda% (skolS ?_) | refine no_implicit_lambda% (skolA ?_)); generalize @skz _ _ _ = w) | intro w); (first | ((first | refine no_implicit_lambda% (skol ?_) | refine no_implicit_lambda% (skolW ?_) | refine no_implicit_lambda% (skolL ?_) | refine no_implicit_lambda% (skolS ?_) | refine no_implicit_lambda% (skolA ?_)); generalize @skz _ _ _ = I) | intro I); (first | ((first | refine no_implicit_lambda% (skol ?_) | refine no_implicit_lambda% (skolW ?_) | refine no_implicit_lambda% (skolL ?_) | refine no_implicit_lambda% (skolS ?_) | refine no_implicit_lambda% (skolA ?_)); generalize @skz _ _ _ = it) | intro it); (first | ((first | refine no_implicit_lambda% (skol ?_) | refine no_implicit_lambda% (skolW ?_) | refine no_implicit_lambda% (skolL ?_) | refine no_implicit_lambda% (skolS ?_) | refine no_implicit_lambda% (skolA ?_)); generalize @skz _ _ _ = q) | intro q))
  first | ((first | refine no_implicit_lambda% (skol ?_) | refine no_implicit_lambda% (skolW ?_) | refine no_implicit_lambda% (skolL ?_) | refine no_implicit_lambda% (skolS ?_) | refine no_implicit_lambda% (skolA ?_)); generalize @skz _ _ _ = ts) | intro ts
  first | ((first | refine no_implicit_lambda% (skol ?_) | refine no_implicit_lambda% (skolW ?_) | refine no_implicit_lambda% (skolL ?_) | refine no_implicit_lambda% (skolS ?_) | refine no_implicit_lambda% (skolA ?_)); generalize @skz _ _ _ = hI) | intro hI
  first | (refine no_implicit_lambda% (skol4 (by first | exact ⟨default⟩ | exact neWorld | exact neShared | exact neAround | exact neLX) (by first | exact ⟨default⟩ | exact neWorld | exact neShared | exact neAround | exact neLX) (by first | exact ⟨default⟩ | exact neWorld | exact neShared | exact neAround | exact neLX) (by first | exact ⟨default⟩ | exact neWorld | exact neShared | exact neAround | exact neLX) ?_); generalize @sk4a _ _ _ _ _ _ _ _ _ = RES; generalize @sk4b _ _ _ _ _ _ _ _ _ = rest; generalize @sk4c _ _ _ _ _ _ _ _ _ = ln; generalize @sk4d _ _ _ _ _ _ _ _ _ = k) | ((first | ((first | refine no_implicit_lambda% (skol ?_) | refine no_implicit_lambda% (skolW ?_) | refine no_implicit_lambda% (skolL ?_) | refine no_implicit_lambda% (skolS ?_) | refine no_implicit_lambda% (skolA ?_)); generalize @skz _ _ _ = RES) | intro RES); (first | ((first | refine no_implicit_lambda% (skol ?_) | refine no_implicit_lambda% (skolW ?_) | refine no_implicit_lambda% (skolL ?_) | refine no_implicit_lambda% (skolS ?_) | refine no_implicit_lambda% (skolA ?_)); generalize @skz _ _ _ = rest) | intro rest); (first | ((first | refine no_implicit_lambda% (skol ?_) | refine no_implicit_lambda% (skolW ?_) | refine no_implicit_lambda% (skolL ?_) | refine no_implicit_lambda% (skolS ?_) | refine no_implicit_lambda% (skolA ?_)); generalize @skz _ _ _ = ln) | intro ln); (first | ((first | refine no_implicit_lambda% (skol ?_) | refine no_implicit_lambda% (skolW ?_) | refine no_implicit_lambda% (skolL ?_) | refine no_implicit_lambda% (skolS ?_) | refine no_implicit_lambda% (skolA ?_)); generalize @skz _ _ _ = k) | intro k))
  first | (refine no_implicit_lambda% (skol4 (by first | exact ⟨default⟩ | exact neWorld | exact neShared | exact neAround | exact neLX) (by first | exact ⟨default⟩ | exact neWorld | exact neShared | exact neAround | exact neLX) (by first | exact ⟨default⟩ | exact neWorld | exact neShared | exact neAround | exact neLX) (by first | exact ⟨default⟩ | exact neWorld | exact neShared | exact neAround | exact neLX) ?_); generalize @sk4a _ _ _ _ _ _ _ _ _ = tok; generalize @sk4b _ _ _ _ _ _ _ _ _ = tl; generalize @sk4c _ _ _ _ _ _ _ _ _ = tk; generalize @sk4d _ _ _ _ _ _ _ _ _ = tt) | ((first | ((first | refine no_implicit_lambda% (skol ?_) | refine no_implicit_lambda% (skolW ?_) | refine no_implicit_lambda% (skolL ?_) | refine no_implicit_lambda% (skolS ?_) | refine no_implicit_lambda% (skolA ?_)); generalize @skz _ _ _ = tok) | intro tok); (first | ((first | refine no_implicit_lambda% (skol ?_) | refine no_implicit_lambda% (skolW ?_) | refine no_implicit_lambda% (skolL ?_) | refine no_implicit_lambda% (skolS ?_) | refine no_implicit_lambda% (skolA ?_)); generalize @skz _ _ _ = tl) | intro tl); (first | ((first | refine no_implicit_lambda% (skol ?_) | refine no_implicit_lambda% (skolW ?_) | refine no_implicit_lambda% (skolL ?_) | refine no_implicit_lambda% (skolS ?_) | refine no_implicit_lambda% (skolA ?_)); generalize @skz _ _ _ = tk) | intro tk); (first | ((first | refine no_implicit_lambda% (skol ?_) | refine no_implicit_lambda% (skolW ?_) | refine no_implicit_lambda% (skolL ?_) | refine no_implicit_lambda% (skolS ?_) | refine no_implicit_lambda% (skolA ?_)); generalize @skz _ _ _ = tt) | intro tt))
  first | ((first | refine no_implicit_lambda% (skol ?_) | refine no_implicit_lambda% (skolW ?_) | refine no_implicit_lambda% (skolL ?_) | refine no_implicit_lambda% (skolS ?_) | refine no_implicit_lambda% (skolA ?_)); generalize @skz _ _ _ = n) | intro n
  first | ((first | refine no_implicit_lambda% (skol ?_) | refine no_implicit_lambda% (skolW ?_) | refine no_implicit_lambda% (skolL ?_) | refine no_implicit_lambda% (skolS ?_) | refine no_implicit_lambda% (skolA ?_)); generalize @skz _ _ _ = nb) | intro nb
  first | ((first | refine no_implicit_lambda% (skol ?_) | refine no_implicit_lambda% (skolW ?_) | refine no_implicit_lambda% (skolL ?_) | refine no_implicit_lambda% (skolS ?_) | refine no_implicit_lambda% (skolA ?_)); generalize @skz _ _ _ = ch) | intro ch
  first | ((first | refine no_implicit_lambda% (skol ?_) | refine no_implicit_lambda% (skolW ?_) | refine no_implicit_lambda% (skolL ?_) | refine no_implicit_lambda% (skolS ?_) | refine no_implicit_lambda% (skolA ?_)); generalize @skz _ _ _ = hat) | intro hat
  first | ((first | refine no_implicit_lambda% (skol ?_) | refine no_implicit_lambda% (skolW ?_) | refine no_implicit_lambda% (skolL ?_) | refine no_implicit_lambda% (skolS ?_) | refine no_implicit_lambda% (skolA ?_)); generalize @skz _ _ _ = hspec) | intro hspec
  first | ((first | refine no_implicit_lambda% (skol ?_) | refine no_implicit_lambda% (skolW ?_) | refine no_implicit_lambda% (skolL ?_) | refine no_implicit_lambda% (skolS ?_) | refine no_implicit_lambda% (skolA ?_)); generalize @skz _ _ _ = hsz) | intro hsz
  first | ((first | refine no_implicit_lambda% (skol ?_) | refine no_implicit_lambda% (skolW ?_) | refine no_implicit_lambda% (skolL ?_) | refine no_implicit_lambda% (skolS ?_) | refine no_implicit_lambda% (skolA ?_)); generalize @skz _ _ _ = hln0) | intro hln0
  first | ((first | refine no_implicit_lambda% (skol ?_) | refine no_implicit_lambda% (skolW ?_) | refine no_implicit_lambda% (skolL ?_) | refine no_implicit_lambda% (skolS ?_) | refine no_implicit_lambda% (skolA ?_)); generalize @skz _ _ _ = hln) | intro hln
  first | (refine no_implicit_lambda% (skol4 (by first | exact ⟨default⟩ | exact neWorld | exact neShared | exact neAround | exact neLX) (by first | exact ⟨default⟩ | exact neWorld | exact neShared | exact neAround | exact neLX) (by first | exact ⟨default⟩ | exact neWorld | exact neShared | exact neAround | exact neLX) (by first | exact ⟨default⟩ | exact neWorld | exact neShared | exact neAround | exact neLX) ?_); generalize @sk4a _ _ _ _ _ _ _ _ _ = p; generalize @sk4b _ _ _ _ _ _ _ _ _ = loose; generalize @sk4c _ _ _ _ _ _ _ _ _ = mean; generalize @sk4d _ _ _ _ _ _ _ _ _ = mg) | ((first | ((first | refine no_implicit_lambda% (skol ?_) | refine no_implicit_lambda% (skolW ?_) | refine no_implicit_lambda% (skolL ?_) | refine no_implicit_lambda% (skolS ?_) | refine no_implicit_lambda% (skolA ?_)); generalize @skz _ _ _ = p) | intro p); (first | ((first | refine no_implicit_lambda% (skol ?_) | refine no_implicit_lambda% (skolW ?_) | refine no_implicit_lambda% (skolL ?_) | refine no_implicit_lambda% (skolS ?_) | refine no_implicit_lambda% (skolA ?_)); generalize @skz _ _ _ = loose) | intro loose); (first | ((first | refine no_implicit_lambda% (skol ?_) | refine no_implicit_lambda% (skolW ?_) | refine no_implicit_lambda% (skolL ?_) | refine no_implicit_lambda% (skolS ?_) | refine no_implicit_lambda% (skolA ?_)); generalize @skz _ _ _ = mean) | intro mean); (first | ((first | refine no_implicit_lambda% (skol ?_) | refine no_implicit_lambda% (skolW ?_) | refine no_implicit_lambda% (skolL ?_) | refine no_implicit_lambda% (skolS ?_) | refine no_implicit_lambda% (skolA ?_)); generalize @skz _ _ _ = mg) | intro mg))
  first | (refine no_implicit_lambda% (skol4 (by first | exact ⟨default⟩ | exact neWorld | exact neShared | exact neAround | exact neLX) (by first | exact ⟨default⟩ | exact neWorld | exact neShared | exact neAround | exact neLX) (by first | exact ⟨default⟩ | exact neWorld | exact neShared | exact neAround | exact neLX) (by first | exact ⟨default⟩ | exact neWorld | exact neShared | exact neAround | exact neLX) ?_); generalize @sk4a _ _ _ _ _ _ _ _ _ = mb; generalize @sk4b _ _ _ _ _ _ _ _ _ = dp; generalize @sk4c _ _ _ _ _ _ _ _ _ = un; generalize @sk4d _ _ _ _ _ _ _ _ _ = gd) | ((first | ((first | refine no_implicit_lambda% (skol ?_) | refine no_implicit_lambda% (skolW ?_) | refine no_implicit_lambda% (skolL ?_) | refine no_implicit_lambda% (skolS ?_) | refine no_implicit_lambda% (skolA ?_)); generalize @skz _ _ _ = mb) | intro mb); (first | ((first | refine no_implicit_lambda% (skol ?_) | refine no_implicit_lambda% (skolW ?_) | refine no_implicit_lambda% (skolL ?_) | refine no_implicit_lambda% (skolS ?_) | refine no_implicit_lambda% (skolA ?_)); generalize @skz _ _ _ = dp) | intro dp); (first | ((first | refine no_implicit_lambda% (skol ?_) | refine no_implicit_lambda% (skolW ?_) | refine no_implicit_lambda% (skolL ?_) | refine no_implicit_lambda% (skolS ?_) | refine no_implicit_lambda% (skolA ?_)); generalize @skz _ _ _ = un) | intro un); (first | ((first | refine no_implicit_lambda% (skol ?_) | refine no_implicit_lambda% (skolW ?_) | refine no_implicit_lambda% (skolL ?_) | refine no_implicit_lambda% (skolS ?_) | refine no_implicit_lambda% (skolA ?_)); generalize @skz _ _ _ = gd) | intro gd))
  first | (refine no_implicit_lambda% (skol4 (by first | exact ⟨default⟩ | exact neWorld | exact neShared | exact neAround | exact neLX) (by first | exact ⟨default⟩ | exact neWorld | exact neShared | exact neAround | exact neLX) (by first | exact ⟨default⟩ | exact neWorld | exact neShared | exact neAround | exact neLX) (by first | exact ⟨default⟩ | exact neWorld | exact neShared | exact neAround | exact neLX) ?_); generalize @sk4a _ _ _ _ _ _ _ _ _ = outer; generalize @sk4b _ _ _ _ _ _ _ _ _ = A₀; generalize @sk4c _ _ _ _ _ _ _ _ _ = base; generalize @sk4d _ _ _ _ _ _ _ _ _ = g) | ((first | ((first | refine no_implicit_lambda% (skol ?_) | refine no_implicit_lambda% (skolW ?_) | refine no_implicit_lambda% (skolL ?_) | refine no_implicit_lambda% (skolS ?_) | refine no_implicit_lambda% (skolA ?_)); generalize @skz _ _ _ = outer) | intro outer); (first | ((first | refine no_implicit_lambda% (skol ?_) | refine no_implicit_lambda% (skolW ?_) | refine no_implicit_lambda% (skolL ?_) | refine no_implicit_lambda% (skolS ?_) | refine no_implicit_lambda% (skolA ?_)); generalize @skz _ _ _ = A₀) | intro A₀); (first | ((first | refine no_implicit_lambda% (skol ?_) | refine no_implicit_lambda% (skolW ?_) | refine no_implicit_lambda% (skolL ?_) | refine no_implicit_lambda% (skolS ?_) | refine no_implicit_lambda% (skolA ?_)); generalize @skz _ _ _ = base) | intro base); (first | ((first | refine no_implicit_lambda% (skol ?_) | refine no_implicit_lambda% (skolW ?_) | refine no_implicit_lambda% (skolL ?_) | refine no_implicit_lambda% (skolS ?_) | refine no_implicit_lambda% (skolA ?_)); generalize @skz _ _ _ = g) | intro g))
  first | ((first | refine no_implicit_lambda% (skol ?_) | refine no_implicit_lambda% (skolW ?_) | refine no_implicit_lambda% (skolL ?_) | refine no_implicit_lambda% (skolS ?_) | refine no_implicit_lambda% (skolA ?_)); generalize @skz _ _ _ = L) | intro L
  first | ((first | refine no_implicit_lambda% (skol ?_) | refine no_implicit_lambda% (skolW ?_) | refine no_implicit_lambda% (skolL ?_) | refine no_implicit_lambda% (skolS ?_) | refine no_implicit_lambda% (skolA ?_)); generalize @skz _ _ _ = s) | intro s
  first | ((first | refine no_implicit_lambda% (skol ?_) | refine no_implicit_lambda% (skolW ?_) | refine no_implicit_lambda% (skolL ?_) | refine no_implicit_lambda% (skolS ?_) | refine no_implicit_lambda% (skolA ?_)); generalize @skz _ _ _ = Q) | intro Q
  first | ((first | refine no_implicit_lambda% (skol ?_) | refine no_implicit_lambda% (skolW ?_) | refine no_implicit_lambda% (skolL ?_) | refine no_implicit_lambda% (skolS ?_) | refine no_implicit_lambda% (skolA ?_)); generalize @skz _ _ _ = B) | intro B
  first | ((first | refine no_implicit_lambda% (skol ?_) | refine no_implicit_lambda% (skolW ?_) | refine no_implicit_lambda% (skolL ?_) | refine no_implicit_lambda% (skolS ?_) | refine no_implicit_lambda% (skolA ?_)); generalize @skz _ _ _ = F) | intro F
  first | ((first | refine no_implicit_lambda% (skol ?_) | refine no_implicit_lambda% (skolW ?_) | refine no_implicit_lambda% (skolL ?_) | refine no_implicit_lambda% (skolS ?_) | refine no_implicit_lambda% (skolA ?_)); generalize @skz _ _ _ = X) | intro X
  first | ((first | refine no_implicit_lambda% (skol ?_) | refine no_implicit_lambda% (skolW ?_) | refine no_implicit_lambda% (skolL ?_) | refine no_implicit_lambda% (skolS ?_) | refine no_implicit_lambda% (skolA ?_)); generalize @skz _ _ _ = N) | intro N
  first | ((first | refine no_implicit_lambda% (skol ?_) | refine no_implicit_lambda% (skolW ?_) | refine no_implicit_lambda% (skolL ?_) | refine no_implicit_lambda% (skolS ?_) | refine no_implicit_lambda% (skolA ?_)); generalize @skz _ _ _ = T) | intro T
  first | ((first | refine no_implicit_lambda% (skol ?_) | refine no_implicit_lambda% (skolW ?_) | refine no_implicit_lambda% (skolL ?_) | refine no_implicit_lambda% (skolS ?_) | refine no_implicit_lambda% (skolA ?_)); generalize @skz _ _ _ = hd) | intro hd
  first | ((first | refine no_implicit_lambda% (skol ?_) | refine no_implicit_lambda% (skolW ?_) | refine no_implicit_lambda% (skolL ?_) | refine no_implicit_lambda% (skolS ?_) | refine no_implicit_lambda% (skolA ?_)); generalize @skz _ _ _ = hu) | intro hu
  first | ((first | refine no_implicit_lambda% (skol ?_) | refine no_implicit_lambda% (skolW ?_) | refine no_implicit_lambda% (skolL ?_) | refine no_implicit_lambda% (skolS ?_) | refine no_implicit_lambda% (skolA ?_)); generalize @skz _ _ _ = hoff) | intro hoff
  first | ((first | refine no_implicit_lambda% (skol ?_) | refine no_implicit_lambda% (skolW ?_) | refine no_implicit_lambda% (skolL ?_) | refine no_implicit_lambda% (skolS ?_) | refine no_implicit_lambda% (skolA ?_)); generalize @skz _ _ _ = hret) | intro hret
  first | ((first | refine no_implicit_lambda% (skol ?_) | refine no_implicit_lambda% (skolW ?_) | refine no_implicit_lambda% (skolL ?_) | refine no_implicit_lambda% (skolS ?_) | refine no_implicit_lambda% (skolA ?_)); generalize @skz _ _ _ = hfall) | intro hfall
  have hK0 : (fun w : World => Mine.hd0.heap_1_1 w.params, PySem.Challenge.rw_to0042_01) = (fun w : World => Mine.hd0.heap_1_1 w.params, PySem.Challenge.rw_to0042_01) := by (k_fill; rfl)
  clear hK0
  generalize hP : forQ w.params = S
  conv at hP => (lhs; whnf)
  subst hP
  generalize hS : gtScope w.params = S
  conv at hS => (lhs; whnf)
  subst hS
  refine wpAny_For ?_
  k_steps
  refine cit_iter (N _ (.head _)).1 ?_
  refine it_loop (g := g) (m := gm I.x it tok tt ch) (news := gtA w I it q ts ln k tl tk n nb) (fun n' m₁ news₁ => ∃ rest tok tt ch ln k tl tk, m₁ = gm I.x it tok tt ch ∧ news₁ = gtA w I it q ts ln k tl tk n nb ∧ n' = rest.length ∧ At I.page k rest ∧ lexQ rest tok ln = RES ∧ tok.length + rest.length ≤ 1001 ∧ 0 ≤ ln ∧ ln + rest.length ≤ 1000) rfl rfl F N ⟨rest, tok, tt, ch, ln, k, tl, tk, rfl, rfl, rfl, hat, hspec, hsz, hln0, hln⟩ ?_
  clear F N hat hspec hsz hln0 hln
  rintro n' m₁ news₁ h₁ tk₁ F N ⟨rest, tok, tt, ch, ln, k, tl, tk, rfl, rfl, rfl, hat, hspec, hsz, hln0, hln⟩
  refine next_read hI hat.h0 (by have := hat.hl; have := hI.hpg; omega) hln0 (by omega) B F X N T rfl (by omega) (by omega) hoff ?_ ?_
  · cases rest with
    | nil => intro hne; exact absurd hat.nil hne
    | cons c r =>
      obtain ⟨e, hat'⟩ := hat.cons
      rw [e]
      intro hne t h' tk' tl' tk'' F N
      rw [nl_eq] at N
      have hk1 : k + ((sOf c).length : Int) = k + 1 := rfl
      rw [hk1] at N
      simp only [List.length_cons] at hsz hln
      dsimp only [gtA, lexL] at N
      dsimp only
      have hw1 := nlC_le c ln
      have hz1 := hat'.hl
      have hz2 := hI.hpg
      have hz3 : 0 ≤ k := hat.h0
      have hoff1 := hoff.1
      have hoff2 := hoff.2.1
      simp only [List.forall_mem_cons] at hoff1 hoff2
      obtain ⟨_, _, _, _, _, _, _, _, _, _, _⟩ := hoff1
      obtain ⟨_, _, _, _, _, _, _, _, _, _, _⟩ := hoff2
      have hz5 := hat'.step
      have hz4 : (chAt I.page (k + 1)).length ≤ 1 := by rw [hz5.1]; have := len_hdS r; cases r with | nil => decide | cons a b => exact Nat.le_refl 1
      k_steps
      · -- a blank: the word ends
        have hw : c = 34 := one_eq (d := 34) (by assumption)
        rw [lexQ, if_pos hw] at hspec
        have h7 : nlC c ln = ln := if_neg (by omega)
        rename Fr _ _ _ _ => F
        rename News _ _ _ _ => N
        rw [h7] at N
        subst hspec
        exact hret _ _ _ _ _ _ _ F N hat'
      · -- a backslash
        have hw : c ≠ 34 := one_ne (d := 34) (by assumption)
        have hc : c = 92 := one_eq (d := 92) (by assumption)
        rw [lexQ, if_neg hw] at hspec
        have hes : escS c r = chAt I.page (k + 1) := by rw [hz5.1]; exact if_pos hc
        have her : escR c r = r.tail := if_pos hc
        have hel : escL c r ln = hdL r (nlC c ln) := by rw [show nlC c ln = ln from if_neg (by omega)]; exact if_pos hc
        rename Fr _ _ _ _ => F
        rename News _ _ _ _ => N
        rw [hz5.1, nl_hd] at N
        have h9 := len_hdS r
        have h8 := hdL_le r (nlC c ln)
        have h7 : nlC c ln = ln := if_neg (by omega)
        refine ⟨_, _, _, gtA w I it q ts (hdL r (nlC c ln)) (k + 1 + (hdS r).length) _ _ n nb, r.tail.length, rfl, F, fun b hb => N b (mem_rot [(it, citObj q ts), (q, methodObj (.ref 79) (.ref I.x))] (lexL w I (hdL r (nlC c ln)) (k + 1 + (hdS r).length) _ _ n [] nb) hb), by simp; omega, r.tail, tok ++ chAt I.page (k + 1), _, _, hdL r (nlC c ln), k + 1 + (hdS r).length, _, _, gm_eq rfl rfl rfl rfl (fun y h1 h2 h3 h4 => by simp only [gm, if_neg h1, if_neg h2, if_neg h3, if_neg h4]), rfl, rfl, hz5.2, ?_, ?_, ?_, ?_⟩
        · rw [← hes, ← her, ← hel]; exact hspec
        · rw [len_app]; omega
        · omega
        · omega
      · -- another sign
        have hw : c ≠ 34 := one_ne (d := 34) (by assumption)
        have hc : c ≠ 92 := one_ne (d := 92) (by assumption)
        rw [lexQ, if_neg hw] at hspec
        have hes : escS c r = sOf c := if_neg hc
        have her : escR c r = r := if_neg hc
        have hel : escL c r ln = nlC c ln := if_neg hc
        rw [hes, her, hel] at hspec
        rename Fr _ _ _ _ => F
        rename News _ _ _ _ => N
        refine ⟨_, _, _, _, r.length, rfl, F, N, by simp, r, tok ++ sOf c, _, _, nlC c ln, k + 1, _, _, gm_eq rfl rfl rfl rfl (fun y h1 h2 h3 h4 => by simp only [gm, if_neg h1, if_neg h2, if_neg h3, if_neg h4]), rfl, rfl, hat', hspec, ?_, ?_, ?_⟩
        · rw [len_app]; show tok.length + 1 + r.length ≤ 1001; omega
        · omega
        · omega
  · -- no more signs
    intro he h' tk' tl' tk'' F N
    cases rest with
    | cons c r => rw [hat.cons.1] at he; exact absurd he (sOf_ne c)
    | nil =>
      rw [lexQ] at hspec
      subst hspec
      exact hfall rfl _ _ _ _ _ _ _ F N hat
theorem fr_gm {g h : Heap} {L : Addr} {f : Str → Option Value} {x it : Addr} {tok : Str} {tt : Tok} {ch : Option Value} (F : Fr g L h f) (h1 : f (Str.ofString "ch") = ch) (h2 : f (Str.ofString "token") = some (.str tok tt)) (h3 : f (Str.ofString "fiter") = some (.ref it)) (h4 : f (Str.ofString "self") = some (.ref x))
    (h5 : ∀ y, y ≠ Str.ofString "ch" → y ≠ Str.ofString "token" → y ≠ Str.ofString "fiter" → y ≠ Str.ofString "self" → f y = none) : Fr g L h (gm x it tok tt ch) := gm_eq h1 h2 h3 h4 h5 ▸ F
local macro_rules | `(tactic| walk_at "call builtin:iter") => `(tactic| (k_here; (with_reducible show wpAny _ _ (call (Value.builtin "iter") [Value.ref _, Value.str (Str.ofString "") _]) _ _ _); k_dflt (refine' cit_make_N ?F ?N ?a ?_; (case F => k_asm); (case N => k_asm); (case a => k_mem)); intro it' h' F' N' l2; (try k_lt l2); (try k_sweep)))
set_option maxHeartbeats 4000000 in
theorem get_ctr (w : World) (I : LX) (rest : List Nat) (ln k : Int) (tl tk : Tok) (n nb : Nat) (hI : LXok w I) (hat : At I.page k rest) (hln0 : 0 ≤ ln) (hln : ln + rest.length ≤ 1000) :
   Ctr w 86 [.ref I.x] [] 6 (fun _ => True) (lexL w I ln k tl tk n [] nb)
     (fun r kept new => ∃ t k' tl' tk', r = .str (lexO rest ln).1 t ∧ new = [] ∧ At I.page k' (lexO rest ln).2.1 ∧ kept = lexL w I (lexO rest ln).2.2 k' tl' tk' n [] nb) := by
  w_top off
  revert w I rest ln k tl tk n nb hI hat hln0 hln
  first | (refine no_implicit_lambda% (skol4 (by first | exact ⟨default⟩ | exact neWorld | exact neShared | exact neAround | exact neLX) (by first | exact ⟨default⟩ | exact neWorld | exact neShared | exact neAround | exact neLX) (by first | exact ⟨default⟩ | exact neWorld | exact neShared | exact neAround | exact neLX) (by first | exact ⟨default⟩ | exact neWorld | exact neShared | exact neAround | exact neLX) ?_); generalize @sk4a _ _ _ _ _ _ _ _ _ = w; generalize @sk4b _ _ _ _ _ _ _ _ _ = I; generalize @sk4c _ _ _ _ _ _ _ _ _ = rest; generalize @sk4d _ _ _ _ _ _ _ _ _ = ln) | ((first | ((first | refine no_implicit_lambda% (skol ?_) | refine no_implicit_lambda% (skolW ?_) | refine no_implicit_lambda% (skolL ?_) | refine no_implicit_lambda% (skolS ?_) | refine no_implicit_lambda% (skolA ?_)); generalize @skz _ _ _ = w) | intro w); (first | ((first | refine no_implicit_lambda% (skol ?_) | refine no_implicit_lambda% (skolW ?_) | refine no_implicit_lambda% (skolL ?_) | refine no_implicit_lambda% (skolS ?_) | refine no_implicit_lambda% (skolA ?_)); generalize @skz _ _ _ = I) | intro I); (first | ((first | refine no_implicit_lambda% (skol ?_) | refine no_implicit_lambda% (skolW ?_) | refine no_implicit_lambda% (skolL ?_) | refine no_implicit_lambda% (skolS ?_) | refine no_implicit_lambda% (skolA ?_)); generalize @skz _ _ _ = rest) | intro rest); (first | ((first | refine no_implicit_lambda% (skol ?_) | refine no_implicit_lambda% (skolW ?_) | refine no_implicit_lambda% (skolL ?_) | refine no_implicit_lambda% (skolS ?_) | refine no_implicit_lambda% (skolA ?_)); generalize @skz _ _ _ = ln) | intro ln))
  first | (refine no_implicit_lambda% (skol4 (by first | exact ⟨default⟩ | exact neWorld | exact neShared | exact neAround | exact neLX) (by first | exact ⟨default⟩ | exact neWorld | exact neShared | exact neAround | exact neLX) (by first | exact ⟨default⟩ | exact neWorld | exact neShared | exact neAround | exact neLX) (by first | exact ⟨default⟩ | exact neWorld | exact neShared | exact neAround | exact neLX) ?_); generalize @sk4a _ _ _ _ _ _ _ _ _ = k; generalize @sk4b _ _ _ _ _ _ _ _ _ = tl; generalize @sk4c _ _ _ _ _ _ _ _ _ = tk; generalize @sk4d _ _ _ _ _ _ _ _ _ = n) | ((first | ((first | refine no_implicit_lambda% (skol ?_) | refine no_implicit_lambda% (skolW ?_) | refine no_implicit_lambda% (skolL ?_) | refine no_implicit_lambda% (skolS ?_) | refine no_implicit_lambda% (skolA ?_)); generalize @skz _ _ _ = k) | intro k); (first | ((first | refine no_implicit_lambda% (skol ?_) | refine no_implicit_lambda% (skolW ?_) | refine no_implicit_lambda% (skolL ?_) | refine no_implicit_lambda% (skolS ?_) | refine no_implicit_lambda% (skolA ?_)); generalize @skz _ _ _ = tl) | intro tl); (first | ((first | refine no_implicit_lambda% (skol ?_) | refine no_implicit_lambda% (skolW ?_) | refine no_implicit_lambda% (skolL ?_) | refine no_implicit_lambda% (skolS ?_) | refine no_implicit_lambda% (skolA ?_)); generalize @skz _ _ _ = tk) | intro tk); (first | ((first | refine no_implicit_lambda% (skol ?_) | refine no_implicit_lambda% (skolW ?_) | refine no_implicit_lambda% (skolL ?_) | refine no_implicit_lambda% (skolS ?_) | refine no_implicit_lambda% (skolA ?_)); generalize @skz _ _ _ = n) | intro n))
  first | ((first | refine no_implicit_lambda% (skol ?_) | refine no_implicit_lambda% (skolW ?_) | refine no_implicit_lambda% (skolL ?_) | refine no_implicit_lambda% (skolS ?_) | refine no_implicit_lambda% (skolA ?_)); generalize @skz _ _ _ = nb) | intro nb
  first | ((first | refine no_implicit_lambda% (skol ?_) | refine no_implicit_lambda% (skolW ?_) | refine no_implicit_lambda% (skolL ?_) | refine no_implicit_lambda% (skolS ?_) | refine no_implicit_lambda% (skolA ?_)); generalize @skz _ _ _ = hI) | intro hI
  first | ((first | refine no_implicit_lambda% (skol ?_) | refine no_implicit_lambda% (skolW ?_) | refine no_implicit_lambda% (skolL ?_) | refine no_implicit_lambda% (skolS ?_) | refine no_implicit_lambda% (skolA ?_)); generalize @skz _ _ _ = hat) | intro hat
  first | ((first | refine no_implicit_lambda% (skol ?_) | refine no_implicit_lambda% (skolW ?_) | refine no_implicit_lambda% (skolL ?_) | refine no_implicit_lambda% (skolS ?_) | refine no_implicit_lambda% (skolA ?_)); generalize @skz _ _ _ = hln0) | intro hln0
  first | ((first | refine no_implicit_lambda% (skol ?_) | refine no_implicit_lambda% (skolW ?_) | refine no_implicit_lambda% (skolL ?_) | refine no_implicit_lambda% (skolS ?_) | refine no_implicit_lambda% (skolA ?_)); generalize @skz _ _ _ = hln) | intro hln
  have hK0 : (fun w : World => Mine.hd0.heap_1_1 w.params, PySem.Challenge.rw_to0042_01) = (fun w : World => Mine.hd0.heap_1_1 w.params, PySem.Challenge.rw_to0042_01) := by (k_fill; rfl)
  clear hK0
  refine' enter_def [("self", .ref I.x)] ?pre ?ho ?hcd ?hb ?hl ?c1 ?c2 ?c3 ?c4 ?_
  case ho => k_is
  case hcd => k_is
  case pre => exact fun _ _ _ _ => trivial
  case hb => exact fun _ _ => BindsTo.of_eq rfl
  case hl => exact locs rfl
  case c1 => rfl
  case c2 => rfl
  case c3 => rfl
  case c4 => decide
  unfold Body
  first | (refine no_implicit_lambda% (skol4 (by first | exact ⟨default⟩ | exact neWorld | exact neShared | exact neAround | exact neLX) (by first | exact ⟨default⟩ | exact neWorld | exact neShared | exact neAround | exact neLX) (by first | exact ⟨default⟩ | exact neWorld | exact neShared | exact neAround | exact neLX) (by first | exact ⟨default⟩ | exact neWorld | exact neShared | exact neAround | exact neLX) ?_); generalize @sk4a _ _ _ _ _ _ _ _ _ = p; generalize @sk4b _ _ _ _ _ _ _ _ _ = loose; generalize @sk4c _ _ _ _ _ _ _ _ _ = mean; generalize @sk4d _ _ _ _ _ _ _ _ _ = mg) | ((first | ((first | refine no_implicit_lambda% (skol ?_) | refine no_implicit_lambda% (skolW ?_) | refine no_implicit_lambda% (skolL ?_) | refine no_implicit_lambda% (skolS ?_) | refine no_implicit_lambda% (skolA ?_)); generalize @skz _ _ _ = p) | intro p); (first | ((first | refine no_implicit_lambda% (skol ?_) | refine no_implicit_lambda% (skolW ?_) | refine no_implicit_lambda% (skolL ?_) | refine no_implicit_lambda% (skolS ?_) | refine no_implicit_lambda% (skolA ?_)); generalize @skz _ _ _ = loose) | intro loose); (first | ((first | refine no_implicit_lambda% (skol ?_) | refine no_implicit_lambda% (skolW ?_) | refine no_implicit_lambda% (skolL ?_) | refine no_implicit_lambda% (skolS ?_) | refine no_implicit_lambda% (skolA ?_)); generalize @skz _ _ _ = mean) | intro mean); (first | ((first | refine no_implicit_lambda% (skol ?_) | refine no_implicit_lambda% (skolW ?_) | refine no_implicit_lambda% (skolL ?_) | refine no_implicit_lambda% (skolS ?_) | refine no_implicit_lambda% (skolA ?_)); generalize @skz _ _ _ = mg) | intro mg))
  first | (refine no_implicit_lambda% (skol4 (by first | exact ⟨default⟩ | exact neWorld | exact neShared | exact neAround | exact neLX) (by first | exact ⟨default⟩ | exact neWorld | exact neShared | exact neAround | exact neLX) (by first | exact ⟨default⟩ | exact neWorld | exact neShared | exact neAround | exact neLX) (by first | exact ⟨default⟩ | exact neWorld | exact neShared | exact neAround | exact neLX) ?_); generalize @sk4a _ _ _ _ _ _ _ _ _ = mb; generalize @sk4b _ _ _ _ _ _ _ _ _ = dp; generalize @sk4c _ _ _ _ _ _ _ _ _ = un; generalize @sk4d _ _ _ _ _ _ _ _ _ = gd) | ((first | ((first | refine no_implicit_lambda% (skol ?_) | refine no_implicit_lambda% (skolW ?_) | refine no_implicit_lambda% (skolL ?_) | refine no_implicit_lambda% (skolS ?_) | refine no_implicit_lambda% (skolA ?_)); generalize @skz _ _ _ = mb) | intro mb); (first | ((first | refine no_implicit_lambda% (skol ?_) | refine no_implicit_lambda% (skolW ?_) | refine no_implicit_lambda% (skolL ?_) | refine no_implicit_lambda% (skolS ?_) | refine no_implicit_lambda% (skolA ?_)); generalize @skz _ _ _ = dp) | intro dp); (first | ((first | refine no_implicit_lambda% (skol ?_) | refine no_implicit_lambda% (skolW ?_) | refine no_implicit_lambda% (skolL ?_) | refine no_implicit_lambda% (skolS ?_) | refine no_implicit_lambda% (skolA ?_)); generalize @skz _ _ _ = un) | intro un); (first | ((first | refine no_implicit_lambda% (skol ?_) | refine no_implicit_lambda% (skolW ?_) | refine no_implicit_lambda% (skolL ?_) | refine no_implicit_lambda% (skolS ?_) | refine no_implicit_lambda% (skolA ?_)); generalize @skz _ _ _ = gd) | intro gd))
  first | (refine no_implicit_lambda% (skol4 (by first | exact ⟨default⟩ | exact neWorld | exact neShared | exact neAround | exact neLX) (by first | exact ⟨default⟩ | exact neWorld | exact neShared | exact neAround | exact neLX) (by first | exact ⟨default⟩ | exact neWorld | exact neShared | exact neAround | exact neLX) (by first | exact ⟨default⟩ | exact neWorld | exact neShared | exact neAround | exact neLX) ?_); generalize @sk4a _ _ _ _ _ _ _ _ _ = outer; generalize @sk4b _ _ _ _ _ _ _ _ _ = A₀; generalize @sk4c _ _ _ _ _ _ _ _ _ = base; generalize @sk4d _ _ _ _ _ _ _ _ _ = g) | ((first | ((first | refine no_implicit_lambda% (skol ?_) | refine no_implicit_lambda% (skolW ?_) | refine no_implicit_lambda% (skolL ?_) | refine no_implicit_lambda% (skolS ?_) | refine no_implicit_lambda% (skolA ?_)); generalize @skz _ _ _ = outer) | intro outer); (first | ((first | refine no_implicit_lambda% (skol ?_) | refine no_implicit_lambda% (skolW ?_) | refine no_implicit_lambda% (skolL ?_) | refine no_implicit_lambda% (skolS ?_) | refine no_implicit_lambda% (skolA ?_)); generalize @skz _ _ _ = A₀) | intro A₀); (first | ((first | refine no_implicit_lambda% (skol ?_) | refine no_implicit_lambda% (skolW ?_) | refine no_implicit_lambda% (skolL ?_) | refine no_implicit_lambda% (skolS ?_) | refine no_implicit_lambda% (skolA ?_)); generalize @skz _ _ _ = base) | intro base); (first | ((first | refine no_implicit_lambda% (skol ?_) | refine no_implicit_lambda% (skolW ?_) | refine no_implicit_lambda% (skolL ?_) | refine no_implicit_lambda% (skolS ?_) | refine no_implicit_lambda% (skolA ?_)); generalize @skz _ _ _ = g) | intro g))
  first | ((first | refine no_implicit_lambda% (skol ?_) | refine no_implicit_lambda% (skolW ?_) | refine no_implicit_lambda% (skolL ?_) | refine no_implicit_lambda% (skolS ?_) | refine no_implicit_lambda% (skolA ?_)); generalize @skz _ _ _ = h₁) | intro h₁
  first | ((first | refine no_implicit_lambda% (skol ?_) | refine no_implicit_lambda% (skolW ?_) | refine no_implicit_lambda% (skolL ?_) | refine no_implicit_lambda% (skolS ?_) | refine no_implicit_lambda% (skolA ?_)); generalize @skz _ _ _ = L') | intro L'
  first | ((first | refine no_implicit_lambda% (skol ?_) | refine no_implicit_lambda% (skolW ?_) | refine no_implicit_lambda% (skolL ?_) | refine no_implicit_lambda% (skolS ?_) | refine no_implicit_lambda% (skolA ?_)); generalize @skz _ _ _ = s) | intro s
  intro B
  intro F
  intro X
  intro N
  intro T
  intro hd
  intro hu
  intro hp
  dsimp only [lexL] at N
  k_steps
  refine Hold.mk ?_
  refine wpAny_For ?_
  k_steps
  rename Fr _ _ _ _ => F
  rename News _ _ _ _ => N
  rename_i _ q _ l1 it _ l2 _
  have hoff : offL I it q := by
    refine ⟨?_, ?_, Nat.ne_of_gt l2.1⟩ <;> (simp only [List.forall_mem_cons]; refine ⟨?_, ?_, ?_, ?_, ?_, ?_, ?_, ?_, ?_, ?_, fun _ h => nomatch h⟩ <;> k_ne)
  generalize hRES : lexO rest ln = RES
  refine cit_iter (N _ (.head _)).1 ?_
  refine it_loop (g := g) (n₀ := rest.length + 1) (fun n' m₁ news₁ => (∃ rest tt ch ln k ts tl tk, m₁ = gm I.x it (Str.ofString "") tt ch ∧ news₁ = gtA w I it q ts ln k tl tk n nb ∧ n' = rest.length + 1 ∧ At I.page k rest ∧ lexO rest ln = RES ∧ 0 ≤ ln ∧ ln + rest.length ≤ 1000) ∨
    (RES.2.1 = [] ∧ ∃ tt ch k tl tk, m₁ = gm I.x it RES.1 tt ch ∧ news₁ = gtE w I it q RES.2.2 k tl tk n nb ∧ n' = 0 ∧ At I.page k [])) rfl rfl F N (.inl ⟨rest, _, none, ln, k, _, tl, _, gm_eq rfl rfl rfl rfl (fun y h1 h2 h3 h4 => ?_), rfl, rfl, hat, hRES, hln0, hln⟩) ?_
  · simp only [if_neg h2, if_neg h3, List.reverse_cons, List.reverse_nil, List.nil_append, List.lookup_cons, beq_eq_false_iff_ne.mpr h4, List.lookup_nil]
  clear F N hat hRES hln0 hln
  rintro n' m₁ news₁ h₁ tk₁ F N (⟨rest, tt, ch, ln, k, ts, tl, tk, rfl, rfl, rfl, hat, hspec, hln0, hln⟩ | ⟨hr, tt, ch, k, tl, tk, rfl, rfl, rfl, hat⟩)
  · refine next_read hI hat.h0 (by have := hat.hl; have := hI.hpg; omega) hln0 (by omega) B F X N T rfl (by omega) (by omega) hoff ?_ ?_
    · cases rest with
      | nil => intro hne; exact absurd hat.nil hne
      | cons c r =>
        obtain ⟨e, hat'⟩ := hat.cons
        rw [e]
        intro hne t h' tk' tl' tk'' F N
        rw [nl_eq] at N
        have hk1 : k + ((sOf c).length : Int) = k + 1 := rfl
        rw [hk1] at N
        simp only [List.length_cons] at hln
        dsimp only [gtA, lexL] at N
        dsimp only
        have hw1 := nlC_le c ln
        have hz1 := hat'.hl
        have hz2 := hI.hpg
        have hz3 : 0 ≤ k := hat.h0
        have hoff1 := hoff.1
        have hoff2 := hoff.2.1
        simp only [List.forall_mem_cons] at hoff1 hoff2
        obtain ⟨_, _, _, _, _, _, _, _, _, _, _⟩ := hoff1
        obtain ⟨_, _, _, _, _, _, _, _, _, _, _⟩ := hoff2
        have hz5 := hat'.step
        have hz4 : (chAt I.page (k + 1)).length ≤ 1 := by rw [hz5.1]; have := len_hdS r; cases r with | nil => decide | cons a b => exact Nat.le_refl 1
        k_steps
        · -- a quote
          have hw := ws_f (by assumption)
          have hc : c = 34 := one_eq (d := 34) (by assumption)
          rw [lexO, if_neg (by rw [hw]; decide), if_pos hc] at hspec
          have h7 : nlC c ln = ln := if_neg (by omega)
          rename Fr _ _ _ _ => F
          rename News _ _ _ _ => N
          rw [h7] at N
          have F2 : Fr g L' _ (gm I.x it (Str.ofString "") tt (some (.str (sOf c) t))) := fr_gm F rfl rfl rfl rfl (fun y h1 h2 h3 h4 => by simp only [gm, if_neg h1, if_neg h2, if_neg h3, if_neg h4])
          refine Hold.mk ?_
          refine loopQ hI hat' hspec (by show 0 + r.length ≤ 1001; omega) hln0 (by omega) B F2 X N T (by omega) (by omega) hoff ?_ ?_
          · intro t h' tk' k' tl' tk'' m' F N hat
            dsimp only [TurnEnd]
            refine Done.intro (lexL w I RES.2.2 k' tl' tk'' n [] nb) [] F N (fun q h => .tail _ (.tail _ h)) (fun _ h => nomatch h) (fun _ h => nomatch h) ?_
            exact ⟨t, k', tl', tk'', rfl, rfl, hat, rfl⟩
          · intro hr tt' ch' h' tk' k' tl' tk'' F N hat
            k_steps
            exact ⟨_, _, _, _, 0, rfl, F, N, by simp, .inr ⟨hr, tt', ch', k', tl', tk'', rfl, rfl, rfl, hat⟩⟩
        · -- a backslash
          have hw := ws_f (by assumption)
          have hq : c ≠ 34 := one_ne (d := 34) (by assumption)
          have hc : c = 92 := one_eq (d := 92) (by assumption)
          rw [lexO, if_neg (by rw [hw]; decide), if_neg hq] at hspec
          have hes : escS c r = chAt I.page (k + 1) := by rw [hz5.1]; exact if_pos hc
          have her : escR c r = r.tail := if_pos hc
          have h7 : nlC c ln = ln := if_neg (by omega)
          have hel : escL c r ln = hdL r (nlC c ln) := by rw [h7]; exact if_pos hc
          rw [hes, her, hel] at hspec
          have h9 := len_hdS r
          have h8 := hdL_le r (nlC c ln)
          rename Fr _ _ _ _ => F
          rename News _ _ _ _ => N
          rw [hz5.1, nl_hd] at N
          have F2 : Fr g L' _ (gm I.x it (Str.ofString "" ++ chAt I.page (k + 1)) _ (some (.str (chAt I.page (k + 1)) _))) := fr_gm F rfl rfl rfl rfl (fun y h1 h2 h3 h4 => by simp only [gm, if_neg h1, if_neg h2, if_neg h3, if_neg h4])
          refine Hold.mk ?_
          refine loopP hI hz5.2 hspec (by rw [len_app]; show 0 + _ + _ ≤ 1001; omega) (by omega) (by omega) B F2 X (fun b hb => N b (mem_rot [(it, citObj q ts), (q, methodObj (.ref 79) (.ref I.x))] (lexL w I (hdL r (nlC c ln)) (k + 1 + (hdS r).length) _ _ n [] nb) hb)) T (by omega) (by omega) hoff ?_ ?_
          · intro t h' tk' k' tl' tk'' m' F N hat
            dsimp only [TurnEnd]
            refine Done.intro (lexL w I RES.2.2 k' tl' tk'' n [] nb) [] F N (fun q h => .tail _ (.tail _ h)) (fun _ h => nomatch h) (fun _ h => nomatch h) ?_
            exact ⟨t, k', tl', tk'', rfl, rfl, hat, rfl⟩
          · intro hr tt' ch' h' tk' k' tl' tk'' F N hat
            k_steps
            exact ⟨_, _, _, _, 0, rfl, F, N, by simp, .inr ⟨hr, tt', ch', k', tl', tk'', rfl, rfl, rfl, hat⟩⟩
        · -- another sign
          have hw := ws_f (by assumption)
          have hq : c ≠ 34 := one_ne (d := 34) (by assumption)
          have hc : c ≠ 92 := one_ne (d := 92) (by assumption)
          rw [lexO, if_neg (by rw [hw]; decide), if_neg hq] at hspec
          have hes : escS c r = sOf c := if_neg hc
          have her : escR c r = r := if_neg hc
          have hel : escL c r ln = nlC c ln := if_neg hc
          rw [hes, her, hel] at hspec
          rename Fr _ _ _ _ => F
          rename News _ _ _ _ => N
          have F2 : Fr g L' _ (gm I.x it (Str.ofString "" ++ sOf c) _ (some (.str (sOf c) t))) := fr_gm F rfl rfl rfl rfl (fun y h1 h2 h3 h4 => by simp only [gm, if_neg h1, if_neg h2, if_neg h3, if_neg h4])
          refine Hold.mk ?_
          refine loopP hI hat' hspec (by rw [len_app]; show 0 + 1 + _ ≤ 1001; omega) (by omega) (by omega) B F2 X N T (by omega) (by omega) hoff ?_ ?_
          · intro t h' tk' k' tl' tk'' m' F N hat
            dsimp only [TurnEnd]
            refine Done.intro (lexL w I RES.2.2 k' tl' tk'' n [] nb) [] F N (fun q h => .tail _ (.tail _ h)) (fun _ h => nomatch h) (fun _ h => nomatch h) ?_
            exact ⟨t, k', tl', tk'', rfl, rfl, hat, rfl⟩
          · intro hr tt' ch' h' tk' k' tl' tk'' F N hat
            k_steps
            exact ⟨_, _, _, _, 0, rfl, F, N, by simp, .inr ⟨hr, tt', ch', k', tl', tk'', rfl, rfl, rfl, hat⟩⟩
        · -- a blank ahead of the word
          have hw := ws_t (by assumption)
          rw [lexO, if_pos hw] at hspec
          rename Fr _ _ _ _ => F
          rename News _ _ _ _ => N
          exact ⟨_, _, _, _, r.length + 1, rfl, F, N, by simp, .inl ⟨r, tt, _, nlC c ln, k + 1, ts, _, _, gm_eq rfl rfl rfl rfl (fun y h1 h2 h3 h4 => by simp only [gm, if_neg h1, if_neg h2, if_neg h3, if_neg h4]), rfl, rfl, hat', hspec, by omega, by omega⟩⟩
    · -- no more signs
      intro he h' tk' tl' tk'' F N
      cases rest with
      | cons c r => rw [hat.cons.1] at he; exact absurd he (sOf_ne c)
      | nil =>
        rw [lexO] at hspec
        subst hspec
        k_steps
        refine Done.intro (lexL w I ln k tl' tk'' n [] nb) [] F N (fun q h => .tail _ (.tail _ h)) (fun _ h => nomatch h) (fun _ h => nomatch h) ?_
        exact ⟨tt, k, tl', tk'', rfl, rfl, hat, rfl⟩
  · -- the iterator has ended
    refine cit_ended rfl (N _ (.head _)).1 fun h' kp => ?_
    have F2 : Fr g L' h' (gm I.x it RES.1 tt ch) := ⟨F.ns.at' (fun o e => kp _ o e), fun b o e => kp b o (F.keep b o e), F.above⟩
    have N2 : News g L' h' (gtE w I it q RES.2.2 k tl tk n nb) := fun b hb => ⟨kp _ _ (N b hb).1, (N b hb).2⟩
    clear F N
    dsimp only
    k_steps
    refine Done.intro (lexL w I RES.2.2 k tl tk n [] nb) [] F2 N2 (fun q h => .tail _ (.tail _ h)) (fun _ h => nomatch h) (fun _ h => nomatch h) ?_
    exact ⟨tt, k, tl, tk, rfl, rfl, hr ▸ hat, rfl⟩
end Mine
end
section
open PySem PySem.W PyProof.Rows PySem.Calls
set_option maxRecDepth 100000
namespace Mine
section
variable {prog : Program} {w : World} {A : Around} {E : Value → Shared → Prop} {s : Shared} {h₀ : Heap} {L D : Addr} {m : Str → Option Value} {news news' : Led} {n : Nat} {v : Value} {vs : List Value}
theorem truthy_cons {Q : Bool → Shared → Prop} (N : News h₀ L s.heap news) (hm : (D, W.listOf (v :: vs).toArray n) ∈ news) (hz : vs.length ≤ 1000) (h : Q true { s with toks := s.toks + 1 + 1 }) : wpAny (model prog w) A (truthy (.ref D)) Q E s :=
  wpAny_truthy_list (items := (v :: vs).toArray) ⟨_, (N _ hm).1, rfl, _, rfl⟩ (by rw [List.size_toArray, List.length_cons]; omega) h
theorem pop_zero {u : Tok} {Q : Value → Shared → Prop} (F : Fr h₀ L s.heap m) (N : News h₀ L s.heap news) (U : Upd D (W.listOf (v :: vs).toArray n) (W.listOf vs.toArray (n + 1)) news news') (hz : vs.length ≤ 1000)
    (h : ∀ h', Fr h₀ L h' m → News h₀ L h' news' → Q v { s with heap := h' }) : wpAny (model prog w) A (call (.builtin "list.pop") [.ref D, .int 0 u]) Q E s :=
  kl_popAt (k := 0) (p := []) (q := vs) F N rfl (by
    rw [List.size_toArray, List.length_cons]
    have h1 : (0 : Int) < ((vs.length + 1 : Nat) : Int) := by omega
    simp [seqIndex?]) rfl U (by simp only [List.length_cons]; rw [sizeLine_eq]; omega) h
end
local macro_rules | `(tactic| walk_at "truthy ref") => `(tactic| (k_here; k_dflt (refine' truthy_cons ?N ?m ?z ?_; (case N => k_asm); (case m => k_mem); (case z => assumption))))
local macro_rules | `(tactic| walk_at "call builtin:list.pop") => `(tactic| (k_here; (with_reducible show wpAny _ _ (call (Value.builtin _) [Value.ref _, Value.int _ _]) _ _ _); k_dflt (refine' pop_zero ?F ?N ?U ?z ?_; (case F => k_asm); (case N => k_asm); (case U => k_upd); (case z => assumption)); intro h' F' N'))
set_option maxHeartbeats 4000000 in
theorem getp_ctr (w : World) (I : LX) (ln k : Int) (tl tk : Tok) (n nb : Nat) (v : Str) (tv : Tok) (vs : List Value) (hI : LXok w I) (hvs : vs.length ≤ 1000) :
   Ctr w 86 [.ref I.x] [] 3 (fun _ => True) (lexL w I ln k tl tk n (.str v tv :: vs) nb)
     (fun r kept new => ∃ nb', r = .str v tv ∧ new = [] ∧ kept = lexL w I ln k tl tk n vs nb') := by
  w_top off
  revert w I ln k tl tk n nb v tv vs hI hvs
  first | (refine no_implicit_lambda% (skol4 (by first | exact ⟨default⟩ | exact neWorld | exact neShared | exact neAround | exact neLX) (by first | exact ⟨default⟩ | exact neWorld | exact neShared | exact neAround | exact neLX) (by first | exact ⟨default⟩ | exact neWorld | exact neShared | exact neAround | exact neLX) (by first | exact ⟨default⟩ | exact neWorld | exact neShared | exact neAround | exact neLX) ?_); generalize @sk4a _ _ _ _ _ _ _ _ _ = w; generalize @sk4b _ _ _ _ _ _ _ _ _ = I; generalize @sk4c _ _ _ _ _ _ _ _ _ = ln; generalize @sk4d _ _ _ _ _ _ _ _ _ = k) | ((first | ((first | refine no_implicit_lambda% (skol ?_) | refine no_implicit_lambda% (skolW ?_) | refine no_implicit_lambda% (skolL ?_) | refine no_implicit_lambda% (skolS ?_) | refine no_implicit_lambda% (skolA ?_)); generalize @skz _ _ _ = w) | intro w); (first | ((first | refine no_implicit_lambda% (skol ?_) | refine no_implicit_lambda% (skolW ?_) | refine no_implicit_lambda% (skolL ?_) | refine no_implicit_lambda% (skolS ?_) | refine no_implicit_lambda% (skolA ?_)); generalize @skz _ _ _ = I) | intro I); (first | ((first | refine no_implicit_lambda% (skol ?_) | refine no_implicit_lambda% (skolW ?_) | refine no_implicit_lambda% (skolL ?_) | refine no_implicit_lambda% (skolS ?_) | refine no_implicit_lambda% (skolA ?_)); generalize @skz _ _ _ = ln) | intro ln); (first | ((first | refine no_implicit_lambda% (skol ?_) | refine no_implicit_lambda% (skolW ?_) | refine no_implicit_lambda% (skolL ?_) | refine no_implicit_lambda% (skolS ?_) | refine no_implicit_lambda% (skolA ?_)); generalize @skz _ _ _ = k) | intro k))
  first | (refine no_implicit_lambda% (skol4 (by first | exact ⟨default⟩ | exact neWorld | exact neShared | exact neAround | exact neLX) (by first | exact ⟨default⟩ | exact neWorld | exact neShared | exact neAround | exact neLX) (by first | exact ⟨default⟩ | exact neWorld | exact neShared | exact neAround | exact neLX) (by first | exact ⟨default⟩ | exact neWorld | exact neShared | exact neAround | exact neLX) ?_); generalize @sk4a _ _ _ _ _ _ _ _ _ = tl; generalize @sk4b _ _ _ _ _ _ _ _ _ = tk; generalize @sk4c _ _ _ _ _ _ _ _ _ = n; generalize @sk4d _ _ _ _ _ _ _ _ _ = nb) | ((first | ((first | refine no_implicit_lambda% (skol ?_) | refine no_implicit_lambda% (skolW ?_) | refine no_implicit_lambda% (skolL ?_) | refine no_implicit_lambda% (skolS ?_) | refine no_implicit_lambda% (skolA ?_)); generalize @skz _ _ _ = tl) | intro tl); (first | ((first | refine no_implicit_lambda% (skol ?_) | refine no_implicit_lambda% (skolW ?_) | refine no_implicit_lambda% (skolL ?_) | refine no_implicit_lambda% (skolS ?_) | refine no_implicit_lambda% (skolA ?_)); generalize @skz _ _ _ = tk) | intro tk); (first | ((first | refine no_implicit_lambda% (skol ?_) | refine no_implicit_lambda% (skolW ?_) | refine no_implicit_lambda% (skolL ?_) | refine no_implicit_lambda% (skolS ?_) | refine no_implicit_lambda% (skolA ?_)); generalize @skz _ _ _ = n) | intro n); (first | ((first | refine no_implicit_lambda% (skol ?_) | refine no_implicit_lambda% (skolW ?_) | refine no_implicit_lambda% (skolL ?_) | refine no_implicit_lambda% (skolS ?_) | refine no_implicit_lambda% (skolA ?_)); generalize @skz _ _ _ = nb) | intro nb))
  first | ((first | refine no_implicit_lambda% (skol ?_) | refine no_implicit_lambda% (skolW ?_) | refine no_implicit_lambda% (skolL ?_) | refine no_implicit_lambda% (skolS ?_) | refine no_implicit_lambda% (skolA ?_)); generalize @skz _ _ _ = v) | intro v
  first | ((first | refine no_implicit_lambda% (skol ?_) | refine no_implicit_lambda% (skolW ?_) | refine no_implicit_lambda% (skolL ?_) | refine no_implicit_lambda% (skolS ?_) | refine no_implicit_lambda% (skolA ?_)); generalize @skz _ _ _ = tv) | intro tv
  first | ((first | refine no_implicit_lambda% (skol ?_) | refine no_implicit_lambda% (skolW ?_) | refine no_implicit_lambda% (skolL ?_) | refine no_implicit_lambda% (skolS ?_) | refine no_implicit_lambda% (skolA ?_)); generalize @skz _ _ _ = vs) | intro vs
  first | ((first | refine no_implicit_lambda% (skol ?_) | refine no_implicit_lambda% (skolW ?_) | refine no_implicit_lambda% (skolL ?_) | refine no_implicit_lambda% (skolS ?_) | refine no_implicit_lambda% (skolA ?_)); generalize @skz _ _ _ = hI) | intro hI
  first | ((first | refine no_implicit_lambda% (skol ?_) | refine no_implicit_lambda% (skolW ?_) | refine no_implicit_lambda% (skolL ?_) | refine no_implicit_lambda% (skolS ?_) | refine no_implicit_lambda% (skolA ?_)); generalize @skz _ _ _ = hvs) | intro hvs
  obtain ⟨⟨pos, hdef⟩, hoc, hq, hoA, hoP, hpg, ha1, ha2, ha3⟩ := hI
  simp only [List.forall_mem_cons] at ha3
  obtain ⟨_, _, _, _, _, _, _, _, _, _⟩ := ha3
  have hK0 : (fun w : World => Mine.hd0.heap_1_1 w.params, PySem.Challenge.rw_to0042_01) = (fun w : World => Mine.hd0.heap_1_1 w.params, PySem.Challenge.rw_to0042_01) := by (k_fill; rfl)
  clear hK0
  refine' enter_def [("self", .ref I.x)] ?pre ?ho ?hcd ?hb ?hl ?c1 ?c2 ?c3 ?c4 ?_
  case ho => k_is
  case hcd => k_is
  case pre => exact fun _ _ _ _ => trivial
  case hb => exact fun _ _ => BindsTo.of_eq rfl
  case hl => exact locs rfl
  case c1 => rfl
  case c2 => rfl
  case c3 => rfl
  case c4 => decide
  unfold Body
  first | (refine no_implicit_lambda% (skol4 (by first | exact ⟨default⟩ | exact neWorld | exact neShared | exact neAround | exact neLX) (by first | exact ⟨default⟩ | exact neWorld | exact neShared | exact neAround | exact neLX) (by first | exact ⟨default⟩ | exact neWorld | exact neShared | exact neAround | exact neLX) (by first | exact ⟨default⟩ | exact neWorld | exact neShared | exact neAround | exact neLX) ?_); generalize @sk4a _ _ _ _ _ _ _ _ _ = p; generalize @sk4b _ _ _ _ _ _ _ _ _ = loose; generalize @sk4c _ _ _ _ _ _ _ _ _ = mean; generalize @sk4d _ _ _ _ _ _ _ _ _ = mg) | ((first | ((first | refine no_implicit_lambda% (skol ?_) | refine no_implicit_lambda% (skolW ?_) | refine no_implicit_lambda% (skolL ?_) | refine no_implicit_lambda% (skolS ?_) | refine no_implicit_lambda% (skolA ?_)); generalize @skz _ _ _ = p) | intro p); (first | ((first | refine no_implicit_lambda% (skol ?_) | refine no_implicit_lambda% (skolW ?_) | refine no_implicit_lambda% (skolL ?_) | refine no_implicit_lambda% (skolS ?_) | refine no_implicit_lambda% (skolA ?_)); generalize @skz _ _ _ = loose) | intro loose); (first | ((first | refine no_implicit_lambda% (skol ?_) | refine no_implicit_lambda% (skolW ?_) | refine no_implicit_lambda% (skolL ?_) | refine no_implicit_lambda% (skolS ?_) | refine no_implicit_lambda% (skolA ?_)); generalize @skz _ _ _ = mean) | intro mean); (first | ((first | refine no_implicit_lambda% (skol ?_) | refine no_implicit_lambda% (skolW ?_) | refine no_implicit_lambda% (skolL ?_) | refine no_implicit_lambda% (skolS ?_) | refine no_implicit_lambda% (skolA ?_)); generalize @skz _ _ _ = mg) | intro mg))
  first | (refine no_implicit_lambda% (skol4 (by first | exact ⟨default⟩ | exact neWorld | exact neShared | exact neAround | exact neLX) (by first | exact ⟨default⟩ | exact neWorld | exact neShared | exact neAround | exact neLX) (by first | exact ⟨default⟩ | exact neWorld | exact neShared | exact neAround | exact neLX) (by first | exact ⟨default⟩ | exact neWorld | exact neShared | exact neAround | exact neLX) ?_); generalize @sk4a _ _ _ _ _ _ _ _ _ = mb; generalize @sk4b _ _ _ _ _ _ _ _ _ = dp; generalize @sk4c _ _ _ _ _ _ _ _ _ = un; generalize @sk4d _ _ _ _ _ _ _ _ _ = gd) | ((first | ((first | refine no_implicit_lambda% (skol ?_) | refine no_implicit_lambda% (skolW ?_) | refine no_implicit_lambda% (skolL ?_) | refine no_implicit_lambda% (skolS ?_) | refine no_implicit_lambda% (skolA ?_)); generalize @skz _ _ _ = mb) | intro mb); (first | ((first | refine no_implicit_lambda% (skol ?_) | refine no_implicit_lambda% (skolW ?_) | refine no_implicit_lambda% (skolL ?_) | refine no_implicit_lambda% (skolS ?_) | refine no_implicit_lambda% (skolA ?_)); generalize @skz _ _ _ = dp) | intro dp); (first | ((first | refine no_implicit_lambda% (skol ?_) | refine no_implicit_lambda% (skolW ?_) | refine no_implicit_lambda% (skolL ?_) | refine no_implicit_lambda% (skolS ?_) | refine no_implicit_lambda% (skolA ?_)); generalize @skz _ _ _ = un) | intro un); (first | ((first | refine no_implicit_lambda% (skol ?_) | refine no_implicit_lambda% (skolW ?_) | refine no_implicit_lambda% (skolL ?_) | refine no_implicit_lambda% (skolS ?_) | refine no_implicit_lambda% (skolA ?_)); generalize @skz _ _ _ = gd) | intro gd))
  first | (refine no_implicit_lambda% (skol4 (by first | exact ⟨default⟩ | exact neWorld | exact neShared | exact neAround | exact neLX) (by first | exact ⟨default⟩ | exact neWorld | exact neShared | exact neAround | exact neLX) (by first | exact ⟨default⟩ | exact neWorld | exact neShared | exact neAround | exact neLX) (by first | exact ⟨default⟩ | exact neWorld | exact neShared | exact neAround | exact neLX) ?_); generalize @sk4a _ _ _ _ _ _ _ _ _ = outer; generalize @sk4b _ _ _ _ _ _ _ _ _ = A₀; generalize @sk4c _ _ _ _ _ _ _ _ _ = base; generalize @sk4d _ _ _ _ _ _ _ _ _ = g) | ((first | ((first | refine no_implicit_lambda% (skol ?_) | refine no_implicit_lambda% (skolW ?_) | refine no_implicit_lambda% (skolL ?_) | refine no_implicit_lambda% (skolS ?_) | refine no_implicit_lambda% (skolA ?_)); generalize @skz _ _ _ = outer) | intro outer); (first | ((first | refine no_implicit_lambda% (skol ?_) | refine no_implicit_lambda% (skolW ?_) | refine no_implicit_lambda% (skolL ?_) | refine no_implicit_lambda% (skolS ?_) | refine no_implicit_lambda% (skolA ?_)); generalize @skz _ _ _ = A₀) | intro A₀); (first | ((first | refine no_implicit_lambda% (skol ?_) | refine no_implicit_lambda% (skolW ?_) | refine no_implicit_lambda% (skolL ?_) | refine no_implicit_lambda% (skolS ?_) | refine no_implicit_lambda% (skolA ?_)); generalize @skz _ _ _ = base) | intro base); (first | ((first | refine no_implicit_lambda% (skol ?_) | refine no_implicit_lambda% (skolW ?_) | refine no_implicit_lambda% (skolL ?_) | refine no_implicit_lambda% (skolS ?_) | refine no_implicit_lambda% (skolA ?_)); generalize @skz _ _ _ = g) | intro g))
  first | ((first | refine no_implicit_lambda% (skol ?_) | refine no_implicit_lambda% (skolW ?_) | refine no_implicit_lambda% (skolL ?_) | refine no_implicit_lambda% (skolS ?_) | refine no_implicit_lambda% (skolA ?_)); generalize @skz _ _ _ = h₁) | intro h₁
  first | ((first | refine no_implicit_lambda% (skol ?_) | refine no_implicit_lambda% (skolW ?_) | refine no_implicit_lambda% (skolL ?_) | refine no_implicit_lambda% (skolS ?_) | refine no_implicit_lambda% (skolA ?_)); generalize @skz _ _ _ = L') | intro L'
  first | ((first | refine no_implicit_lambda% (skol ?_) | refine no_implicit_lambda% (skolW ?_) | refine no_implicit_lambda% (skolL ?_) | refine no_implicit_lambda% (skolS ?_) | refine no_implicit_lambda% (skolA ?_)); generalize @skz _ _ _ = s) | intro s
  intro B
  intro F
  intro X
  intro N
  intro T
  intro hd
  intro hu
  intro hp
  dsimp only [lexL] at N
  k_steps
  refine Done.intro _ [] (by k_asm) (by k_asm) (fun _ h => h) (fun _ h => nomatch h) (fun _ h => nomatch h) ?_
  exact ⟨_, rfl, rfl, rfl⟩
set_option maxHeartbeats 4000000 in
theorem push_ctr (w : World) (I : LX) (ln k : Int) (tl tk : Tok) (n nb : Nat) (v : Str) (tv : Tok) (vs : List Value) (hI : LXok w I) (hvs : vs.length ≤ 1000) :
   Ctr w 93 [.ref I.x, .str v tv] [] 3 (fun _ => True) (lexL w I ln k tl tk n vs nb)
     (fun r kept new => ∃ nb', r = .none ∧ new = [] ∧ kept = lexL w I ln k tl tk n (vs ++ [.str v tv]) nb') := by
  w_top off
  revert w I ln k tl tk n nb v tv vs hI hvs
  first | (refine no_implicit_lambda% (skol4 (by first | exact ⟨default⟩ | exact neWorld | exact neShared | exact neAround | exact neLX) (by first | exact ⟨default⟩ | exact neWorld | exact neShared | exact neAround | exact neLX) (by first | exact ⟨default⟩ | exact neWorld | exact neShared | exact neAround | exact neLX) (by first | exact ⟨default⟩ | exact neWorld | exact neShared | exact neAround | exact neLX) ?_); generalize @sk4a _ _ _ _ _ _ _ _ _ = w; generalize @sk4b _ _ _ _ _ _ _ _ _ = I; generalize @sk4c _ _ _ _ _ _ _ _ _ = ln; generalize @sk4d _ _ _ _ _ _ _ _ _ = k) | ((first | ((first | refine no_implicit_lambda% (skol ?_) | refine no_implicit_lambda% (skolW ?_) | refine no_implicit_lambda% (skolL ?_) | refine no_implicit_lambda% (skolS ?_) | refine no_implicit_lambda% (skolA ?_)); generalize @skz _ _ _ = w) | intro w); (first | ((first | refine no_implicit_lambda% (skol ?_) | refine no_implicit_lambda% (skolW ?_) | refine no_implicit_lambda% (skolL ?_) | refine no_implicit_lambda% (skolS ?_) | refine no_implicit_lambda% (skolA ?_)); generalize @skz _ _ _ = I) | intro I); (first | ((first | refine no_implicit_lambda% (skol ?_) | refine no_implicit_lambda% (skolW ?_) | refine no_implicit_lambda% (skolL ?_) | refine no_implicit_lambda% (skolS ?_) | refine no_implicit_lambda% (skolA ?_)); generalize @skz _ _ _ = ln) | intro ln); (first | ((first | refine no_implicit_lambda% (skol ?_) | refine no_implicit_lambda% (skolW ?_) | refine no_implicit_lambda% (skolL ?_) | refine no_implicit_lambda% (skolS ?_) | refine no_implicit_lambda% (skolA ?_)); generalize @skz _ _ _ = k) | intro k))
  first | (refine no_implicit_lambda% (skol4 (by first | exact ⟨default⟩ | exact neWorld | exact neShared | exact neAround | exact neLX) (by first | exact ⟨default⟩ | exact neWorld | exact neShared | exact neAround | exact neLX) (by first | exact ⟨default⟩ | exact neWorld | exact neShared | exact neAround | exact neLX) (by first | exact ⟨default⟩ | exact neWorld | exact neShared | exact neAround | exact neLX) ?_); generalize @sk4a _ _ _ _ _ _ _ _ _ = tl; generalize @sk4b _ _ _ _ _ _ _ _ _ = tk; generalize @sk4c _ _ _ _ _ _ _ _ _ = n; generalize @sk4d _ _ _ _ _ _ _ _ _ = nb) | ((first | ((first | refine no_implicit_lambda% (skol ?_) | refine no_implicit_lambda% (skolW ?_) | refine no_implicit_lambda% (skolL ?_) | refine no_implicit_lambda% (skolS ?_) | refine no_implicit_lambda% (skolA ?_)); generalize @skz _ _ _ = tl) | intro tl); (first | ((first | refine no_implicit_lambda% (skol ?_) | refine no_implicit_lambda% (skolW ?_) | refine no_implicit_lambda% (skolL ?_) | refine no_implicit_lambda% (skolS ?_) | refine no_implicit_lambda% (skolA ?_)); generalize @skz _ _ _ = tk) | intro tk); (first | ((first | refine no_implicit_lambda% (skol ?_) | refine no_implicit_lambda% (skolW ?_) | refine no_implicit_lambda% (skolL ?_) | refine no_implicit_lambda% (skolS ?_) | refine no_implicit_lambda% (skolA ?_)); generalize @skz _ _ _ = n) | intro n); (first | ((first | refine no_implicit_lambda% (skol ?_) | refine no_implicit_lambda% (skolW ?_) | refine no_implicit_lambda% (skolL ?_) | refine no_implicit_lambda% (skolS ?_) | refine no_implicit_lambda% (skolA ?_)); generalize @skz _ _ _ = nb) | intro nb))
  first | ((first | refine no_implicit_lambda% (skol ?_) | refine no_implicit_lambda% (skolW ?_) | refine no_implicit_lambda% (skolL ?_) | refine no_implicit_lambda% (skolS ?_) | refine no_implicit_lambda% (skolA ?_)); generalize @skz _ _ _ = v) | intro v
  first | ((first | refine no_implicit_lambda% (skol ?_) | refine no_implicit_lambda% (skolW ?_) | refine no_implicit_lambda% (skolL ?_) | refine no_implicit_lambda% (skolS ?_) | refine no_implicit_lambda% (skolA ?_)); generalize @skz _ _ _ = tv) | intro tv
  first | ((first | refine no_implicit_lambda% (skol ?_) | refine no_implicit_lambda% (skolW ?_) | refine no_implicit_lambda% (skolL ?_) | refine no_implicit_lambda% (skolS ?_) | refine no_implicit_lambda% (skolA ?_)); generalize @skz _ _ _ = vs) | intro vs
  first | ((first | refine no_implicit_lambda% (skol ?_) | refine no_implicit_lambda% (skolW ?_) | refine no_implicit_lambda% (skolL ?_) | refine no_implicit_lambda% (skolS ?_) | refine no_implicit_lambda% (skolA ?_)); generalize @skz _ _ _ = hI) | intro hI
  first | ((first | refine no_implicit_lambda% (skol ?_) | refine no_implicit_lambda% (skolW ?_) | refine no_implicit_lambda% (skolL ?_) | refine no_implicit_lambda% (skolS ?_) | refine no_implicit_lambda% (skolA ?_)); generalize @skz _ _ _ = hvs) | intro hvs
  obtain ⟨⟨pos, hdef⟩, hoc, hq, hoA, hoP, hpg, ha1, ha2, ha3⟩ := hI
  simp only [List.forall_mem_cons] at ha3
  obtain ⟨_, _, _, _, _, _, _, _, _, _⟩ := ha3
  have hK0 : (fun w : World => Mine.hd0.heap_1_1 w.params, PySem.Challenge.rw_to0042_01) = (fun w : World => Mine.hd0.heap_1_1 w.params, PySem.Challenge.rw_to0042_01) := by (k_fill; rfl)
  clear hK0
  refine' enter_def [("self", .ref I.x), ("token", .str v tv)] ?pre ?ho ?hcd ?hb ?hl ?c1 ?c2 ?c3 ?c4 ?_
  case ho => k_is
  case hcd => k_is
  case pre => exact fun _ _ _ _ => trivial
  case hb => exact fun _ _ => BindsTo.of_eq rfl
  case hl => exact locs rfl
  case c1 => rfl
  case c2 => rfl
  case c3 => rfl
  case c4 => decide
  unfold Body
  first | (refine no_implicit_lambda% (skol4 (by first | exact ⟨default⟩ | exact neWorld | exact neShared | exact neAround | exact neLX) (by first | exact ⟨default⟩ | exact neWorld | exact neShared | exact neAround | exact neLX) (by first | exact ⟨default⟩ | exact neWorld | exact neShared | exact neAround | exact neLX) (by first | exact ⟨default⟩ | exact neWorld | exact neShared | exact neAround | exact neLX) ?_); generalize @sk4a _ _ _ _ _ _ _ _ _ = p; generalize @sk4b _ _ _ _ _ _ _ _ _ = loose; generalize @sk4c _ _ _ _ _ _ _ _ _ = mean; generalize @sk4d _ _ _ _ _ _ _ _ _ = mg) | ((first | ((first | refine no_implicit_lambda% (skol ?_) | refine no_implicit_lambda% (skolW ?_) | refine no_implicit_lambda% (skolL ?_) | refine no_implicit_lambda% (skolS ?_) | refine no_implicit_lambda% (skolA ?_)); generalize @skz _ _ _ = p) | intro p); (first | ((first | refine no_implicit_lambda% (skol ?_) | refine no_implicit_lambda% (skolW ?_) | refine no_implicit_lambda% (skolL ?_) | refine no_implicit_lambda% (skolS ?_) | refine no_implicit_lambda% (skolA ?_)); generalize @skz _ _ _ = loose) | intro loose); (first | ((first | refine no_implicit_lambda% (skol ?_) | refine no_implicit_lambda% (skolW ?_) | refine no_implicit_lambda% (skolL ?_) | refine no_implicit_lambda% (skolS ?_) | refine no_implicit_lambda% (skolA ?_)); generalize @skz _ _ _ = mean) | intro mean); (first | ((first | refine no_implicit_lambda% (skol ?_) | refine no_implicit_lambda% (skolW ?_) | refine no_implicit_lambda% (skolL ?_) | refine no_implicit_lambda% (skolS ?_) | refine no_implicit_lambda% (skolA ?_)); generalize @skz _ _ _ = mg) | intro mg))
  first | (refine no_implicit_lambda% (skol4 (by first | exact ⟨default⟩ | exact neWorld | exact neShared | exact neAround | exact neLX) (by first | exact ⟨default⟩ | exact neWorld | exact neShared | exact neAround | exact neLX) (by first | exact ⟨default⟩ | exact neWorld | exact neShared | exact neAround | exact neLX) (by first | exact ⟨default⟩ | exact neWorld | exact neShared | exact neAround | exact neLX) ?_); generalize @sk4a _ _ _ _ _ _ _ _ _ = mb; generalize @sk4b _ _ _ _ _ _ _ _ _ = dp; generalize @sk4c _ _ _ _ _ _ _ _ _ = un; generalize @sk4d _ _ _ _ _ _ _ _ _ = gd) | ((first | ((first | refine no_implicit_lambda% (skol ?_) | refine no_implicit_lambda% (skolW ?_) | refine no_implicit_lambda% (skolL ?_) | refine no_implicit_lambda% (skolS ?_) | refine no_implicit_lambda% (skolA ?_)); generalize @skz _ _ _ = mb) | intro mb); (first | ((first | refine no_implicit_lambda% (skol ?_) | refine no_implicit_lambda% (skolW ?_) | refine no_implicit_lambda% (skolL ?_) | refine no_implicit_lambda% (skolS ?_) | refine no_implicit_lambda% (skolA ?_)); generalize @skz _ _ _ = dp) | intro dp); (first | ((first | refine no_implicit_lambda% (skol ?_) | refine no_implicit_lambda% (skolW ?_) | refine no_implicit_lambda% (skolL ?_) | refine no_implicit_lambda% (skolS ?_) | refine no_implicit_lambda% (skolA ?_)); generalize @skz _ _ _ = un) | intro un); (first | ((first | refine no_implicit_lambda% (skol ?_) | refine no_implicit_lambda% (skolW ?_) | refine no_implicit_lambda% (skolL ?_) | refine no_implicit_lambda% (skolS ?_) | refine no_implicit_lambda% (skolA ?_)); generalize @skz _ _ _ = gd) | intro gd))
  first | (refine no_implicit_lambda% (skol4 (by first | exact ⟨default⟩ | exact neWorld | exact neShared | exact neAround | exact neLX) (by first | exact ⟨default⟩ | exact neWorld | exact neShared | exact neAround | exact neLX) (by first | exact ⟨default⟩ | exact neWorld | exact neShared | exact neAround | exact neLX) (by first | exact ⟨default⟩ | exact neWorld | exact neShared | exact neAround | exact neLX) ?_); generalize @sk4a _ _ _ _ _ _ _ _ _ = outer; generalize @sk4b _ _ _ _ _ _ _ _ _ = A₀; generalize @sk4c _ _ _ _ _ _ _ _ _ = base; generalize @sk4d _ _ _ _ _ _ _ _ _ = g) | ((first | ((first | refine no_implicit_lambda% (skol ?_) | refine no_implicit_lambda% (skolW ?_) | refine no_implicit_lambda% (skolL ?_) | refine no_implicit_lambda% (skolS ?_) | refine no_implicit_lambda% (skolA ?_)); generalize @skz _ _ _ = outer) | intro outer); (first | ((first | refine no_implicit_lambda% (skol ?_) | refine no_implicit_lambda% (skolW ?_) | refine no_implicit_lambda% (skolL ?_) | refine no_implicit_lambda% (skolS ?_) | refine no_implicit_lambda% (skolA ?_)); generalize @skz _ _ _ = A₀) | intro A₀); (first | ((first | refine no_implicit_lambda% (skol ?_) | refine no_implicit_lambda% (skolW ?_) | refine no_implicit_lambda% (skolL ?_) | refine no_implicit_lambda% (skolS ?_) | refine no_implicit_lambda% (skolA ?_)); generalize @skz _ _ _ = base) | intro base); (first | ((first | refine no_implicit_lambda% (skol ?_) | refine no_implicit_lambda% (skolW ?_) | refine no_implicit_lambda% (skolL ?_) | refine no_implicit_lambda% (skolS ?_) | refine no_implicit_lambda% (skolA ?_)); generalize @skz _ _ _ = g) | intro g))
  first | ((first | refine no_implicit_lambda% (skol ?_) | refine no_implicit_lambda% (skolW ?_) | refine no_implicit_lambda% (skolL ?_) | refine no_implicit_lambda% (skolS ?_) | refine no_implicit_lambda% (skolA ?_)); generalize @skz _ _ _ = h₁) | intro h₁
  first | ((first | refine no_implicit_lambda% (skol ?_) | refine no_implicit_lambda% (skolW ?_) | refine no_implicit_lambda% (skolL ?_) | refine no_implicit_lambda% (skolS ?_) | refine no_implicit_lambda% (skolA ?_)); generalize @skz _ _ _ = L') | intro L'
  first | ((first | refine no_implicit_lambda% (skol ?_) | refine no_implicit_lambda% (skolW ?_) | refine no_implicit_lambda% (skolL ?_) | refine no_implicit_lambda% (skolS ?_) | refine no_implicit_lambda% (skolA ?_)); generalize @skz _ _ _ = s) | intro s
  intro B
  intro F
  intro X
  intro N
  intro T
  intro hd
  intro hu
  intro hp
  dsimp only [lexL] at N
  k_steps
  refine Done.intro _ [] (by k_asm) (by k_asm) (fun _ h => h) (fun _ h => nomatch h) (fun _ h => nomatch h) ?_
  exact ⟨nb + 1, rfl, rfl, by simp only [lexL, List.push_toArray]⟩
end Mine
end
section
open PySem PySem.W PyProof.Rows PySem.Calls
set_option maxRecDepth 100000
namespace Mine
def sgnL : List Nat := [43, 45, 42, 47, 124, 38]
def sg (i : Int) : Str := sOf (sgnL.getD i.toNat 0)
theorem six {i : Int} (h0 : 0 ≤ i) (h6 : i < 6) : i = 0 ∨ i = 1 ∨ i = 2 ∨ i = 3 ∨ i = 4 ∨ i = 5 := by omega
theorem sg_at {i : Int} (h0 : 0 ≤ i) (h6 : i < 6) : (seqIndex? i (Str.ofString "+-*/|&").length).bind ((Str.ofString "+-*/|&").cps[·]?) = some (sgnL.getD i.toNat 0) := by
  rcases six h0 h6 with rfl | rfl | rfl | rfl | rfl | rfl <;> decide +kernel
theorem tok_at (P : Params) {i : Int} (h0 : 0 ≤ i) (h6 : i < 6) : ∃ t, nsIn (Mine.hd0.heap_1_1 P) 15 (sg i) = some (some (.int (14 + i) t)) := by
  rcases six h0 h6 with rfl | rfl | rfl | rfl | rfl | rfl <;> exact ⟨_, rfl⟩
theorem tok_tab (P : Params) : ∃ es n, (Mine.hd0.heap_1_1 P).lookup 15 = some ⟨.type "dict", none, .dict es n, #[]⟩ ∧ KeysLit P es.toList := ⟨_, _, rfl, by k_keys⟩
section
variable {prog : Program} {w : World} {A : Around} {E : Value → Shared → Prop} {s : Shared} {h₀ : Heap} {L : Addr} {m : Str → Option Value}
theorem sg_item {value slice : PySem.Expr} {i : Int} {t u : Tok} {Q : Value → Shared → Prop} (h0 : 0 ≤ i) (h6 : i < 6) (h : Q (.str (sg i) s.toks) { s with toks := s.toks + 1 })
    (hs : subscripted slice false (.str (Str.ofString "+-*/|&") t) (.int i u) = operate [.str (Str.ofString "+-*/|&") t, .int i u] (getItem (.str (Str.ofString "+-*/|&") t) (.int i u)) := by with_unfolding_all rfl) :
    wpAny (model prog w) A (subscriptTail value slice (.str (Str.ofString "+-*/|&") t) (.int i u)) Q E s :=
  tail_any (typeIs_str s _ _) slot_str_getitem.lookup (getItem_str (by simp; omega) (sg_at h0 h6) h) hs
theorem tok_item {value slice : PySem.Expr} {i : Int} {t : Tok} {Q : Value → Shared → Prop} (F : Fr h₀ L s.heap m) (X₀ : (Mine.hd0.heap_1_1 w.params).In h₀) (h0 : 0 ≤ i) (h6 : i < 6)
    (h : ∀ t', Q (.int (14 + i) t') { s with toks := s.toks + 1 })
    (hs : subscripted slice false (.ref 15) (.str (sg i) t) = operate [.ref 15, .str (sg i) t] (getItem (.ref 15) (.str (sg i) t)) := by with_unfolding_all rfl) :
    wpAny (model prog w) A (subscriptTail value slice (.ref 15) (.str (sg i) t)) Q E s := by
  obtain ⟨es, n, h1, h2⟩ := tok_tab w.params
  obtain ⟨t', ht⟩ := tok_at w.params h0 h6
  exact topItem_K F X₀ h1 h2 ht (h t') hs
end
/-- the values of a list of signs -/
inductive SgAre : List Value → List Int → Prop
  | nil : SgAre [] []
  | cons {z : Int} {t : Tok} {vs : List Value} {zs : List Int} : SgAre vs zs → SgAre (.str (sg (z - 1)) t :: vs) (z :: zs)
theorem SgAre.app {vs : List Value} {zs : List Int} {z : Int} {t : Tok} (h : SgAre vs zs) : SgAre (vs ++ [.str (sg (z - 1)) t]) (zs ++ [z]) := by
  induction h with
  | nil => exact .cons .nil
  | cons _ ih => exact .cons ih
theorem SgAre.len {vs : List Value} {zs : List Int} (h : SgAre vs zs) : vs.length = zs.length := by
  induction h with
  | nil => rfl
  | cons _ ih => simp [ih]
theorem Cut.self {A : List Addr} : ∀ {l : Led}, (∀ q ∈ l, ∀ b ∈ A, q.1 ≠ b) → Cut A l l
  | [], _ => .nil
  | q :: _, h => .keep (h q (.head _)) (Cut.self fun q hq => h q (.tail _ hq))
theorem own_sub {own : Led} {adr A : List Addr} (h : OwnOff own adr) (hs : ∀ b ∈ A, b ∈ adr) : ∀ q ∈ own, ∀ b ∈ A, q.1 ≠ b := fun q hq b hb => h q hq b (hs b hb)
end Mine
end
section
open PySem PySem.W PyProof.Rows PySem.Calls
set_option maxRecDepth 100000
namespace Mine
local macro_rules | `(tactic| k_extra "own") => `(tactic| (intro p hp; repeat (first | assumption | apply List.Mem.tail)))
local macro_rules | `(tactic| k_all) => `(tactic| (refine' Cut.self (own_sub ?a ?b); (case a => assumption); (case b => k_all)))
local macro_rules | `(tactic| walk_at "pyIter ref") => `(tactic| (k_here; (with_reducible show wpAny _ _ (pyIter (Value.ref _)) (fun it s₂ => LoopAtV _ _ _ _ _ _ _ _ _ it s₂) _ _); refine Hold.out ?_))
local macro_rules | `(tactic| walk_at "exec While Compare cons nil") => `(tactic| (k_here; (with_reducible show wpAny _ _ (exec (Stmt.While _ _ _ _) _) _ _ _); refine Hold.out ?_))
theorem nz_two {a z : Int} (h : a * (14 + (z - 1) - 13 - 1) ≠ 0) (h1 : 1 ≤ z) : 2 ≤ z := by
  by_cases h2 : z < 2
  · have e : 14 + (z - 1) - 13 - 1 = 0 := by omega
    rw [e, Int.mul_zero] at h
    exact absurd rfl h
  · omega
local macro_rules | `(tactic| walk_at "subscriptTail") => `(tactic| (k_here; (with_reducible show wpAny _ _ (subscriptTail _ _ (Value.str (Str.ofString "+-*/|&") _) (Value.int _ _)) _ _ _); k_dflt (refine' sg_item ?a ?b ?_; (case a => (first | omega | (have h9 := nz_two (by assumption) (by assumption); omega))); (case b => omega))))
local macro_rules | `(tactic| walk_at "subscriptTail") => `(tactic| (k_here; (with_reducible show wpAny _ _ (subscriptTail _ _ (Value.ref 15) (Value.str (sg _) _)) _ _ _); k_dflt (refine' tok_item ?F ?X ?a ?b ?_; (case F => k_asm); (case X => k_asm); (case a => omega); (case b => omega)); intro t'))
local macro_rules | `(tactic| walk_at "call ref") => `(tactic| (k_here; (with_reducible show wpAny _ _ (call (Value.ref 86) _ _) _ _ _); k_dflt (refine' ctr_useA (getp_ctr _ _ _ _ _ _ _ _ _ _ _ ?hI ?h1) ?k1 ?k2 ?_; (case k1 => k_all); (case k2 => k_all); (case hI => assumption); (case h1 => omega)); intro r kept new h' tk' F' N' hpost; (try k_fold); (obtain ⟨nb', e1, e2, e3⟩ := hpost); subst e1 e2 e3; o_facts N'))
local macro_rules | `(tactic| walk_at "call ref") => `(tactic| (k_here; (with_reducible show wpAny _ _ (call (Value.ref 93) _ _) _ _ _); k_dflt (refine' ctr_useA (push_ctr _ _ _ _ _ _ _ _ _ _ _ ?hI ?h1) ?k1 ?k2 ?_; (case k1 => k_all); (case k2 => k_all); (case hI => assumption); (case h1 => omega)); intro r kept new h' tk' F' N' hpost; (try k_fold); (obtain ⟨nb', e1, e2, e3⟩ := hpost); subst e1 e2 e3; o_facts N'))
def stepF (room : Int) (a : Int × Int × List Int) (z : Int) : Int × Int × List Int :=
  if ((room - 1) * a.1 - room * a.2.1) * (z - 1) = 0 then (a.1 + z, a.2.1 + z - 1, a.2.2) else (a.1 + 1, a.2.1 + 1, a.2.2 ++ [z - 1])
def fillR : Nat → Int → List Int → List Int × List Int
  | 0, _, zs => ([], zs)
  | f + 1, room, zs => if 0 < room then
      ([(zs.foldl (stepF room) (0, 0, [])).1, (zs.foldl (stepF room) (0, 0, [])).2.1].take room.toNat ++ (fillR f (room - 2) (zs.foldl (stepF room) (0, 0, [])).2.2).1, (fillR f (room - 2) (zs.foldl (stepF room) (0, 0, [])).2.2).2)
    else ([], zs)
theorem fillR_neg {room : Int} (h : ¬ 0 < room) {f : Nat} {zs : List Int} : fillR f room zs = ([], zs) := by
  cases f with
  | zero => rfl
  | succ f => rw [fillR, if_neg h]
theorem fold_ok (room : Int) : ∀ (q : List Int) (a : Int × Int × List Int) (n : Nat), (∀ z ∈ q, 1 ≤ z ∧ z ≤ 6) → (∀ z ∈ a.2.2, 1 ≤ z ∧ z ≤ 6) → a.2.2.length ≤ n → 0 ≤ a.1 → a.1 ≤ 6 * n → 0 ≤ a.2.1 → a.2.1 ≤ 6 * n →
    (∀ z ∈ (q.foldl (stepF room) a).2.2, 1 ≤ z ∧ z ≤ 6) ∧ (q.foldl (stepF room) a).2.2.length ≤ n + q.length ∧ 0 ≤ (q.foldl (stepF room) a).1 ∧ (q.foldl (stepF room) a).1 ≤ 6 * (n + q.length : Nat) ∧ 0 ≤ (q.foldl (stepF room) a).2.1 ∧ (q.foldl (stepF room) a).2.1 ≤ 6 * (n + q.length : Nat)
  | [], a, n, _, h1, h2, h3, h4, h5, h6 => ⟨h1, h2, h3, h4, h5, h6⟩
  | z :: q, a, n, hq, h1, h2, h3, h4, h5, h6 => by
    have hz := hq z (.head _)
    have e : n + (z :: q).length = (n + 1) + q.length := by simp; omega
    rw [List.foldl_cons, e]
    unfold stepF
    by_cases hc : ((room - 1) * a.1 - room * a.2.1) * (z - 1) = 0
    · rw [if_pos hc]
      exact fold_ok room q _ _ (fun y hy => hq y (.tail _ hy)) h1 (by dsimp only; omega) (by dsimp only; omega) (by dsimp only; omega) (by dsimp only; omega) (by dsimp only; omega)
    · rw [if_neg hc]
      have hz1 : z ≠ 1 := by
        intro e1
        subst e1
        simp at hc
      refine fold_ok room q _ _ (fun y hy => hq y (.tail _ hy)) ?_ (by simp; omega) (by dsimp only; omega) (by dsimp only; omega) (by dsimp only; omega) (by dsimp only; omega)
      intro y hy
      rcases List.mem_append.mp hy with hy | hy
      · exact h1 y hy
      · rw [List.mem_singleton.mp hy]; omega
section
variable {prog : Program} {w : World} {A : Around} {E : Value → Shared → Prop} {s : Shared} {h₀ : Heap} {L D : Addr} {m : Str → Option Value} {news news' : Led} {n : Nat} {v : Value} {vs : List Value}
theorem ext_small {b : Addr} {n2 : Nat} {hs ws : List Value} {Q : Value → Shared → Prop} (F : Fr h₀ L s.heap m) (N : News h₀ L s.heap news) (hb : (b, W.listOf ws.toArray n2) ∈ news) (hne : ws.length ≠ 0)
    (U : Upd D (W.listOf hs.toArray n) (W.listOf (hs ++ ws).toArray (n + 1)) news news') (h1 : hs.length ≤ 100) (h2 : ws.length ≤ 100)
    (h : ∀ h', Fr h₀ L h' m → News h₀ L h' news' → Q .none { s with heap := h' }) : wpAny (model prog w) A (call (.builtin "list.extend") [.ref D, .ref b]) Q E s :=
  kl_extend F N hb rfl hne U (by
    have h3 : Builtin.List.listTooLong (hs.toArray.size + ws.toArray.size) = false := by
      unfold Builtin.List.listTooLong
      rw [decide_eq_false_iff_not, List.size_toArray, List.size_toArray, sizeLine_eq]
      omega
    rw [h3]; simp) (by rw [List.toList_toArray, sizeLine_eq]; omega) (by rw [List.size_toArray, List.size_toArray, sizeLine_eq]; omega) h
end
structure FS where
  hs : List Value
  hn : Nat
  pbs : List Value
  nb : Nat
  rm : Int
  tr : Tok
  wt : Int
  tw : Tok
def fillLed (w : World) (I : LX) (ln k : Int) (tl tk : Tok) (n : Nat) (l : Addr) (vs : List Value) (c : Nat) (la : Addr) (c' : FS) : Led := (la, W.listOf c'.hs.toArray c'.hn) :: (lexL w I ln k tl tk n c'.pbs c'.nb ++ [(l, W.listOf vs.toArray c)])
def fillLed2 (w : World) (I : LX) (ln k : Int) (tl tk : Tok) (n : Nat) (l : Addr) (vs : List Value) (c : Nat) (la : Addr) (hs : List Value) (hn : Nat) (pbs : List Value) (nb : Nat) : Led := (la, W.listOf hs.toArray hn) :: (lexL w I ln k tl tk n pbs nb ++ [(l, W.listOf vs.toArray c)])
def agg (rm : Int) (q : List Int) (n : Nat) : Int × Int × List Int := (q.take n).foldl (stepF rm) (0, 0, [])
structure GS where
  pbs : List Value
  nb : Nat
  hi : Int
  th : Tok
  lo : Int
  tl : Tok
  pa : Int
  tp : Tok
local macro_rules | `(tactic| walk_at "execs cons") => `(tactic| (k_here; k_fold; walk_at "execs cons"))
local macro_rules | `(tactic| walk_at "execs cons") => `(tactic| (k_here; (with_reducible show wpAny _ _ _ _ _ (Shared.mk _ _ _ (_ + _) _)); refine Mine.tok_state ?_; intro tq9))
set_option maxHeartbeats 8000000 in
theorem fill_ctr (w : World) (I : LX) (ln k : Int) (tl tkk : Tok) (n nb : Nat) (l : Addr) (vs : List Value) (zs : List Int) (c : Nat) (seats : Int) (ts : Tok) (hI : LXok w I) (hi : IntsAre vs zs) (hz : ∀ z ∈ zs, 1 ≤ z ∧ z ≤ 6) (hzl : zs.length ≤ 64) (h3 : 3 ≤ seats) (h6 : seats ≤ 6)
   (hl : ∀ b ∈ [I.x, I.dx, I.st, I.ds, I.fn, I.cc, I.cA, I.cP, I.al, I.pb], l ≠ b) :
   Ctr w 135 [.ref I.x, .ref l, .int seats ts] [] 8 (fun _ => True) (lexL w I ln k tl tkk n [] nb ++ [(l, W.listOf vs.toArray c)])
     (fun r kept new => ∃ a hv cn pbs nb', r = .ref a ∧ new = [(a, W.listOf hv.toArray cn)] ∧ IntsAre hv (fillR 3 seats zs).1 ∧ hv.length ≤ 6 ∧ SgAre pbs (fillR 3 seats zs).2 ∧ kept = lexL w I ln k tl tkk n pbs nb' ++ [(l, W.listOf vs.toArray c)]) := by
  w_top off
  revert w I ln k tl tkk n nb l vs zs c seats ts hI hi hz hzl h3 h6 hl
  first | (refine no_implicit_lambda% (skol4 (by first | exact ⟨default⟩ | exact neWorld | exact neShared | exact neAround | exact neLX) (by first | exact ⟨default⟩ | exact neWorld | exact neShared | exact neAround | exact neLX) (by first | exact ⟨default⟩ | exact neWorld | exact neShared | exact neAround | exact neLX) (by first | exact ⟨default⟩ | exact neWorld | exact neShared | exact neAround | exact neLX) ?_); generalize @sk4a _ _ _ _ _ _ _ _ _ = w; generalize @sk4b _ _ _ _ _ _ _ _ _ = I; generalize @sk4c _ _ _ _ _ _ _ _ _ = ln; generalize @sk4d _ _ _ _ _ _ _ _ _ = k) | ((first | ((first | refine no_implicit_lambda% (skol ?_) | refine no_implicit_lambda% (skolW ?_) | refine no_implicit_lambda% (skolL ?_) | refine no_implicit_lambda% (skolS ?_) | refine no_implicit_lambda% (skolA ?_)); generalize @skz _ _ _ = w) | intro w); (first | ((first | refine no_implicit_lambda% (skol ?_) | refine no_implicit_lambda% (skolW ?_) | refine no_implicit_lambda% (skolL ?_) | refine no_implicit_lambda% (skolS ?_) | refine no_implicit_lambda% (skolA ?_)); generalize @skz _ _ _ = I) | intro I); (first | ((first | refine no_implicit_lambda% (skol ?_) | refine no_implicit_lambda% (skolW ?_) | refine no_implicit_lambda% (skolL ?_) | refine no_implicit_lambda% (skolS ?_) | refine no_implicit_lambda% (skolA ?_)); generalize @skz _ _ _ = ln) | intro ln); (first | ((first | refine no_implicit_lambda% (skol ?_) | refine no_implicit_lambda% (skolW ?_) | refine no_implicit_lambda% (skolL ?_) | refine no_implicit_lambda% (skolS ?_) | refine no_implicit_lambda% (skolA ?_)); generalize @skz _ _ _ = k) | intro k))
  first | (refine no_implicit_lambda% (skol4 (by first | exact ⟨default⟩ | exact neWorld | exact neShared | exact neAround | exact neLX) (by first | exact ⟨default⟩ | exact neWorld | exact neShared | exact neAround | exact neLX) (by first | exact ⟨default⟩ | exact neWorld | exact neShared | exact neAround | exact neLX) (by first | exact ⟨default⟩ | exact neWorld | exact neShared | exact neAround | exact neLX) ?_); generalize @sk4a _ _ _ _ _ _ _ _ _ = tl; generalize @sk4b _ _ _ _ _ _ _ _ _ = tkk; generalize @sk4c _ _ _ _ _ _ _ _ _ = n; generalize @sk4d _ _ _ _ _ _ _ _ _ = nb) | ((first | ((first | refine no_implicit_lambda% (skol ?_) | refine no_implicit_lambda% (skolW ?_) | refine no_implicit_lambda% (skolL ?_) | refine no_implicit_lambda% (skolS ?_) | refine no_implicit_lambda% (skolA ?_)); generalize @skz _ _ _ = tl) | intro tl); (first | ((first | refine no_implicit_lambda% (skol ?_) | refine no_implicit_lambda% (skolW ?_) | refine no_implicit_lambda% (skolL ?_) | refine no_implicit_lambda% (skolS ?_) | refine no_implicit_lambda% (skolA ?_)); generalize @skz _ _ _ = tkk) | intro tkk); (first | ((first | refine no_implicit_lambda% (skol ?_) | refine no_implicit_lambda% (skolW ?_) | refine no_implicit_lambda% (skolL ?_) | refine no_implicit_lambda% (skolS ?_) | refine no_implicit_lambda% (skolA ?_)); generalize @skz _ _ _ = n) | intro n); (first | ((first | refine no_implicit_lambda% (skol ?_) | refine no_implicit_lambda% (skolW ?_) | refine no_implicit_lambda% (skolL ?_) | refine no_implicit_lambda% (skolS ?_) | refine no_implicit_lambda% (skolA ?_)); generalize @skz _ _ _ = nb) | intro nb))
  first | (refine no_implicit_lambda% (skol4 (by first | exact ⟨default⟩ | exact neWorld | exact neShared | exact neAround | exact neLX) (by first | exact ⟨default⟩ | exact neWorld | exact neShared | exact neAround | exact neLX) (by first | exact ⟨default⟩ | exact neWorld | exact neShared | exact neAround | exact neLX) (by first | exact ⟨default⟩ | exact neWorld | exact neShared | exact neAround | exact neLX) ?_); generalize @sk4a _ _ _ _ _ _ _ _ _ = l; generalize @sk4b _ _ _ _ _ _ _ _ _ = vs; generalize @sk4c _ _ _ _ _ _ _ _ _ = zs; generalize @sk4d _ _ _ _ _ _ _ _ _ = c) | ((first | ((first | refine no_implicit_lambda% (skol ?_) | refine no_implicit_lambda% (skolW ?_) | refine no_implicit_lambda% (skolL ?_) | refine no_implicit_lambda% (skolS ?_) | refine no_implicit_lambda% (skolA ?_)); generalize @skz _ _ _ = l) | intro l); (first | ((first | refine no_implicit_lambda% (skol ?_) | refine no_implicit_lambda% (skolW ?_) | refine no_implicit_lambda% (skolL ?_) | refine no_implicit_lambda% (skolS ?_) | refine no_implicit_lambda% (skolA ?_)); generalize @skz _ _ _ = vs) | intro vs); (first | ((first | refine no_implicit_lambda% (skol ?_) | refine no_implicit_lambda% (skolW ?_) | refine no_implicit_lambda% (skolL ?_) | refine no_implicit_lambda% (skolS ?_) | refine no_implicit_lambda% (skolA ?_)); generalize @skz _ _ _ = zs) | intro zs); (first | ((first | refine no_implicit_lambda% (skol ?_) | refine no_implicit_lambda% (skolW ?_) | refine no_implicit_lambda% (skolL ?_) | refine no_implicit_lambda% (skolS ?_) | refine no_implicit_lambda% (skolA ?_)); generalize @skz _ _ _ = c) | intro c))
  first | ((first | refine no_implicit_lambda% (skol ?_) | refine no_implicit_lambda% (skolW ?_) | refine no_implicit_lambda% (skolL ?_) | refine no_implicit_lambda% (skolS ?_) | refine no_implicit_lambda% (skolA ?_)); generalize @skz _ _ _ = seats) | intro seats
  first | ((first | refine no_implicit_lambda% (skol ?_) | refine no_implicit_lambda% (skolW ?_) | refine no_implicit_lambda% (skolL ?_) | refine no_implicit_lambda% (skolS ?_) | refine no_implicit_lambda% (skolA ?_)); generalize @skz _ _ _ = ts) | intro ts
  first | ((first | refine no_implicit_lambda% (skol ?_) | refine no_implicit_lambda% (skolW ?_) | refine no_implicit_lambda% (skolL ?_) | refine no_implicit_lambda% (skolS ?_) | refine no_implicit_lambda% (skolA ?_)); generalize @skz _ _ _ = hI) | intro hI
  first | ((first | refine no_implicit_lambda% (skol ?_) | refine no_implicit_lambda% (skolW ?_) | refine no_implicit_lambda% (skolL ?_) | refine no_implicit_lambda% (skolS ?_) | refine no_implicit_lambda% (skolA ?_)); generalize @skz _ _ _ = hi) | intro hi
  first | ((first | refine no_implicit_lambda% (skol ?_) | refine no_implicit_lambda% (skolW ?_) | refine no_implicit_lambda% (skolL ?_) | refine no_implicit_lambda% (skolS ?_) | refine no_implicit_lambda% (skolA ?_)); generalize @skz _ _ _ = hz) | intro hz
  first | ((first | refine no_implicit_lambda% (skol ?_) | refine no_implicit_lambda% (skolW ?_) | refine no_implicit_lambda% (skolL ?_) | refine no_implicit_lambda% (skolS ?_) | refine no_implicit_lambda% (skolA ?_)); generalize @skz _ _ _ = hzl) | intro hzl
  first | ((first | refine no_implicit_lambda% (skol ?_) | refine no_implicit_lambda% (skolW ?_) | refine no_implicit_lambda% (skolL ?_) | refine no_implicit_lambda% (skolS ?_) | refine no_implicit_lambda% (skolA ?_)); generalize @skz _ _ _ = h3) | intro h3
  first | ((first | refine no_implicit_lambda% (skol ?_) | refine no_implicit_lambda% (skolW ?_) | refine no_implicit_lambda% (skolL ?_) | refine no_implicit_lambda% (skolS ?_) | refine no_implicit_lambda% (skolA ?_)); generalize @skz _ _ _ = h6) | intro h6
  first | ((first | refine no_implicit_lambda% (skol ?_) | refine no_implicit_lambda% (skolW ?_) | refine no_implicit_lambda% (skolL ?_) | refine no_implicit_lambda% (skolS ?_) | refine no_implicit_lambda% (skolA ?_)); generalize @skz _ _ _ = hl) | intro hl
  obtain ⟨_, _, _, _, _, _, _, _, _, _, _⟩ := ten hl
  have hK0 : (fun w : World => Mine.hd0.heap_1_1 w.params, PySem.Challenge.rw_to0042_01) = (fun w : World => Mine.hd0.heap_1_1 w.params, PySem.Challenge.rw_to0042_01) := by (k_fill; rfl)
  clear hK0
  refine' enter_def [("lexer", .ref I.x), ("sizes", .ref l), ("seats", .int seats ts)] ?pre ?ho ?hcd ?hb ?hl ?c1 ?c2 ?c3 ?c4 ?_
  case ho => k_is
  case hcd => k_is
  case pre => exact fun _ _ _ _ => trivial
  case hb => exact fun _ _ => BindsTo.of_eq rfl
  case hl => exact locs rfl
  case c1 => rfl
  case c2 => rfl
  case c3 => rfl
  case c4 => decide
  unfold Body
  first | (refine no_implicit_lambda% (skol4 (by first | exact ⟨default⟩ | exact neWorld | exact neShared | exact neAround | exact neLX) (by first | exact ⟨default⟩ | exact neWorld | exact neShared | exact neAround | exact neLX) (by first | exact ⟨default⟩ | exact neWorld | exact neShared | exact neAround | exact neLX) (by first | exact ⟨default⟩ | exact neWorld | exact neShared | exact neAround | exact neLX) ?_); generalize @sk4a _ _ _ _ _ _ _ _ _ = p; generalize @sk4b _ _ _ _ _ _ _ _ _ = loose; generalize @sk4c _ _ _ _ _ _ _ _ _ = mean; generalize @sk4d _ _ _ _ _ _ _ _ _ = mg) | ((first | ((first | refine no_implicit_lambda% (skol ?_) | refine no_implicit_lambda% (skolW ?_) | refine no_implicit_lambda% (skolL ?_) | refine no_implicit_lambda% (skolS ?_) | refine no_implicit_lambda% (skolA ?_)); generalize @skz _ _ _ = p) | intro p); (first | ((first | refine no_implicit_lambda% (skol ?_) | refine no_implicit_lambda% (skolW ?_) | refine no_implicit_lambda% (skolL ?_) | refine no_implicit_lambda% (skolS ?_) | refine no_implicit_lambda% (skolA ?_)); generalize @skz _ _ _ = loose) | intro loose); (first | ((first | refine no_implicit_lambda% (skol ?_) | refine no_implicit_lambda% (skolW ?_) | refine no_implicit_lambda% (skolL ?_) | refine no_implicit_lambda% (skolS ?_) | refine no_implicit_lambda% (skolA ?_)); generalize @skz _ _ _ = mean) | intro mean); (first | ((first | refine no_implicit_lambda% (skol ?_) | refine no_implicit_lambda% (skolW ?_) | refine no_implicit_lambda% (skolL ?_) | refine no_implicit_lambda% (skolS ?_) | refine no_implicit_lambda% (skolA ?_)); generalize @skz _ _ _ = mg) | intro mg))
  first | (refine no_implicit_lambda% (skol4 (by first | exact ⟨default⟩ | exact neWorld | exact neShared | exact neAround | exact neLX) (by first | exact ⟨default⟩ | exact neWorld | exact neShared | exact neAround | exact neLX) (by first | exact ⟨default⟩ | exact neWorld | exact neShared | exact neAround | exact neLX) (by first | exact ⟨default⟩ | exact neWorld | exact neShared | exact neAround | exact neLX) ?_); generalize @sk4a _ _ _ _ _ _ _ _ _ = mb; generalize @sk4b _ _ _ _ _ _ _ _ _ = dp; generalize @sk4c _ _ _ _ _ _ _ _ _ = un; generalize @sk4d _ _ _ _ _ _ _ _ _ = gd) | ((first | ((first | refine no_implicit_lambda% (skol ?_) | refine no_implicit_lambda% (skolW ?_) | refine no_implicit_lambda% (skolL ?_) | refine no_implicit_lambda% (skolS ?_) | refine no_implicit_lambda% (skolA ?_)); generalize @skz _ _ _ = mb) | intro mb); (first | ((first | refine no_implicit_lambda% (skol ?_) | refine no_implicit_lambda% (skolW ?_) | refine no_implicit_lambda% (skolL ?_) | refine no_implicit_lambda% (skolS ?_) | refine no_implicit_lambda% (skolA ?_)); generalize @skz _ _ _ = dp) | intro dp); (first | ((first | refine no_implicit_lambda% (skol ?_) | refine no_implicit_lambda% (skolW ?_) | refine no_implicit_lambda% (skolL ?_) | refine no_implicit_lambda% (skolS ?_) | refine no_implicit_lambda% (skolA ?_)); generalize @skz _ _ _ = un) | intro un); (first | ((first | refine no_implicit_lambda% (skol ?_) | refine no_implicit_lambda% (skolW ?_) | refine no_implicit_lambda% (skolL ?_) | refine no_implicit_lambda% (skolS ?_) | refine no_implicit_lambda% (skolA ?_)); generalize @skz _ _ _ = gd) | intro gd))
  first | (refine no_implicit_lambda% (skol4 (by first | exact ⟨default⟩ | exact neWorld | exact neShared | exact neAround | exact neLX) (by first | exact ⟨default⟩ | exact neWorld | exact neShared | exact neAround | exact neLX) (by first | exact ⟨default⟩ | exact neWorld | exact neShared | exact neAround | exact neLX) (by first | exact ⟨default⟩ | exact neWorld | exact neShared | exact neAround | exact neLX) ?_); generalize @sk4a _ _ _ _ _ _ _ _ _ = outer; generalize @sk4b _ _ _ _ _ _ _ _ _ = A₀; generalize @sk4c _ _ _ _ _ _ _ _ _ = base; generalize @sk4d _ _ _ _ _ _ _ _ _ = g) | ((first | ((first | refine no_implicit_lambda% (skol ?_) | refine no_implicit_lambda% (skolW ?_) | refine no_implicit_lambda% (skolL ?_) | refine no_implicit_lambda% (skolS ?_) | refine no_implicit_lambda% (skolA ?_)); generalize @skz _ _ _ = outer) | intro outer); (first | ((first | refine no_implicit_lambda% (skol ?_) | refine no_implicit_lambda% (skolW ?_) | refine no_implicit_lambda% (skolL ?_) | refine no_implicit_lambda% (skolS ?_) | refine no_implicit_lambda% (skolA ?_)); generalize @skz _ _ _ = A₀) | intro A₀); (first | ((first | refine no_implicit_lambda% (skol ?_) | refine no_implicit_lambda% (skolW ?_) | refine no_implicit_lambda% (skolL ?_) | refine no_implicit_lambda% (skolS ?_) | refine no_implicit_lambda% (skolA ?_)); generalize @skz _ _ _ = base) | intro base); (first | ((first | refine no_implicit_lambda% (skol ?_) | refine no_implicit_lambda% (skolW ?_) | refine no_implicit_lambda% (skolL ?_) | refine no_implicit_lambda% (skolS ?_) | refine no_implicit_lambda% (skolA ?_)); generalize @skz _ _ _ = g) | intro g))
  first | ((first | refine no_implicit_lambda% (skol ?_) | refine no_implicit_lambda% (skolW ?_) | refine no_implicit_lambda% (skolL ?_) | refine no_implicit_lambda% (skolS ?_) | refine no_implicit_lambda% (skolA ?_)); generalize @skz _ _ _ = h₁) | intro h₁
  first | ((first | refine no_implicit_lambda% (skol ?_) | refine no_implicit_lambda% (skolW ?_) | refine no_implicit_lambda% (skolL ?_) | refine no_implicit_lambda% (skolS ?_) | refine no_implicit_lambda% (skolA ?_)); generalize @skz _ _ _ = L') | intro L'
  first | ((first | refine no_implicit_lambda% (skol ?_) | refine no_implicit_lambda% (skolW ?_) | refine no_implicit_lambda% (skolL ?_) | refine no_implicit_lambda% (skolS ?_) | refine no_implicit_lambda% (skolA ?_)); generalize @skz _ _ _ = s) | intro s
  intro B
  intro F
  intro X
  intro N
  intro T
  intro hd
  intro hu
  intro hp
  dsimp only [lexL, List.cons_append, List.nil_append] at N
  k_steps
  refine Hold.mk ?_
  rename Fr _ _ _ _ => F
  rename News _ _ _ _ => N
  refine kst_listL (σ := List Value × Nat) (vs := vs) (ns := zs) (nn := c) (fun c' => lexL w I ln k tl tkk n c'.1 c'.2 ++ [(l, W.listOf vs.toArray c)]) (fun _ => []) (fun _ => True) [] (fun pre c' => SgAre c'.1 pre) ([], nb) rfl (fun _ => by simp) hi F N trivial (fun _ h => nomatch h) .nil ?_ ?_
  · rintro ⟨pbs, nb'⟩ pre post z t u h tk'' own heq hmem hoff _ hP F N
    have hz' := hz z hmem
    have hlen : pbs.length ≤ 64 := by
      have h9 := hP.len
      rw [heq, List.length_append, List.length_cons] at hzl
      dsimp only at h9; omega
    dsimp only [lexL, List.cons_append, List.nil_append, kstB, List.contains] at N F hoff
    simp only [List.map_cons, List.map_nil] at hoff
    k_steps
    rename Fr _ _ _ _ => F'
    rename News _ _ _ _ => N'
    try dsimp only [lexL, List.cons_append, List.nil_append] at N'
    refine kst_end (σ := List Value × Nat) (pbs ++ [.str (sg (z - 1)) _], _) F' N' (by k_all) (by k_extra "own") rfl trivial (fun _ h => nomatch h) ?_ hP.app
    intro y h1 _ h3
    simp [h1]
  · rintro ⟨pbs, nb'⟩ u h tk'' _ hP F N
    dsimp only [lexL, List.cons_append, List.nil_append, kstB, List.contains] at N F hP
    k_steps
    refine Hold.mk ?_
    rename Fr _ _ _ _ => F'
    rename News _ _ _ _ => N'
    refine ksw_while (σ := FS) (fillLed w I ln k tl tkk n l vs c _) (fun c' => [(Str.ofString "room", .int c'.rm c'.tr), (Str.ofString "waiting", .int c'.wt c'.tw)]) (fun _ => True) [Str.ofString "size", Str.ofString "high", Str.ofString "low", Str.ofString "passed", Str.ofString "turn", Str.ofString "slack"]
      (fun c' => ∃ q hI f, SgAre c'.pbs q ∧ IntsAre c'.hs hI ∧ (∀ z ∈ q, 1 ≤ z ∧ z ≤ 6) ∧ q.length ≤ 64 ∧ c'.wt = q.length ∧ c'.rm ≤ 2 * (f : Nat) ∧ c'.hs.length + 2 * f ≤ 6 ∧ hI ++ (fillR f c'.rm q).1 = (fillR 3 seats zs).1 ∧ (fillR f c'.rm q).2 = (fillR 3 seats zs).2)
      (fun c' => c'.rm.toNat) ⟨[], 0, pbs, nb', seats, ts, zs.length, ?tw⟩ F' N' trivial ?hk ?hp ?_
    case hk => kst_all
    case hp => exact ⟨zs, [], 3, hP, .nil, hz, hzl, rfl, by dsimp only; omega, by simp, rfl, rfl⟩
    · rintro ⟨hs, hn, pbs, nb', rm, tr, wt, tw⟩ u h tk'' _ ⟨q, hI', f, hq, hh, hq1, hq2, hw, hf, hh2, heq, heq2⟩ F N
      (try k_fold)
      dsimp only at hq hh hw hf hh2 heq heq2
      dsimp only [fillLed, lexL, List.cons_append, List.nil_append, kstB, List.contains] at N F
      subst hw
      k_steps
      · refine Hold.mk ?_
        rename 0 < rm => hpos
        rename Fr _ _ _ _ => F'
        rename News _ _ _ _ => N'
        rename IsRange _ _ _ _ _ _ _ _ => rg
        refine kst_range (σ := GS) (fun c' => fillLed2 w I ln k tl tkk n l vs c _ hs hn c'.pbs c'.nb) (fun c' => [(Str.ofString "high", .int c'.hi c'.th), (Str.ofString "low", .int c'.lo c'.tl), (Str.ofString "passed", .int c'.pa c'.tp)]) (fun _ => True) [Str.ofString "size", Str.ofString "slack"]
          (fun pre c' => SgAre c'.pbs (q.drop pre.length ++ (agg rm q pre.length).2.2) ∧ c'.hi = (agg rm q pre.length).1 ∧ c'.lo = (agg rm q pre.length).2.1 ∧ c'.pa = (agg rm q pre.length).2.2.length)
          ⟨pbs, nb', 0, ?t1, 0, ?t2, 0, ?t3⟩ rfl rg (small_one (by omega) (by omega) (by omega) (by omega)) (rangeSize_nat _ _) F' N' trivial ?hk ?hp ?_ ?_
        case hk => kst_all
        case hp => exact ⟨by simpa [agg] using hq, rfl, rfl, rfl⟩
        · rintro ⟨pbs2, nb2, hi2, th, lo2, tl2, pa2, tp⟩ pre kk t u h tk3 own hkk hlt hoff _ ⟨hq2', e1, e2, e3⟩ F N
          (try k_fold)
          dsimp only at hq2' e1 e2 e3
          rw [List.drop_eq_getElem_cons hlt, List.cons_append] at hq2'
          dsimp only [fillLed2, lexL, List.cons_append, List.nil_append, kstB, List.contains] at N F hoff
          simp only [List.map_cons, List.map_nil] at hoff
          obtain ⟨hz1, hz2⟩ := hq1 _ (List.getElem_mem hlt)
          generalize hzz : q[pre.length] = z at hq2' hz1 hz2
          have hok := fold_ok rm (q.take pre.length) (0, 0, []) 0 (fun y hy => hq1 y (List.mem_of_mem_take hy)) (fun _ h => nomatch h) (Nat.le_refl _) (by simp) (by simp) (by simp) (by simp)
          have hst : agg rm q (pre ++ [kk]).length = stepF rm (agg rm q pre.length) z := by
            rw [List.length_append, List.length_singleton]
            unfold agg
            rw [List.take_add_one, List.getElem?_eq_getElem hlt, hzz, List.foldl_append]
            rfl
          rw [List.length_take] at hok
          rw [show (List.take pre.length q).foldl (stepF rm) (0, 0, []) = agg rm q pre.length from rfl, ← e1, ← e2] at hok
          obtain ⟨hok1, hok2, hok3, hok4, hok5, hok6⟩ := hok
          obtain ⟨t5, vs5, hpb, hq3⟩ : ∃ t5 vs5, pbs2 = .str (sg (z - 1)) t5 :: vs5 ∧ SgAre vs5 (q.drop (pre.length + 1) ++ (agg rm q pre.length).2.2) := by
            cases hq2' with
            | cons h => exact ⟨_, _, rfl, h⟩
          subst hpb
          have hlen5 : vs5.length ≤ 1000 := by
            rw [hq3.len, List.length_append, List.length_drop]; omega
          have ez : 14 + (z - 1) - 13 - 1 = z - 1 := by omega
          have hS : stepF rm (agg rm q pre.length) z = if ((rm - 1) * hi2 - rm * lo2) * (14 + (z - 1) - 13 - 1) = 0 then (hi2 + z, lo2 + z - 1, (agg rm q pre.length).2.2) else (hi2 + 1, lo2 + 1, (agg rm q pre.length).2.2 ++ [z - 1]) := by
            rw [e1, e2, ez]; rfl
          k_steps
          · rename _ = (0 : Int) => hcond
            rename Fr _ _ _ _ => F'
            rename News _ _ _ _ => N'
            try dsimp only [lexL, List.cons_append, List.nil_append] at N'
            refine kst_end (σ := GS) ⟨vs5, _, _, _, _, _, pa2, tp⟩ F' N' (by kst_in) (by kst_in) rfl trivial (by kst_all) (by kst_same) ?_
            dsimp only
            rw [hst, hS, if_pos hcond, List.length_append, List.length_singleton]
            exact ⟨hq3, by dsimp only; omega, by dsimp only; omega, e3⟩
          · rename _ ≠ (0 : Int) => hcond
            rename Fr _ _ _ _ => F'
            rename News _ _ _ _ => N'
            try dsimp only [lexL, List.cons_append, List.nil_append] at N'
            refine kst_end (σ := GS) ⟨vs5 ++ [_], _, _, _, _, _, _, _⟩ F' N' (by kst_in) (by kst_in) rfl trivial (by kst_all) (by kst_same) ?_
            dsimp only
            rw [hst, hS, if_neg hcond, List.length_append, List.length_singleton]
            have ez2 : 14 + (z - 1) - 13 - 2 = (z - 1) - 1 := by omega
            refine ⟨?_, by dsimp only, by dsimp only, by dsimp only; rw [List.length_append, List.length_singleton]; omega⟩
            rw [ez2, ← List.append_assoc]
            exact hq3.app
        · rintro ⟨pbs2, nb2, hi2, th, lo2, tl2, pa2, tp⟩ u h tk3 _ ⟨hq2', e1, e2, e3⟩ F N
          rw [rangeKs_length] at hq2' e1 e2 e3
          try dsimp only at hq2' e1 e2 e3
          dsimp only [fillLed2, lexL, List.cons_append, List.nil_append, kstB, List.contains] at N F
          rw [show ((q.length : Int) - 0).toNat = q.length by omega] at hq2' e1 e2 e3
          rw [List.drop_length, List.nil_append] at hq2'
          have hagg : agg rm q q.length = q.foldl (stepF rm) (0, 0, []) := by
            unfold agg; rw [List.take_length]
          rw [hagg] at hq2' e1 e2 e3
          have hok := fold_ok rm q (0, 0, []) 0 hq1 (fun _ h => nomatch h) (Nat.le_refl _) (by simp) (by simp) (by simp) (by simp)
          rw [← e1, ← e2] at hok
          obtain ⟨hok1, hok2, hok3, hok4, hok5, hok6⟩ := hok
          dsimp only
          k_steps
          rename IntsAre _ _ => hw
          rename Fr _ _ _ _ => F2
          rename News _ _ _ _ => N2
          have hlw := hw.length
          rw [List.length_take] at hlw
          simp only [List.length_cons, List.length_nil] at hlw
          refine ext_small F2 N2 (by k_mem) (by omega) (by k_upd) (by omega) (by omega) ?_
          intro h5 F3 N3
          clear F2 N2
          k_steps
          rename Fr _ _ _ _ => F4
          rename News _ _ _ _ => N4
          refine ksw_end (σ := FS) ⟨hs ++ _, _, pbs2, _, _, _, _, _⟩ F4 N4 (by dsimp only [fillLed, lexL, List.cons_append, List.nil_append]; kst_in) trivial (by kst_all) (by ksw_same) ?_ (by dsimp only; omega)
          obtain ⟨f', hfe⟩ : ∃ f', f = f' + 1 := ⟨f - 1, by omega⟩
          subst hfe
          rw [fillR, if_pos hpos] at heq heq2
          dsimp only at heq heq2
          refine ⟨_, hI' ++ _, f', hq2', hh.append hw, hok1, by omega, e3, by dsimp only; omega, by dsimp only; rw [List.length_append]; omega, ?_, heq2⟩
          rw [List.append_assoc, e1, e2]
          exact heq
      · rename Fr _ _ _ _ => F'
        rename News _ _ _ _ => N'
        rename ¬ 0 < rm => hneg
        try dsimp only
        refine Done.intro (lexL w I ln k tl tkk n pbs nb' ++ [(l, W.listOf vs.toArray c)]) [(_, _)] F' N' (by dsimp only [lexL, List.cons_append, List.nil_append]; k_all) (List.forall_mem_cons.mpr ⟨.head _, fun _ h => nomatch h⟩) ?_ ?_
        · try dsimp only [lexL, List.cons_append, List.nil_append]
          simp only [List.forall_mem_cons, List.not_mem_nil, false_implies, implies_true, and_true]
          rename _ < _ ∧ _ => hlt1
          obtain ⟨_, _, _, _, _, _, _, _, _, _, _⟩ := hlt1
          refine ⟨?_, ?_, ?_, ?_, ?_, ?_, ?_, ?_, ?_, ?_, ?_⟩ <;> exact Nat.ne_of_gt (by assumption)
        · rw [fillR_neg hneg] at heq heq2
          rw [List.append_nil] at heq
          exact ⟨_, hs, _, pbs, nb', rfl, rfl, heq ▸ hh, by omega, heq2 ▸ hq, rfl⟩
end Mine
end
section
open PySem PySem.W PyProof.Rows PySem.Calls
set_option maxRecDepth 100000
namespace Mine
/-- a body's obligation, with cells -/
def BodyC (w : World) (qual : Str) (scope : Scope) (f : Addr) (cdv : Value) (body : List Stmt) (binds : List (Str × Value)) (dN : Nat) (pre : Heap → Prop) (news : Led) (post : Value → Led → Led → Prop) : Prop :=
  ∀ (p : Program) (loose : List Str) (mean : ExcName → Option Value) (mg mb : Str → Option Value) (dp un : Nat) (gd : Option (List Code)) (outer : List Env) (A₀ : Around) (base g h₁ : Heap) (L' : Addr) (s : Shared) (tk₀ : Nat) (cells : Led),
    Below A₀ base outer g → Fr g L' h₁ (bindL (envOfC qual scope L' f cdv).kindOf binds fun _ => none) → (Mine.hd0.heap_1_1 w.params).In g → News g L' h₁ (cells ++ news) →
    CellsAre (bindC (envOfC qual scope L' f cdv).kindOf binds fun _ => none) (cellsFrom (L' + 1) scope.names []) cells → (∀ q ∈ news, q.1 < L') → Top p loose mean mg mb g → dp + dN < recursionLimit → un + 8 * dN < cLine → pre g →
    wpAny (model PySem.Challenge.rw_to0042_01.row.prog w) (ktrTop dp un gd qual scope L' f cdv (cellsFrom (L' + 1) scope.names []) outer) (execs body (envOfC qual scope L' f cdv)) (Done g L' s news post) (fun _ _ => False) { s with heap := h₁, toks := tk₀ }
theorem enter_defC {w : World} {f : Addr} {args : List Value} {kw : List (Str × Value)} {dN : Nat} {pre : Heap → Prop} {news : Led} {post : Value → Led → Led → Prop}
    {name qual : Str} {params : Arguments} {body : List Stmt} {scope : Scope} {dV kV doc pm cdv ct oc : Value} {an od : Option Addr} {osl : Array (Option Value)} (binds : List (Str × Value))
    (hpre : ∀ h g : Heap, h.StaysIn g → pre h → pre g)
    (ho : (Mine.hd0.heap_1_1 w.params).lookup f = some ⟨oc, od, .func (fnOf name qual params body scope dV kV doc pm an cdv ct), osl⟩) (hcd : codeIn (Mine.hd0.heap_1_1 w.params) cdv qual = true)
    (hbind : ∀ s : Shared, (Mine.hd0.heap_1_1 w.params).In s.heap → BindsTo s (fnOf name qual params body scope dV kV doc pm an cdv ct) ⟨args, kw⟩ binds)
    (hkind : (binds.all fun y => scope.names.lookup y.1 == some .local || scope.names.lookup y.1 == some .cell) = true)
    (hnd : ((cellsFrom 0 scope.names []).map (·.1)).Nodup)
    (hco : scope.isCoroutine = false) (hgen : scope.isGenerator = false) (hk : scope.kind = .function)
    (h : BodyC w qual scope f cdv body binds dN pre news post) :
    Ctr w f args kw (dN + 1) pre news post := by
  unfold Ctr
  intro p loose mean mg mb dp un gd cn cs a ccd cl outer A₀ base h₀ L m s Q E B F X N T hcs hd hu hp hret
  obtain ⟨FG, BG, st, lv⟩ := groundX (A := ktrTop dp un gd cn cs L a ccd cl outer) (env := envX cn cs L a ccd cl) (R := fun r s' => match r with | .ok (.ret v) => Q v s' | .ok _ => False | .error e => E e s') B F N rfl rfl hcs
  refine codeAny_call_function (fd := fnOf name qual params body scope dV kV doc pm an cdv ct) (body := body) (by show dp < _; omega) (X.keeps F.keep _ _ ho) rfl hco hgen rfl (codeRec_of (X.keeps F.keep) hcd) ((hbind s (X.keeps F.keep)) _ _ _ _ ?_)
  refine wpAny_newFunctionEnv_cells hk (kindsX hkind _) fun env' he s' x => ?_
  subst he
  refine ⟨(T.nolimit.keeps F.keep).keeps x.toInCall.keep, codeAny_func ?_⟩
  obtain ⟨h₁, tk, rfl, _⟩ := x.done
  have hk₁ := x.toInCall.keep
  obtain ⟨cells, NC, Y⟩ := Cl.news (h₀ := s.heap) (Nat.le_refl _) fun n c hm => ⟨x.cell n c (lookup_of_mem_nodup (cellsFrom_names scope.names 0 (s.heap.objs.size + 1) [] [] rfl ▸ hnd) hm), x.above n c hm⟩
  have hb := h p loose mean mg mb (dp + 1) (un + 3) gd (envX cn cs L a ccd cl :: outer) _ base (hideAll s.heap (news.map (·.1))) h₁ s.heap.objs.size s tk cells BG
    ⟨x.toInCall.ns, fun b o e => hk₁ b o (of_hideAll _ e), Nat.le_of_eq (hideAll_size _ _)⟩ (X.keeps fun b o e => st b o e)
    (fun q hq => by
      rcases List.mem_append.mp hq with hq | hq
      · refine ⟨(NC q hq).1, (NC q hq).2.1, ?_⟩
        cases e : (hideAll s.heap (news.map (·.1))).get? q.1 with
        | none => rfl
        | some o => have := of_hideAll _ e; rw [(NC q hq).2.2] at this; cases this
      · exact ⟨hk₁ _ _ (N q hq).1, Nat.ne_of_lt (Heap.lt_size (N q hq).1), hideAll_none _ (List.mem_map_of_mem hq)⟩)
    Y (fun q hq => Heap.lt_size (N q hq).1) (T.keeps fun b o e => st b o e) (by omega) (by omega) (hpre _ _ st hp)
  refine wpAny_mono hb (fun fl s' hdn => ?_) fun _ _ x => x.elim
  obtain ⟨h', tk', m', kept, new, rfl, F', N', hoff, hpost⟩ := hdn
  refine lv _ _ ⟨_, m', kept ++ new, F', N', fun Fh Nh => ?_⟩
  refine hret _ kept new h' tk' Fh Nh (fun b o e nb => F'.keep b o (hideAll_get _ e nb)) (fun q hq => ?_) hpost
  cases e : s.heap.get? q.1 with
  | none => rfl
  | some o =>
    have hq' : q.1 ∉ news.map (·.1) := fun hm => by
      obtain ⟨b, hb, eb⟩ := List.mem_map.mp hm
      exact hoff q hq b hb eb.symm
    have := (N' q (List.mem_append_right _ hq)).2.2
    rw [hideAll_get _ e hq'] at this; cases this
end Mine
end
section
open PySem PySem.W PyProof.Rows PySem.Calls
set_option maxRecDepth 100000
namespace Mine
section
variable {prog : Program} {w : World} {A : Around} {E : Value → Shared → Prop} {s : Shared} {env : Env} {h₀ : Heap} {xi xc : Str} {body : List Stmt} {Q : Flow → Shared → Prop}
theorem enum_inv {D : Addr} {vs : List Value} {n0 : Nat} {m₀ : Str → Option Value} {news : Led} (J : Nat → (Str → Option Value) → Led → Prop)
    (hh : A.handled = none) (F : Fr h₀ env.locals s.heap m₀) (N : News h₀ env.locals s.heap ((D, W.listOf vs.toArray n0) :: news)) (hD : ∀ q ∈ news, q.1 ≠ D) (hj : J 0 m₀ news)
    (turn : ∀ i v t m₁ news₁ h tk own, vs[i]? = some v → news₁.map (·.1) = news.map (·.1) → OwnOff own (news.map (·.1)) → J i m₁ news₁ → Fr h₀ env.locals h (fun y => if y = xc then some v else if y = xi then some (.int (i : Nat) t) else m₁ y) → News h₀ env.locals h (news₁ ++ own) →
      wpAny (model prog w) A (execs body env) (InvPostN h₀ env.locals (J (i + 1)) own (news.map (·.1)) { s with heap := h, toks := tk } Q) E { s with heap := h, toks := tk })
    (done : ∀ m₁ news₁ h tk, J vs.length m₁ news₁ → Fr h₀ env.locals h m₁ → News h₀ env.locals h news₁ → Q .next { s with heap := h, toks := tk }) :
    wpAny (model prog w) A (call (.type "enumerate") [.ref D]) (fun xv s₁ => wpAny (model prog w) A (pyIter xv) (fun it s₂ => PairAt3 prog w A h₀ env xi xc body Q E it s₂) E s₁) E s := by
  have hax := N _ (.head _)
  have hl : s.heap.IsList D vs.toArray := ⟨_, hax.1, rfl, _, rfl⟩
  have hlt : D < s.heap.objs.size := Heap.lt_size hax.1
  have hLs : env.locals < s.heap.objs.size := F.ns.lt
  have hns : ∀ q ∈ news, q.1 < s.heap.objs.size := fun q hq => Heap.lt_size (N q (.tail _ hq)).1
  refine call_enumerate_list hl fun h' hE hI hsz hk => ?_
  refine wpAny_pyIter_enum hE ?_
  refine ⟨s.heap.objs.size + 1, _, _, vs.toArray.size, _, _, _, (fun i v0 v1 => ∃ t, vs[i]? = some v1 ∧ v0 = .int (i : Nat) t), m₀, news, (fun i m nx => nx.map (·.1) = news.map (·.1) ∧ J i m nx), rfl,
    WalksT.enumerate hh (s.heap.objs.size + 1) s.heap.objs.size D (Nat.succ_ne_self _) (ktu_ne 1 hlt) (Nat.ne_of_lt hlt) vs.toArray, ?_, ?_, ?_, ?_, ?_, F.keeps hk, fun p hp => (N.grown hk) p (.tail _ hp), ⟨rfl, hj⟩, ?_, ?_⟩
  · rintro i vals ⟨t, x, hx, rfl⟩
    exact ⟨_, _, rfl, t, by simpa using hx, rfl⟩
  · intro hm
    simp only [List.mem_cons, List.not_mem_nil, or_false] at hm
    rcases hm with h1 | h1 | h1
    · exact absurd h1 (Nat.ne_of_lt (Nat.lt_succ_of_lt hLs))
    · exact absurd h1 (Nat.ne_of_lt hLs)
    · exact hax.2.1 h1.symm
  · intro b hb
    simp only [List.mem_cons, List.not_mem_nil, or_false] at hb
    rcases hb with rfl | rfl
    · exact ktu_new F (Nat.le_add_right _ _)
    · exact ktu_new F (Nat.le_refl _)
  · intro p hp hb
    have h1 := hns p hp
    simp only [List.mem_cons, List.not_mem_nil, or_false] at hb
    rcases hb with h2 | h2
    · exact absurd h2 (Nat.ne_of_lt (Nat.lt_succ_of_lt h1))
    · exact absurd h2 (Nat.ne_of_lt h1)
  · exact ⟨⟨_, hE⟩, hI, hl.at fun o e => hk D o e⟩
  · rintro i v0 v1 m₁ news₁ s₁ own ⟨hp', tk', rfl⟩ hin ⟨t, hv, rfl⟩ ⟨hadr, hJ⟩ hadr' hown F₁ N₁
    have hsep : OwnOff own (news.map (·.1)) := by
      intro p hp b hb e
      obtain ⟨q, hq, rfl⟩ := List.mem_map.mp hb
      have h1 := hown p hp
      have h2 := hns q hq
      have h3 := hD q hq
      simp only [List.mem_cons, List.not_mem_nil, or_false] at h1
      rcases h1 with h1 | h1 | h1
      · exact absurd (e.symm.trans h1) (Nat.ne_of_lt (Nat.lt_succ_of_lt h2))
      · exact absurd (e.symm.trans h1) (Nat.ne_of_lt h2)
      · exact h3 (e.symm.trans h1)
    have N₂ : News h₀ env.locals hp' (news₁ ++ own) := fun p hp => N₁ p ((List.mem_append.mp hp).elim (fun h => List.mem_append.mpr (.inr h)) fun h => List.mem_append.mpr (.inl h))
    refine wpAny_mono (turn i v1 t m₁ news₁ hp' tk' own hv hadr hsep hJ F₁ N₂) (fun f s₂ p => ?_) fun _ _ e => e
    have fin : InvEndN h₀ env.locals (J (i + 1)) own (news.map (·.1)) { s with heap := hp', toks := tk' } s₂ → LoopStep2 h₀ env.locals own news₁ (fun m nx => nx.map (·.1) = news.map (·.1) ∧ J (i + 1) m nx) { s with heap := hp', toks := tk' } .next s₂ := by
      rintro ⟨h', tk, m', news', nx, e, F', N', hn, ho, ha, hm⟩
      exact ⟨rfl, h', tk, m', nx, e, F', fun p hp => N' p ((List.mem_append.mp hp).elim (ho p) (hn p)), ha.trans hadr.symm, ha, hm⟩
    cases f with
    | ret v => exact p
    | brk => exact p
    | next => exact fin p
    | cont => exact fin p
  · rintro h2 tk m' news' F' N' _ ⟨_, hJ⟩
    rw [List.size_toArray] at hJ
    exact done m' news' h2 tk hJ F' N'
theorem kst_enum {σ : Type} {D : Addr} {vs : List Value} {ns : List Int} {n0 : Nat} {m₀ : Str → Option Value} (Led : σ → Mine.Led) (ps : σ → List (Str × Value)) (stored : List Str) (P : List Int → σ → Prop) (c₀ : σ)
    (hh : A.handled = none) (hi : IntsAre vs ns) (F : Fr h₀ env.locals s.heap m₀) (N : News h₀ env.locals s.heap ((D, W.listOf vs.toArray n0) :: Led c₀)) (hD : ∀ q ∈ Led c₀, q.1 ≠ D) (hk : ∀ p ∈ ps c₀, m₀ p.1 = some p.2) (hp : P [] c₀)
    (turn : ∀ (c : σ) pre post n t t' (u : Str → Option Value) h tk own, ns = pre ++ n :: post → OwnOff own ((Led c₀).map (·.1)) → P pre c →
      Fr h₀ env.locals h (fun y => if y = xc then some (.int n t) else if y = xi then some (.int (pre.length : Nat) t') else kstB (fun z => if stored.contains z then u z else m₀ z) (ps c) y) → News h₀ env.locals h (Led c ++ own) →
      wpAny (model prog w) A (execs body env) (InvPostN h₀ env.locals (KstS Led ps (fun _ => True) xc stored m₀ P (pre ++ [n])) own ((Led c₀).map (·.1)) { s with heap := h, toks := tk } Q) E { s with heap := h, toks := tk })
    (done : ∀ (c : σ) (u : Str → Option Value) h tk, P ns c → Fr h₀ env.locals h (fun y => if y = xc then u y else kstB (fun z => if stored.contains z then u z else m₀ z) (ps c) y) → News h₀ env.locals h (Led c) → Q .next { s with heap := h, toks := tk }) :
    wpAny (model prog w) A (call (.type "enumerate") [.ref D]) (fun xv s₁ => wpAny (model prog w) A (pyIter xv) (fun it s₂ => PairAt3 prog w A h₀ env xi xc body Q E it s₂) E s₁) E s := by
  refine enum_inv (fun i m nx => KstS Led ps (fun _ => True) xc stored m₀ P (ns.take i) m nx) hh F N hD ⟨c₀, rfl, trivial, hk, fun _ _ _ _ => rfl, by simpa using hp⟩ ?_ ?_
  · rintro i v t m₁ nx h tk own hv _ hoff ⟨c, rfl, hf', h1, h2, hp'⟩ F₁ N₁
    obtain ⟨n, tn, rfl, hn⟩ := IntsAre.at hi i v hv
    have hs : ns.take (i + 1) = ns.take i ++ [n] := by simp [List.take_add_one, hn]
    have e : ns = ns.take i ++ n :: ns.drop (i + 1) := by
      have ht := List.take_append_drop (i + 1) ns
      rw [hs, List.append_assoc] at ht
      exact ht.symm
    have hlen : (ns.take i).length = i := by
      have : i < ns.length := (List.getElem?_eq_some_iff.mp hn).1
      rw [List.length_take]; omega
    rw [hs]
    refine turn c _ _ n tn t m₁ h tk own e hoff hp' ?_ N₁
    have em : (fun y => if y = xc then some (Value.int n tn) else if y = xi then some (.int ((ns.take i).length : Nat) t) else kstB (fun z => if stored.contains z then m₁ z else m₀ z) (ps c) y) = fun y => if y = xc then some (Value.int n tn) else if y = xi then some (.int (i : Nat) t) else m₁ y := by
      funext y
      by_cases hy : y = xc
      · rw [if_pos hy, if_pos hy]
      · rw [if_neg hy, if_neg hy, hlen]
        by_cases hy2 : y = xi
        · rw [if_pos hy2, if_pos hy2]
        · rw [if_neg hy2, if_neg hy2]
          exact kst_off h1 h2 hy
    rw [em]
    exact F₁
  · rintro m₁ nx h tk ⟨c, rfl, hf', h1, h2, hp'⟩ F₁ N₁
    rw [hi.length, List.take_length] at hp'
    exact done c m₁ h tk hp' (kst_frOut h1 h2 F₁) N₁
end
end Mine
end
section
open PySem PySem.W PyProof.Rows PySem.Calls
set_option maxRecDepth 100000
namespace Mine
/-- how a turn may end, its ledger free -/
def FreePost (h₀ : Heap) (L : Addr) (J : (Str → Option Value) → Led → Prop) (I : Addr) (oI : Obj) (s₁ : Shared) (Q : Flow → Shared → Prop) (f : Flow) (s₂ : Shared) : Prop :=
  match f with
  | .ret v => Q (.ret v) s₂
  | .brk => Q .next s₂
  | _ => ∃ h' tk m' nx, s₂ = { s₁ with heap := h', toks := tk } ∧ Fr h₀ L h' m' ∧ News h₀ L h' ((I, oI) :: nx) ∧ (∀ q ∈ nx, q.1 ≠ I) ∧ J m' nx
section
variable {prog : Program} {w : World} {A : Around} {E : Value → Shared → Prop} {s : Shared} {env : Env} {h₀ : Heap} {x : Str} {body : List Stmt} {Q : Flow → Shared → Prop}
theorem range_free {r : Addr} {a₀ b₀ : Int} {t₀ u₀ v₀ : Tok} {n : Nat} {m₀ : Str → Option Value} {news : Led} (J : Nat → (Str → Option Value) → Led → Prop)
    (hh : A.handled = none) (hr : IsRange s.heap r a₀ b₀ 1 t₀ u₀ v₀) (hsmall : Builtin.Range.small a₀ b₀ 1 = true) (hn : Builtin.Range.rangeSize a₀ b₀ 1 = (n : Int)) (F : Fr h₀ env.locals s.heap m₀) (N : News h₀ env.locals s.heap news) (hj : J 0 m₀ news)
    (turn : ∀ i t m₁ news₁ h tk I oI, i < n → J i m₁ news₁ → (∀ q ∈ news₁, q.1 ≠ I) → Fr h₀ env.locals h (fun y => if y = x then some (.int (a₀ + (i : Nat)) t) else m₁ y) → News h₀ env.locals h ((I, oI) :: news₁) →
      wpAny (model prog w) A (execs body env) (FreePost h₀ env.locals (J (i + 1)) I oI { s with heap := h, toks := tk } Q) E { s with heap := h, toks := tk })
    (done : ∀ m₁ news₁ h tk, J n m₁ news₁ → Fr h₀ env.locals h m₁ → News h₀ env.locals h news₁ → Q .next { s with heap := h, toks := tk }) :
    wpAny (model prog w) A (pyIter (.ref r)) (fun it s₂ => LoopAtV prog w A h₀ env x body Q E it s₂) E s := by
  refine wpAny_pyIter_range hr hsmall ?_
  have W : Walks prog w A s.heap.objs.size [s.heap.objs.size] [s.heap.objs.size] n (fun i v => i < n ∧ ∃ t, v = .int (a₀ + i * 1) t)
      (fun i h => IsRangeIter h s.heap.objs.size (a₀ + (i : Nat) * 1) ((n : Int) - (i : Nat)) 1) := (Walks.range hh _ a₀ 1 n).bound
  refine ⟨s.heap.objs.size, _, _, n, _, _, m₀, news, J, rfl, W, ?_, ?_, ?_, (by show IsRangeIter _ _ _ _ _; rw [hn]; simpa using Heap.get?_push_size _ rfl), F.push _, fun p hp => ⟨Heap.get?_push_of_some _ (N p hp).1, (N p hp).2⟩, hj, ?_, ?_⟩
  · intro hm
    exact absurd F.ns.lt ((List.mem_singleton.mp hm) ▸ Nat.lt_irrefl _)
  · intro b hb
    rw [List.mem_singleton.mp hb]
    exact next_is_new F
  · intro p hp hI
    exact absurd (Heap.lt_size (N p hp).1) ((List.mem_singleton.mp hI) ▸ Nat.lt_irrefl _)
  · rintro i v m₁ news₁ s₁ own ⟨hh', tk', rfl⟩ hin ⟨_, t, rfl⟩ hJ hoff hown hat hall hst F₁ N₁
    have e1 : a₀ + (i : Int) * 1 = a₀ + (i : Int) := by omega
    rw [e1] at F₁
    obtain ⟨oI, hoI⟩ : ∃ oI, hh'.get? s.heap.objs.size = some oI := ⟨_, hst⟩
    have hmem := hall _ (.head _) (next_is_new F) oI hoI
    have hq : ∀ p ∈ own, p = (s.heap.objs.size, oI) := fun p hp => by
      have h1 := List.mem_singleton.mp (hown p hp)
      have h2 := hat p hp
      obtain ⟨a, o⟩ := p
      dsimp only at h1 h2
      subst h1
      rw [hoI] at h2
      cases h2
      rfl
    refine wpAny_mono (turn i t m₁ news₁ hh' tk' s.heap.objs.size oI hin hJ (fun q hq e => hoff q hq (List.mem_singleton.mpr e)) F₁ (fun p hp => ?_)) (fun f s₂ p => ?_) fun _ _ e => e
    · rcases List.mem_cons.mp hp with rfl | hp
      · exact N₁ _ (List.mem_append_left _ hmem)
      · exact N₁ _ (List.mem_append_right _ hp)
    · have fin : (∃ h' tk m' nx, s₂ = { s with heap := h', toks := tk } ∧ Fr h₀ env.locals h' m' ∧ News h₀ env.locals h' ((s.heap.objs.size, oI) :: nx) ∧ (∀ q ∈ nx, q.1 ≠ s.heap.objs.size) ∧ J (i + 1) m' nx) → LoopStepU h₀ env.locals [s.heap.objs.size] own (J (i + 1)) { s with heap := hh', toks := tk' } .next s₂ := by
        rintro ⟨h', tk, m', nx, rfl, F', N', ho, hm⟩
        refine ⟨rfl, h', tk, m', nx, rfl, F', fun p hp => ?_, fun p hp hI => ho p hp (List.mem_singleton.mp hI), hm⟩
        rcases List.mem_append.mp hp with hp | hp
        · rw [hq p hp]; exact N' _ (.head _)
        · exact N' _ (.tail _ hp)
      cases f with
      | ret v => exact .ret p
      | brk => exact .brk p
      | next => exact .next (fin p)
      | cont => exact .cont (fin p)
  · rintro h' tk m' news' F' N' _ hJ
    exact done m' news' h' tk hJ F' N'
end
end Mine
end
section
open PySem PySem.W PyProof.Rows PySem.Calls
set_option maxRecDepth 100000
namespace Mine
section
variable {prog : Program} {w : World} {A : Around} {E : Value → Shared → Prop} {s : Shared} {env : Env} {h₀ : Heap} {x : Str} {px : Pos} {body : List Stmt} {Q : Flow → Shared → Prop}
theorem range_turns {r : Addr} {a₀ b₀ : Int} {t₀ u₀ v₀ : Tok} {n : Nat} {m₀ : Str → Option Value} {news : Led} (J : Nat → (Str → Option Value) → Led → Prop)
    (hh : A.handled = none) (hr : IsRange s.heap r a₀ b₀ 1 t₀ u₀ v₀) (hsmall : Builtin.Range.small a₀ b₀ 1 = true) (hn : Builtin.Range.rangeSize a₀ b₀ 1 = (n : Int)) (F : Fr h₀ env.locals s.heap m₀) (N : News h₀ env.locals s.heap news) (hj : J 0 m₀ news)
    (turn : ∀ i t m₁ news₁ h tk I oI, i < n → J i m₁ news₁ → (∀ q ∈ news₁, q.1 ≠ I) → Fr h₀ env.locals h m₁ → News h₀ env.locals h ((I, oI) :: news₁) →
      wpAny (model prog w) A (assign (.Name x px) env (.int (a₀ + (i : Nat)) t)) (fun _ s₃ => wpAny (model prog w) A (execs body env) (FreePost h₀ env.locals (J (i + 1)) I oI { s with heap := h, toks := tk } Q) E s₃) E { s with heap := h, toks := tk })
    (done : ∀ m₁ news₁ h tk, J n m₁ news₁ → Fr h₀ env.locals h m₁ → News h₀ env.locals h news₁ → Q .next { s with heap := h, toks := tk }) :
    wpAny (model prog w) A (pyIter (.ref r)) (fun it s₂ => TurnsAt prog w A h₀ env (.Name x px) body Q E it s₂) E s := by
  refine wpAny_pyIter_range hr hsmall ?_
  have W : Walks prog w A s.heap.objs.size [s.heap.objs.size] [s.heap.objs.size] n (fun i v => i < n ∧ ∃ t, v = .int (a₀ + i * 1) t)
      (fun i h => IsRangeIter h s.heap.objs.size (a₀ + (i : Nat) * 1) ((n : Int) - (i : Nat)) 1) := (Walks.range hh _ a₀ 1 n).bound
  refine ⟨s.heap.objs.size, _, _, n, _, _, _, m₀, news, J, rfl, KTurns.ofWalks (target := .Name x px) W (fun i v s' Q' E' _ h => wpAny_of_eq rfl h), ?_, ?_, ?_, (by show IsRangeIter _ _ _ _ _; rw [hn]; simpa using Heap.get?_push_size _ rfl), F.push _, fun p hp => ⟨Heap.get?_push_of_some _ (N p hp).1, (N p hp).2⟩, hj, ?_, ?_⟩
  · intro hm
    exact absurd F.ns.lt ((List.mem_singleton.mp hm) ▸ Nat.lt_irrefl _)
  · intro b hb
    rw [List.mem_singleton.mp hb]
    exact next_is_new F
  · intro p hp hI
    exact absurd (Heap.lt_size (N p hp).1) ((List.mem_singleton.mp hI) ▸ Nat.lt_irrefl _)
  · rintro i v m₁ news₁ hh' tk' own hin ⟨_, t, rfl⟩ hJ hoff hown hat hall hst F₁ N₁
    have e1 : a₀ + (i : Int) * 1 = a₀ + (i : Int) := by omega
    rw [e1]
    obtain ⟨oI, hoI⟩ : ∃ oI, hh'.get? s.heap.objs.size = some oI := ⟨_, hst⟩
    have hmem := hall _ (.head _) (next_is_new F) oI hoI
    have hq : ∀ p ∈ own, p = (s.heap.objs.size, oI) := fun p hp => by
      have h1 := List.mem_singleton.mp (hown p hp)
      have h2 := hat p hp
      obtain ⟨a, o⟩ := p
      dsimp only at h1 h2
      subst h1
      rw [hoI] at h2
      cases h2
      rfl
    refine wpAny_mono (turn i t m₁ news₁ hh' tk' s.heap.objs.size oI hin hJ (fun q hq e => hoff q hq (List.mem_singleton.mpr e)) F₁ (fun p hp => ?_)) (fun _ s₃ h₃ => wpAny_mono h₃ (fun f s₂ p => ?_) fun _ _ e => e) fun _ _ e => e
    · rcases List.mem_cons.mp hp with rfl | hp
      · exact N₁ _ (List.mem_append_left _ hmem)
      · exact N₁ _ (List.mem_append_right _ hp)
    · have fin : (∃ h' tk m' nx, s₂ = { s with heap := h', toks := tk } ∧ Fr h₀ env.locals h' m' ∧ News h₀ env.locals h' ((s.heap.objs.size, oI) :: nx) ∧ (∀ q ∈ nx, q.1 ≠ s.heap.objs.size) ∧ J (i + 1) m' nx) → LoopStepU h₀ env.locals [s.heap.objs.size] own (J (i + 1)) { s with heap := hh', toks := tk' } .next s₂ := by
        rintro ⟨h', tk, m', nx, rfl, F', N', ho, hm⟩
        refine ⟨rfl, h', tk, m', nx, rfl, F', fun p hp => ?_, fun p hp hI => ho p hp (List.mem_singleton.mp hI), hm⟩
        rcases List.mem_append.mp hp with hp | hp
        · rw [hq p hp]; exact N' _ (.head _)
        · exact N' _ (.tail _ hp)
      cases f with
      | ret v => exact .ret p
      | brk => exact .brk p
      | next => exact .next (fin p)
      | cont => exact .cont (fin p)
  · rintro h' tk m' news' F' N' _ hJ
    exact done m' news' h' tk hJ F' N'
end
end Mine
end
section
open PySem PySem.W PyProof.Rows PySem.Calls
set_option maxRecDepth 100000
namespace Mine
local macro_rules | `(tactic| walk_at "CompSrcT") => `(tactic| (k_here; refine Hold.out ?_))
def riseG (zs : List Int) (l : List Int) (k : Int) : List Int := if zs.getD k.toNat 0 * (zs.length - k - 1) < zs.getD (k + 1).toNat 0 * (zs.length - k) then l ++ [k] else l
def riseS (zs : List Int) : List Int := (rangeKs 0 (zs.length - 1)).foldl (riseG zs) []
theorem rs_a {n : Nat} (h3 : 3 ≤ n) (h6 : n ≤ 6) : Builtin.Range.small 0 ((n : Int) - 1) 1 = true := small_one (by omega) (by omega) (by omega) (by omega)
theorem rs_b {n : Nat} (h6 : n ≤ 6) : ((n : Int) - 1 - 0).toNat ≤ sizeLine := by rw [PySem.sizeLine_eq]; omega
theorem rs_e {n : Nat} (h3 : 3 ≤ n) : ((n : Int) - 1).toNat = n - 1 := by omega
theorem rs_k {n : Nat} {k : Int} (h3 : 3 ≤ n) (h : k < 0 + (((n : Int) - 1 - 0).toNat : Int)) : k < (n : Int) - 1 := by omega
theorem rs_l {n m : Nat} (h6 : n ≤ 6) (hl : m ≤ n - 1) : m ≤ 6 := by omega
set_option maxHeartbeats 8000000 in
theorem rises_ctr (w : World) (l : Addr) (vs : List Value) (zs : List Int) (c : Nat) (hi : IntsAre vs zs) (h3 : 3 ≤ zs.length) (h6 : zs.length ≤ 6) :
   Ctr w 157 [.ref l] [] 3 (fun _ => True) [(l, W.listOf vs.toArray c)]
     (fun r kept new => ∃ a hv cn, r = .ref a ∧ new = [(a, W.listOf hv.toArray cn)] ∧ IntsAre hv (riseS zs) ∧ hv.length ≤ 6 ∧ kept = [(l, W.listOf vs.toArray c)]) := by
  w_top off
  revert w l vs zs c hi h3 h6
  first | (refine no_implicit_lambda% (skol4 (by first | exact ⟨default⟩ | exact neWorld | exact neShared | exact neAround | exact neLX) (by first | exact ⟨default⟩ | exact neWorld | exact neShared | exact neAround | exact neLX) (by first | exact ⟨default⟩ | exact neWorld | exact neShared | exact neAround | exact neLX) (by first | exact ⟨default⟩ | exact neWorld | exact neShared | exact neAround | exact neLX) ?_); generalize @sk4a _ _ _ _ _ _ _ _ _ = w; generalize @sk4b _ _ _ _ _ _ _ _ _ = l; generalize @sk4c _ _ _ _ _ _ _ _ _ = vs; generalize @sk4d _ _ _ _ _ _ _ _ _ = zs) | ((first | ((first | refine no_implicit_lambda% (skol ?_) | refine no_implicit_lambda% (skolW ?_) | refine no_implicit_lambda% (skolL ?_) | refine no_implicit_lambda% (skolS ?_) | refine no_implicit_lambda% (skolA ?_)); generalize @skz _ _ _ = w) | intro w); (first | ((first | refine no_implicit_lambda% (skol ?_) | refine no_implicit_lambda% (skolW ?_) | refine no_implicit_lambda% (skolL ?_) | refine no_implicit_lambda% (skolS ?_) | refine no_implicit_lambda% (skolA ?_)); generalize @skz _ _ _ = l) | intro l); (first | ((first | refine no_implicit_lambda% (skol ?_) | refine no_implicit_lambda% (skolW ?_) | refine no_implicit_lambda% (skolL ?_) | refine no_implicit_lambda% (skolS ?_) | refine no_implicit_lambda% (skolA ?_)); generalize @skz _ _ _ = vs) | intro vs); (first | ((first | refine no_implicit_lambda% (skol ?_) | refine no_implicit_lambda% (skolW ?_) | refine no_implicit_lambda% (skolL ?_) | refine no_implicit_lambda% (skolS ?_) | refine no_implicit_lambda% (skolA ?_)); generalize @skz _ _ _ = zs) | intro zs))
  first | ((first | refine no_implicit_lambda% (skol ?_) | refine no_implicit_lambda% (skolW ?_) | refine no_implicit_lambda% (skolL ?_) | refine no_implicit_lambda% (skolS ?_) | refine no_implicit_lambda% (skolA ?_)); generalize @skz _ _ _ = c) | intro c
  first | ((first | refine no_implicit_lambda% (skol ?_) | refine no_implicit_lambda% (skolW ?_) | refine no_implicit_lambda% (skolL ?_) | refine no_implicit_lambda% (skolS ?_) | refine no_implicit_lambda% (skolA ?_)); generalize @skz _ _ _ = hi) | intro hi
  first | ((first | refine no_implicit_lambda% (skol ?_) | refine no_implicit_lambda% (skolW ?_) | refine no_implicit_lambda% (skolL ?_) | refine no_implicit_lambda% (skolS ?_) | refine no_implicit_lambda% (skolA ?_)); generalize @skz _ _ _ = h3) | intro h3
  first | ((first | refine no_implicit_lambda% (skol ?_) | refine no_implicit_lambda% (skolW ?_) | refine no_implicit_lambda% (skolL ?_) | refine no_implicit_lambda% (skolS ?_) | refine no_implicit_lambda% (skolA ?_)); generalize @skz _ _ _ = h6) | intro h6
  have hK0 : (fun w : World => Mine.hd0.heap_1_1 w.params, PySem.Challenge.rw_to0042_01) = (fun w : World => Mine.hd0.heap_1_1 w.params, PySem.Challenge.rw_to0042_01) := by (k_fill; rfl)
  clear hK0
  refine' enter_defC [("hall", .ref l)] ?pre ?ho ?hcd ?hb ?hk ?hn ?c1 ?c2 ?c3 ?_
  case ho => k_is
  case hcd => k_is
  case pre => exact fun _ _ _ _ => trivial
  case hb => exact fun _ _ => BindsTo.of_eq rfl
  case hk => exact rfl
  case hn => decide +kernel
  case c1 => rfl
  case c2 => rfl
  case c3 => rfl
  unfold BodyC
  first | (refine no_implicit_lambda% (skol4 (by first | exact ⟨default⟩ | exact neWorld | exact neShared | exact neAround | exact neLX) (by first | exact ⟨default⟩ | exact neWorld | exact neShared | exact neAround | exact neLX) (by first | exact ⟨default⟩ | exact neWorld | exact neShared | exact neAround | exact neLX) (by first | exact ⟨default⟩ | exact neWorld | exact neShared | exact neAround | exact neLX) ?_); generalize @sk4a _ _ _ _ _ _ _ _ _ = p; generalize @sk4b _ _ _ _ _ _ _ _ _ = loose; generalize @sk4c _ _ _ _ _ _ _ _ _ = mean; generalize @sk4d _ _ _ _ _ _ _ _ _ = mg) | ((first | ((first | refine no_implicit_lambda% (skol ?_) | refine no_implicit_lambda% (skolW ?_) | refine no_implicit_lambda% (skolL ?_) | refine no_implicit_lambda% (skolS ?_) | refine no_implicit_lambda% (skolA ?_)); generalize @skz _ _ _ = p) | intro p); (first | ((first | refine no_implicit_lambda% (skol ?_) | refine no_implicit_lambda% (skolW ?_) | refine no_implicit_lambda% (skolL ?_) | refine no_implicit_lambda% (skolS ?_) | refine no_implicit_lambda% (skolA ?_)); generalize @skz _ _ _ = loose) | intro loose); (first | ((first | refine no_implicit_lambda% (skol ?_) | refine no_implicit_lambda% (skolW ?_) | refine no_implicit_lambda% (skolL ?_) | refine no_implicit_lambda% (skolS ?_) | refine no_implicit_lambda% (skolA ?_)); generalize @skz _ _ _ = mean) | intro mean); (first | ((first | refine no_implicit_lambda% (skol ?_) | refine no_implicit_lambda% (skolW ?_) | refine no_implicit_lambda% (skolL ?_) | refine no_implicit_lambda% (skolS ?_) | refine no_implicit_lambda% (skolA ?_)); generalize @skz _ _ _ = mg) | intro mg))
  first | (refine no_implicit_lambda% (skol4 (by first | exact ⟨default⟩ | exact neWorld | exact neShared | exact neAround | exact neLX) (by first | exact ⟨default⟩ | exact neWorld | exact neShared | exact neAround | exact neLX) (by first | exact ⟨default⟩ | exact neWorld | exact neShared | exact neAround | exact neLX) (by first | exact ⟨default⟩ | exact neWorld | exact neShared | exact neAround | exact neLX) ?_); generalize @sk4a _ _ _ _ _ _ _ _ _ = mb; generalize @sk4b _ _ _ _ _ _ _ _ _ = dp; generalize @sk4c _ _ _ _ _ _ _ _ _ = un; generalize @sk4d _ _ _ _ _ _ _ _ _ = gd) | ((first | ((first | refine no_implicit_lambda% (skol ?_) | refine no_implicit_lambda% (skolW ?_) | refine no_implicit_lambda% (skolL ?_) | refine no_implicit_lambda% (skolS ?_) | refine no_implicit_lambda% (skolA ?_)); generalize @skz _ _ _ = mb) | intro mb); (first | ((first | refine no_implicit_lambda% (skol ?_) | refine no_implicit_lambda% (skolW ?_) | refine no_implicit_lambda% (skolL ?_) | refine no_implicit_lambda% (skolS ?_) | refine no_implicit_lambda% (skolA ?_)); generalize @skz _ _ _ = dp) | intro dp); (first | ((first | refine no_implicit_lambda% (skol ?_) | refine no_implicit_lambda% (skolW ?_) | refine no_implicit_lambda% (skolL ?_) | refine no_implicit_lambda% (skolS ?_) | refine no_implicit_lambda% (skolA ?_)); generalize @skz _ _ _ = un) | intro un); (first | ((first | refine no_implicit_lambda% (skol ?_) | refine no_implicit_lambda% (skolW ?_) | refine no_implicit_lambda% (skolL ?_) | refine no_implicit_lambda% (skolS ?_) | refine no_implicit_lambda% (skolA ?_)); generalize @skz _ _ _ = gd) | intro gd))
  first | (refine no_implicit_lambda% (skol4 (by first | exact ⟨default⟩ | exact neWorld | exact neShared | exact neAround | exact neLX) (by first | exact ⟨default⟩ | exact neWorld | exact neShared | exact neAround | exact neLX) (by first | exact ⟨default⟩ | exact neWorld | exact neShared | exact neAround | exact neLX) (by first | exact ⟨default⟩ | exact neWorld | exact neShared | exact neAround | exact neLX) ?_); generalize @sk4a _ _ _ _ _ _ _ _ _ = outer; generalize @sk4b _ _ _ _ _ _ _ _ _ = A₀; generalize @sk4c _ _ _ _ _ _ _ _ _ = base; generalize @sk4d _ _ _ _ _ _ _ _ _ = g) | ((first | ((first | refine no_implicit_lambda% (skol ?_) | refine no_implicit_lambda% (skolW ?_) | refine no_implicit_lambda% (skolL ?_) | refine no_implicit_lambda% (skolS ?_) | refine no_implicit_lambda% (skolA ?_)); generalize @skz _ _ _ = outer) | intro outer); (first | ((first | refine no_implicit_lambda% (skol ?_) | refine no_implicit_lambda% (skolW ?_) | refine no_implicit_lambda% (skolL ?_) | refine no_implicit_lambda% (skolS ?_) | refine no_implicit_lambda% (skolA ?_)); generalize @skz _ _ _ = A₀) | intro A₀); (first | ((first | refine no_implicit_lambda% (skol ?_) | refine no_implicit_lambda% (skolW ?_) | refine no_implicit_lambda% (skolL ?_) | refine no_implicit_lambda% (skolS ?_) | refine no_implicit_lambda% (skolA ?_)); generalize @skz _ _ _ = base) | intro base); (first | ((first | refine no_implicit_lambda% (skol ?_) | refine no_implicit_lambda% (skolW ?_) | refine no_implicit_lambda% (skolL ?_) | refine no_implicit_lambda% (skolS ?_) | refine no_implicit_lambda% (skolA ?_)); generalize @skz _ _ _ = g) | intro g))
  first | ((first | refine no_implicit_lambda% (skol ?_) | refine no_implicit_lambda% (skolW ?_) | refine no_implicit_lambda% (skolL ?_) | refine no_implicit_lambda% (skolS ?_) | refine no_implicit_lambda% (skolA ?_)); generalize @skz _ _ _ = h₁) | intro h₁
  first | ((first | refine no_implicit_lambda% (skol ?_) | refine no_implicit_lambda% (skolW ?_) | refine no_implicit_lambda% (skolL ?_) | refine no_implicit_lambda% (skolS ?_) | refine no_implicit_lambda% (skolA ?_)); generalize @skz _ _ _ = L') | intro L'
  first | ((first | refine no_implicit_lambda% (skol ?_) | refine no_implicit_lambda% (skolW ?_) | refine no_implicit_lambda% (skolL ?_) | refine no_implicit_lambda% (skolS ?_) | refine no_implicit_lambda% (skolA ?_)); generalize @skz _ _ _ = s) | intro s
  first | ((first | refine no_implicit_lambda% (skol ?_) | refine no_implicit_lambda% (skolW ?_) | refine no_implicit_lambda% (skolL ?_) | refine no_implicit_lambda% (skolS ?_) | refine no_implicit_lambda% (skolA ?_)); generalize @skz _ _ _ = tk₀) | intro tk₀
  first | ((first | refine no_implicit_lambda% (skol ?_) | refine no_implicit_lambda% (skolW ?_) | refine no_implicit_lambda% (skolL ?_) | refine no_implicit_lambda% (skolS ?_) | refine no_implicit_lambda% (skolA ?_)); generalize @skz _ _ _ = cells) | intro cells
  intro B
  intro F
  intro X
  intro N
  intro Y
  intro l0
  intro T
  intro hd
  intro hu
  intro hp
  (k_cells Y); (try simp only [List.cons_append, List.nil_append] at N); (try dsimp only); (try k_fold)
  k_steps
  refine Hold.mk ?_
  rename Fr _ _ _ _ => F1
  rename News _ _ _ _ => N1
  rename IsRange _ _ _ _ _ _ _ _ => rg
  rw [List.nil_append] at N1
  refine LCt.CompSrcT.range rfl F1 N1 rg (rs_a h3 h6) (rangeSize_nat _ _) (rs_b h6) ?_
  intro g'
  refine kci_range (riseG zs) (fun k t I oI C oC D m ys ll h tk E' hlo hhi hI hC hx F N off ne mk => ?_) ?_ ?_
  · have hk9 := rs_k h3 hhi
    have hk8 : 0 ≤ k := hlo
    simp only [LCg.Off3, and_true] at off
    have o0 := off.1.1
    have u0 := Ne.symm (off.1.1)
    have o1 := off.1.2.1
    have u1 := Ne.symm (off.1.2.1)
    have o2 := off.1.2.2
    have u2 := Ne.symm (off.1.2.2)
    have o3 := off.2.1.1
    have u3 := Ne.symm (off.2.1.1)
    have o4 := off.2.1.2.1
    have u4 := Ne.symm (off.2.1.2.1)
    have o5 := off.2.1.2.2
    have u5 := Ne.symm (off.2.1.2.2)
    have o6 := off.2.2.1
    have u6 := Ne.symm (off.2.2.1)
    have o7 := off.2.2.2.1
    have u7 := Ne.symm (off.2.2.2.1)
    have o8 := off.2.2.2.2
    have u8 := Ne.symm (off.2.2.2.2)
    have o9 := ne.1
    have u9 := Ne.symm (ne.1)
    have o10 := ne.2.1
    have u10 := Ne.symm (ne.2.1)
    have o11 := ne.2.2
    have u11 := Ne.symm (ne.2.2)
    clear off ne
    k_steps
  · unfold KPfDone
    intro ys hy hl
    dsimp only
    k_steps
    rename Fr _ _ _ _ => F2
    rename News _ _ _ _ => N2
    rw [Int.sub_zero] at hy hl
    have e9 := rs_e h3
    rw [e9] at hy hl
    refine Done.intro [(l, W.listOf vs.toArray c)] [(_, LCg.lst ys)] F2 N2 (by k_all) (List.forall_mem_cons.mpr ⟨.head _, fun _ h => nomatch h⟩) ?_ ?_
    · simp only [List.forall_mem_cons, List.not_mem_nil, false_implies, implies_true, and_true]
      rename (_ ≠ _ ∧ _ ≠ _ ∧ _ ≠ _) => o1
      exact fun e => o1.2.2 e.symm
    · exact ⟨_, ys, _, rfl, rfl, hy, rs_l h6 hl, rfl⟩
  · intro l k
    unfold riseG
    split
    · simp
    · simp
end Mine
end
section
open PySem PySem.W PyProof.Rows PySem.Calls
set_option maxRecDepth 100000
namespace Mine
local macro_rules | `(tactic| walk_at "pyIter ref") => `(tactic| (k_here; (with_reducible show wpAny _ _ (pyIter (Value.ref _)) (fun it s₂ => LoopAtV _ _ _ _ _ _ _ _ _ it s₂) _ _); refine Hold.out ?_))
local macro_rules | `(tactic| walk_at "subscriptTail") => `(tactic| (k_here; (with_reducible show wpAny _ _ (subscriptTail _ _ (Value.str (Str.ofString "+-*/|&") _) (Value.int _ _)) _ _ _); k_dflt (refine' sg_item ?a ?b ?_; (case a => (first | omega | (have h9 := nz_two (by assumption) (by assumption); omega))); (case b => omega))))
local macro_rules | `(tactic| walk_at "subscriptTail") => `(tactic| (k_here; (with_reducible show wpAny _ _ (subscriptTail _ _ (Value.ref 15) (Value.str (sg _) _)) _ _ _); k_dflt (refine' tok_item ?F ?X ?a ?b ?_; (case F => k_asm); (case X => k_asm); (case a => omega); (case b => omega)); intro t'))
def txt (l : List Nat) : Str := ⟨l.toArray⟩
theorem txt_app (a b : List Nat) : txt (a ++ b) = txt a ++ txt b := by
  show (⟨_⟩ : Str) = ⟨_⟩
  simp [txt]
theorem txt_len (a : List Nat) : (txt a).length = a.length := by simp [txt, Str.length]
def dressed (room cell : Int) : List Nat :=
  if (cell.fdiv room).fmod 3 = 0 then [92, sgnL.getD (cell.fmod room).toNat 0, 10] else if (cell.fdiv room).fmod 3 = 1 then [34, sgnL.getD (cell.fmod room).toNat 0, 34, 10] else [sgnL.getD (cell.fmod room).toNat 0, 10]
def pageOf (room : Int) (cells : List Int) : List Nat := cells.flatMap (dressed room)
theorem dressed_len (room cell : Int) : (dressed room cell).length ≤ 4 := by
  unfold dressed
  split
  · exact Nat.le_succ 3
  · split
    · exact Nat.le_refl 4
    · exact Nat.le_of_ble_eq_true rfl
theorem pageOf_app (room : Int) (a : List Int) (z : Int) : pageOf room (a ++ [z]) = pageOf room a ++ dressed room z := by simp [pageOf, List.flatMap_append]
theorem pageOf_len (room : Int) : ∀ (cells : List Int), (pageOf room cells).length ≤ 4 * cells.length
  | [] => by simp [pageOf]
  | c :: r => by
    have h1 := dressed_len room c
    have h2 := pageOf_len room r
    simp only [pageOf, List.flatMap_cons, List.length_append, List.length_cons] at h2 ⊢
    omega
set_option maxHeartbeats 8000000 in
theorem page_ctr (w : World) (l : Addr) (vs : List Value) (zs : List Int) (c : Nat) (room : Int) (tr : Tok) (hi : IntsAre vs zs) (hl : zs.length = 6) (hz : ∀ z ∈ zs, 0 ≤ z ∧ z < 2000) (h3 : 3 ≤ room) (h6 : room ≤ 6):
   Ctr w 121 [.ref l, .int room tr] [] 3 (fun _ => True) [(l, W.listOf vs.toArray c)]
     (fun r kept new => ∃ t, r = .str (txt (pageOf room zs)) t ∧ new = [] ∧ kept = [(l, W.listOf vs.toArray c)]) := by
  w_top off
  revert w l vs zs c room tr hi hl hz h3 h6
  first | (refine no_implicit_lambda% (skol4 (by first | exact ⟨default⟩ | exact neWorld | exact neShared | exact neAround | exact neLX) (by first | exact ⟨default⟩ | exact neWorld | exact neShared | exact neAround | exact neLX) (by first | exact ⟨default⟩ | exact neWorld | exact neShared | exact neAround | exact neLX) (by first | exact ⟨default⟩ | exact neWorld | exact neShared | exact neAround | exact neLX) ?_); generalize @sk4a _ _ _ _ _ _ _ _ _ = w; generalize @sk4b _ _ _ _ _ _ _ _ _ = l; generalize @sk4c _ _ _ _ _ _ _ _ _ = vs; generalize @sk4d _ _ _ _ _ _ _ _ _ = zs) | ((first | ((first | refine no_implicit_lambda% (skol ?_) | refine no_implicit_lambda% (skolW ?_) | refine no_implicit_lambda% (skolL ?_) | refine no_implicit_lambda% (skolS ?_) | refine no_implicit_lambda% (skolA ?_)); generalize @skz _ _ _ = w) | intro w); (first | ((first | refine no_implicit_lambda% (skol ?_) | refine no_implicit_lambda% (skolW ?_) | refine no_implicit_lambda% (skolL ?_) | refine no_implicit_lambda% (skolS ?_) | refine no_implicit_lambda% (skolA ?_)); generalize @skz _ _ _ = l) | intro l); (first | ((first | refine no_implicit_lambda% (skol ?_) | refine no_implicit_lambda% (skolW ?_) | refine no_implicit_lambda% (skolL ?_) | refine no_implicit_lambda% (skolS ?_) | refine no_implicit_lambda% (skolA ?_)); generalize @skz _ _ _ = vs) | intro vs); (first | ((first | refine no_implicit_lambda% (skol ?_) | refine no_implicit_lambda% (skolW ?_) | refine no_implicit_lambda% (skolL ?_) | refine no_implicit_lambda% (skolS ?_) | refine no_implicit_lambda% (skolA ?_)); generalize @skz _ _ _ = zs) | intro zs))
  first | ((first | refine no_implicit_lambda% (skol ?_) | refine no_implicit_lambda% (skolW ?_) | refine no_implicit_lambda% (skolL ?_) | refine no_implicit_lambda% (skolS ?_) | refine no_implicit_lambda% (skolA ?_)); generalize @skz _ _ _ = c) | intro c
  first | ((first | refine no_implicit_lambda% (skol ?_) | refine no_implicit_lambda% (skolW ?_) | refine no_implicit_lambda% (skolL ?_) | refine no_implicit_lambda% (skolS ?_) | refine no_implicit_lambda% (skolA ?_)); generalize @skz _ _ _ = room) | intro room
  first | ((first | refine no_implicit_lambda% (skol ?_) | refine no_implicit_lambda% (skolW ?_) | refine no_implicit_lambda% (skolL ?_) | refine no_implicit_lambda% (skolS ?_) | refine no_implicit_lambda% (skolA ?_)); generalize @skz _ _ _ = tr) | intro tr
  first | ((first | refine no_implicit_lambda% (skol ?_) | refine no_implicit_lambda% (skolW ?_) | refine no_implicit_lambda% (skolL ?_) | refine no_implicit_lambda% (skolS ?_) | refine no_implicit_lambda% (skolA ?_)); generalize @skz _ _ _ = hi) | intro hi
  first | ((first | refine no_implicit_lambda% (skol ?_) | refine no_implicit_lambda% (skolW ?_) | refine no_implicit_lambda% (skolL ?_) | refine no_implicit_lambda% (skolS ?_) | refine no_implicit_lambda% (skolA ?_)); generalize @skz _ _ _ = hl) | intro hl
  first | ((first | refine no_implicit_lambda% (skol ?_) | refine no_implicit_lambda% (skolW ?_) | refine no_implicit_lambda% (skolL ?_) | refine no_implicit_lambda% (skolS ?_) | refine no_implicit_lambda% (skolA ?_)); generalize @skz _ _ _ = hz) | intro hz
  first | ((first | refine no_implicit_lambda% (skol ?_) | refine no_implicit_lambda% (skolW ?_) | refine no_implicit_lambda% (skolL ?_) | refine no_implicit_lambda% (skolS ?_) | refine no_implicit_lambda% (skolA ?_)); generalize @skz _ _ _ = h3) | intro h3
  first | ((first | refine no_implicit_lambda% (skol ?_) | refine no_implicit_lambda% (skolW ?_) | refine no_implicit_lambda% (skolL ?_) | refine no_implicit_lambda% (skolS ?_) | refine no_implicit_lambda% (skolA ?_)); generalize @skz _ _ _ = h6) | intro h6
  have hK0 : (fun w : World => Mine.hd0.heap_1_1 w.params, PySem.Challenge.rw_to0042_01) = (fun w : World => Mine.hd0.heap_1_1 w.params, PySem.Challenge.rw_to0042_01) := by (k_fill; rfl)
  clear hK0
  refine' enter_def [("cells", .ref l), ("room", .int room tr)] ?pre ?ho ?hcd ?hb ?hl ?c1 ?c2 ?c3 ?c4 ?_
  case ho => k_is
  case hcd => k_is
  case pre => exact fun _ _ _ _ => trivial
  case hb => exact fun _ _ => BindsTo.of_eq rfl
  case hl => exact locs rfl
  case c1 => rfl
  case c2 => rfl
  case c3 => rfl
  case c4 => decide
  unfold Body
  first | (refine no_implicit_lambda% (skol4 (by first | exact ⟨default⟩ | exact neWorld | exact neShared | exact neAround | exact neLX) (by first | exact ⟨default⟩ | exact neWorld | exact neShared | exact neAround | exact neLX) (by first | exact ⟨default⟩ | exact neWorld | exact neShared | exact neAround | exact neLX) (by first | exact ⟨default⟩ | exact neWorld | exact neShared | exact neAround | exact neLX) ?_); generalize @sk4a _ _ _ _ _ _ _ _ _ = p; generalize @sk4b _ _ _ _ _ _ _ _ _ = loose; generalize @sk4c _ _ _ _ _ _ _ _ _ = mean; generalize @sk4d _ _ _ _ _ _ _ _ _ = mg) | ((first | ((first | refine no_implicit_lambda% (skol ?_) | refine no_implicit_lambda% (skolW ?_) | refine no_implicit_lambda% (skolL ?_) | refine no_implicit_lambda% (skolS ?_) | refine no_implicit_lambda% (skolA ?_)); generalize @skz _ _ _ = p) | intro p); (first | ((first | refine no_implicit_lambda% (skol ?_) | refine no_implicit_lambda% (skolW ?_) | refine no_implicit_lambda% (skolL ?_) | refine no_implicit_lambda% (skolS ?_) | refine no_implicit_lambda% (skolA ?_)); generalize @skz _ _ _ = loose) | intro loose); (first | ((first | refine no_implicit_lambda% (skol ?_) | refine no_implicit_lambda% (skolW ?_) | refine no_implicit_lambda% (skolL ?_) | refine no_implicit_lambda% (skolS ?_) | refine no_implicit_lambda% (skolA ?_)); generalize @skz _ _ _ = mean) | intro mean); (first | ((first | refine no_implicit_lambda% (skol ?_) | refine no_implicit_lambda% (skolW ?_) | refine no_implicit_lambda% (skolL ?_) | refine no_implicit_lambda% (skolS ?_) | refine no_implicit_lambda% (skolA ?_)); generalize @skz _ _ _ = mg) | intro mg))
  first | (refine no_implicit_lambda% (skol4 (by first | exact ⟨default⟩ | exact neWorld | exact neShared | exact neAround | exact neLX) (by first | exact ⟨default⟩ | exact neWorld | exact neShared | exact neAround | exact neLX) (by first | exact ⟨default⟩ | exact neWorld | exact neShared | exact neAround | exact neLX) (by first | exact ⟨default⟩ | exact neWorld | exact neShared | exact neAround | exact neLX) ?_); generalize @sk4a _ _ _ _ _ _ _ _ _ = mb; generalize @sk4b _ _ _ _ _ _ _ _ _ = dp; generalize @sk4c _ _ _ _ _ _ _ _ _ = un; generalize @sk4d _ _ _ _ _ _ _ _ _ = gd) | ((first | ((first | refine no_implicit_lambda% (skol ?_) | refine no_implicit_lambda% (skolW ?_) | refine no_implicit_lambda% (skolL ?_) | refine no_implicit_lambda% (skolS ?_) | refine no_implicit_lambda% (skolA ?_)); generalize @skz _ _ _ = mb) | intro mb); (first | ((first | refine no_implicit_lambda% (skol ?_) | refine no_implicit_lambda% (skolW ?_) | refine no_implicit_lambda% (skolL ?_) | refine no_implicit_lambda% (skolS ?_) | refine no_implicit_lambda% (skolA ?_)); generalize @skz _ _ _ = dp) | intro dp); (first | ((first | refine no_implicit_lambda% (skol ?_) | refine no_implicit_lambda% (skolW ?_) | refine no_implicit_lambda% (skolL ?_) | refine no_implicit_lambda% (skolS ?_) | refine no_implicit_lambda% (skolA ?_)); generalize @skz _ _ _ = un) | intro un); (first | ((first | refine no_implicit_lambda% (skol ?_) | refine no_implicit_lambda% (skolW ?_) | refine no_implicit_lambda% (skolL ?_) | refine no_implicit_lambda% (skolS ?_) | refine no_implicit_lambda% (skolA ?_)); generalize @skz _ _ _ = gd) | intro gd))
  first | (refine no_implicit_lambda% (skol4 (by first | exact ⟨default⟩ | exact neWorld | exact neShared | exact neAround | exact neLX) (by first | exact ⟨default⟩ | exact neWorld | exact neShared | exact neAround | exact neLX) (by first | exact ⟨default⟩ | exact neWorld | exact neShared | exact neAround | exact neLX) (by first | exact ⟨default⟩ | exact neWorld | exact neShared | exact neAround | exact neLX) ?_); generalize @sk4a _ _ _ _ _ _ _ _ _ = outer; generalize @sk4b _ _ _ _ _ _ _ _ _ = A₀; generalize @sk4c _ _ _ _ _ _ _ _ _ = base; generalize @sk4d _ _ _ _ _ _ _ _ _ = g) | ((first | ((first | refine no_implicit_lambda% (skol ?_) | refine no_implicit_lambda% (skolW ?_) | refine no_implicit_lambda% (skolL ?_) | refine no_implicit_lambda% (skolS ?_) | refine no_implicit_lambda% (skolA ?_)); generalize @skz _ _ _ = outer) | intro outer); (first | ((first | refine no_implicit_lambda% (skol ?_) | refine no_implicit_lambda% (skolW ?_) | refine no_implicit_lambda% (skolL ?_) | refine no_implicit_lambda% (skolS ?_) | refine no_implicit_lambda% (skolA ?_)); generalize @skz _ _ _ = A₀) | intro A₀); (first | ((first | refine no_implicit_lambda% (skol ?_) | refine no_implicit_lambda% (skolW ?_) | refine no_implicit_lambda% (skolL ?_) | refine no_implicit_lambda% (skolS ?_) | refine no_implicit_lambda% (skolA ?_)); generalize @skz _ _ _ = base) | intro base); (first | ((first | refine no_implicit_lambda% (skol ?_) | refine no_implicit_lambda% (skolW ?_) | refine no_implicit_lambda% (skolL ?_) | refine no_implicit_lambda% (skolS ?_) | refine no_implicit_lambda% (skolA ?_)); generalize @skz _ _ _ = g) | intro g))
  first | ((first | refine no_implicit_lambda% (skol ?_) | refine no_implicit_lambda% (skolW ?_) | refine no_implicit_lambda% (skolL ?_) | refine no_implicit_lambda% (skolS ?_) | refine no_implicit_lambda% (skolA ?_)); generalize @skz _ _ _ = h₁) | intro h₁
  first | ((first | refine no_implicit_lambda% (skol ?_) | refine no_implicit_lambda% (skolW ?_) | refine no_implicit_lambda% (skolL ?_) | refine no_implicit_lambda% (skolS ?_) | refine no_implicit_lambda% (skolA ?_)); generalize @skz _ _ _ = L') | intro L'
  first | ((first | refine no_implicit_lambda% (skol ?_) | refine no_implicit_lambda% (skolW ?_) | refine no_implicit_lambda% (skolL ?_) | refine no_implicit_lambda% (skolS ?_) | refine no_implicit_lambda% (skolA ?_)); generalize @skz _ _ _ = s) | intro s
  intro B
  intro F
  intro X
  intro N
  intro T
  intro hd
  intro hu
  intro hp
  k_steps
  refine Hold.mk ?_
  rename Fr _ _ _ _ => F
  rename News _ _ _ _ => N
  refine kst_listL (σ := Str × Tok) (vs := vs) (ns := zs) (nn := c) (fun _ => [(l, W.listOf vs.toArray c)]) (fun c' => [(Str.ofString "page", .str c'.1 c'.2)]) (fun _ => True) [Str.ofString "sign", Str.ofString "dress"]
    (fun pre c' => c'.1 = txt (pageOf room pre)) (Str.ofString "", ?t) rfl (fun _ => by simp) hi F N trivial ?hk rfl ?_ ?_
  case hk => kst_all
  · rintro ⟨pg, tp⟩ pre post z t u h tk' own heq hmem hoff _ hP F N
    have hz' := hz z hmem
    have hm0 : 0 ≤ z.fmod room := Int.fmod_nonneg_of_pos _ (by omega)
    have hm6 : z.fmod room < room := Int.fmod_lt_of_pos _ (by omega)
    have hlen2 : pg.length ≤ 24 := by
      have h9 := pageOf_len room pre
      rw [heq, List.length_append, List.length_cons] at hl
      dsimp only at hP
      rw [hP, txt_len]; omega
    dsimp only [kstB, List.contains] at N F hP
    k_steps
    · rename Int.fmod _ 3 = 0 => hc
      rename Fr _ _ _ _ => F'
      rename News _ _ _ _ => N'
      refine kst_end (σ := Str × Tok) (_, _) F' N' (by kst_in) (by kst_in) rfl trivial (by kst_all) (by kst_same) ?_
      dsimp only
      rw [pageOf_app, txt_app, hP]
      unfold dressed
      rw [if_pos hc]
      show txt _ ++ txt [92] ++ txt [_] ++ txt [10] = _
      rw [← txt_app, ← txt_app, ← txt_app, ← txt_app, List.append_assoc, List.append_assoc]; rfl
    · rename Int.fmod _ 3 ≠ 0 => hc
      rename Int.fmod _ 3 = 1 => hc1
      rename Fr _ _ _ _ => F'
      rename News _ _ _ _ => N'
      refine kst_end (σ := Str × Tok) (_, _) F' N' (by kst_in) (by kst_in) rfl trivial (by kst_all) (by kst_same) ?_
      dsimp only
      rw [pageOf_app, txt_app, hP]
      unfold dressed
      rw [if_neg hc, if_pos hc1]
      show txt _ ++ txt [34] ++ txt [_] ++ txt [34, 10] = _
      rw [← txt_app, ← txt_app, ← txt_app, ← txt_app, List.append_assoc, List.append_assoc]; rfl
    · rename Int.fmod _ 3 ≠ 0 => hc
      rename Int.fmod _ 3 ≠ 1 => hc1
      rename Fr _ _ _ _ => F'
      rename News _ _ _ _ => N'
      refine kst_end (σ := Str × Tok) (_, _) F' N' (by kst_in) (by kst_in) rfl trivial (by kst_all) (by kst_same) ?_
      dsimp only
      rw [pageOf_app, txt_app, hP]
      unfold dressed
      rw [if_neg hc, if_neg hc1]
      show txt _ ++ txt [_] ++ txt [10] = _
      rw [← txt_app, ← txt_app, ← txt_app, List.append_assoc]; rfl
  · rintro ⟨pg, tp⟩ u h tk' _ hP F N
    dsimp only [kstB, List.contains] at N F hP
    subst hP
    k_steps
    rename Fr _ _ _ _ => F'
    rename News _ _ _ _ => N'
    refine Done.intro [(l, W.listOf vs.toArray c)] [] F' N' (by k_all) (fun _ h => nomatch h) (fun _ h => nomatch h) ?_
    exact ⟨_, rfl, rfl, rfl⟩
end Mine
end
section
open PySem PySem.W PyProof.Rows PySem.Calls
set_option maxRecDepth 100000
namespace Mine
local macro_rules | `(tactic| walk_at "call type:enumerate") => `(tactic| (k_here; refine Hold.out ?_))
structure CS where
  vs : List Value
  zs : List Int
  n : Nat
def cellsOk (k : Nat) (zs : List Int) : Prop := zs.length = 13 ∧ ∀ j, j < 13 → 0 ≤ zs.getD j 0 ∧ zs.getD j 0 ≤ 13 + 899 * ((k + 12 - j) / 13 : Nat)
theorem cells_step {k : Nat} {zs : List Int} {x : Int} (h : cellsOk k zs) (hk : k < 20) (h0 : 0 ≤ x) (h9 : x < 900) :
    cellsOk (k + 1) (zs.set ((k : Int).fmod (zs.length : Int)).toNat (zs.getD ((k : Int).fmod (zs.length : Int)).toNat 0 + x)) := by
  obtain ⟨hl, hb⟩ := h
  have e : ((k : Int).fmod (zs.length : Int)).toNat = k % 13 := by
    rw [hl, Int.fmod_eq_emod_of_nonneg _ (by decide)]; omega
  rw [e]
  refine ⟨by rw [List.length_set]; exact hl, fun j hj => ?_⟩
  have hj' := hb j hj
  rw [List.getD_eq_getElem?_getD, List.getElem?_set]
  by_cases hq : k % 13 = j
  · rw [if_pos hq, if_pos (by omega)]
    have hj2 := hb (k % 13) (by omega)
    simp only [Option.getD_some]
    constructor
    · omega
    · rw [hq] at hj2 ⊢
      omega
  · rw [if_neg hq, ← List.getD_eq_getElem?_getD]
    constructor
    · omega
    · have : (k + 12 - j) / 13 ≤ (k + 1 + 12 - j) / 13 := by omega
      omega
theorem cells_bound {k : Nat} {zs : List Int} (h : cellsOk k zs) (hk : k ≤ 20) : ∀ x ∈ zs, 0 ≤ x ∧ x < 2000 := by
  intro x hx
  obtain ⟨j, hj, rfl⟩ := List.mem_iff_getElem.mp hx
  have h1 := h.1
  have h2 := h.2 j (by omega)
  rw [List.getD_eq_getElem?_getD, List.getElem?_eq_getElem hj, Option.getD_some] at h2
  have : (k + 12 - j) / 13 ≤ 2 := by omega
  omega
set_option maxHeartbeats 8000000 in
theorem cells_ctr (w : World) (l sc : Addr) (vs ws : List Value) (zs ys : List Int) (c : Nat) (hi : IntsAre vs zs) (h6 : cellsOk 0 zs) (hs : IntsAre ws ys) (hl : ys.length ≤ 63) :
   Ctr w 114 [.ref sc, .ref l] [] 3 (fun h => h.IsList sc ws.toArray) [(l, W.listOf vs.toArray c)]
     (fun r kept new => ∃ a hv cs cn, r = .ref a ∧ new = [(a, W.listOf hv.toArray cn)] ∧ IntsAre hv cs ∧ cs.length = 13 ∧ (∀ x ∈ cs, 0 ≤ x ∧ x < 2000) ∧ kept = [(l, W.listOf vs.toArray c)]) := by
  w_top off
  revert w l sc vs ws zs ys c hi h6 hs hl
  first | (refine no_implicit_lambda% (skol4 (by first | exact ⟨default⟩ | exact neWorld | exact neShared | exact neAround | exact neLX) (by first | exact ⟨default⟩ | exact neWorld | exact neShared | exact neAround | exact neLX) (by first | exact ⟨default⟩ | exact neWorld | exact neShared | exact neAround | exact neLX) (by first | exact ⟨default⟩ | exact neWorld | exact neShared | exact neAround | exact neLX) ?_); generalize @sk4a _ _ _ _ _ _ _ _ _ = w; generalize @sk4b _ _ _ _ _ _ _ _ _ = l; generalize @sk4c _ _ _ _ _ _ _ _ _ = sc; generalize @sk4d _ _ _ _ _ _ _ _ _ = vs) | ((first | ((first | refine no_implicit_lambda% (skol ?_) | refine no_implicit_lambda% (skolW ?_) | refine no_implicit_lambda% (skolL ?_) | refine no_implicit_lambda% (skolS ?_) | refine no_implicit_lambda% (skolA ?_)); generalize @skz _ _ _ = w) | intro w); (first | ((first | refine no_implicit_lambda% (skol ?_) | refine no_implicit_lambda% (skolW ?_) | refine no_implicit_lambda% (skolL ?_) | refine no_implicit_lambda% (skolS ?_) | refine no_implicit_lambda% (skolA ?_)); generalize @skz _ _ _ = l) | intro l); (first | ((first | refine no_implicit_lambda% (skol ?_) | refine no_implicit_lambda% (skolW ?_) | refine no_implicit_lambda% (skolL ?_) | refine no_implicit_lambda% (skolS ?_) | refine no_implicit_lambda% (skolA ?_)); generalize @skz _ _ _ = sc) | intro sc); (first | ((first | refine no_implicit_lambda% (skol ?_) | refine no_implicit_lambda% (skolW ?_) | refine no_implicit_lambda% (skolL ?_) | refine no_implicit_lambda% (skolS ?_) | refine no_implicit_lambda% (skolA ?_)); generalize @skz _ _ _ = vs) | intro vs))
  first | (refine no_implicit_lambda% (skol4 (by first | exact ⟨default⟩ | exact neWorld | exact neShared | exact neAround | exact neLX) (by first | exact ⟨default⟩ | exact neWorld | exact neShared | exact neAround | exact neLX) (by first | exact ⟨default⟩ | exact neWorld | exact neShared | exact neAround | exact neLX) (by first | exact ⟨default⟩ | exact neWorld | exact neShared | exact neAround | exact neLX) ?_); generalize @sk4a _ _ _ _ _ _ _ _ _ = ws; generalize @sk4b _ _ _ _ _ _ _ _ _ = zs; generalize @sk4c _ _ _ _ _ _ _ _ _ = ys; generalize @sk4d _ _ _ _ _ _ _ _ _ = c) | ((first | ((first | refine no_implicit_lambda% (skol ?_) | refine no_implicit_lambda% (skolW ?_) | refine no_implicit_lambda% (skolL ?_) | refine no_implicit_lambda% (skolS ?_) | refine no_implicit_lambda% (skolA ?_)); generalize @skz _ _ _ = ws) | intro ws); (first | ((first | refine no_implicit_lambda% (skol ?_) | refine no_implicit_lambda% (skolW ?_) | refine no_implicit_lambda% (skolL ?_) | refine no_implicit_lambda% (skolS ?_) | refine no_implicit_lambda% (skolA ?_)); generalize @skz _ _ _ = zs) | intro zs); (first | ((first | refine no_implicit_lambda% (skol ?_) | refine no_implicit_lambda% (skolW ?_) | refine no_implicit_lambda% (skolL ?_) | refine no_implicit_lambda% (skolS ?_) | refine no_implicit_lambda% (skolA ?_)); generalize @skz _ _ _ = ys) | intro ys); (first | ((first | refine no_implicit_lambda% (skol ?_) | refine no_implicit_lambda% (skolW ?_) | refine no_implicit_lambda% (skolL ?_) | refine no_implicit_lambda% (skolS ?_) | refine no_implicit_lambda% (skolA ?_)); generalize @skz _ _ _ = c) | intro c))
  first | ((first | refine no_implicit_lambda% (skol ?_) | refine no_implicit_lambda% (skolW ?_) | refine no_implicit_lambda% (skolL ?_) | refine no_implicit_lambda% (skolS ?_) | refine no_implicit_lambda% (skolA ?_)); generalize @skz _ _ _ = hi) | intro hi
  first | ((first | refine no_implicit_lambda% (skol ?_) | refine no_implicit_lambda% (skolW ?_) | refine no_implicit_lambda% (skolL ?_) | refine no_implicit_lambda% (skolS ?_) | refine no_implicit_lambda% (skolA ?_)); generalize @skz _ _ _ = h6) | intro h6
  first | ((first | refine no_implicit_lambda% (skol ?_) | refine no_implicit_lambda% (skolW ?_) | refine no_implicit_lambda% (skolL ?_) | refine no_implicit_lambda% (skolS ?_) | refine no_implicit_lambda% (skolA ?_)); generalize @skz _ _ _ = hs) | intro hs
  first | ((first | refine no_implicit_lambda% (skol ?_) | refine no_implicit_lambda% (skolW ?_) | refine no_implicit_lambda% (skolL ?_) | refine no_implicit_lambda% (skolS ?_) | refine no_implicit_lambda% (skolA ?_)); generalize @skz _ _ _ = hl) | intro hl
  have h13 : zs.length = 13 := h6.1
  have hK0 : (fun w : World => Mine.hd0.heap_1_1 w.params, PySem.Challenge.rw_to0042_01) = (fun w : World => Mine.hd0.heap_1_1 w.params, PySem.Challenge.rw_to0042_01) := by (k_fill; rfl)
  clear hK0
  refine' enter_def [("script", .ref sc), ("own", .ref l)] ?pre ?ho ?hcd ?hb ?hl ?c1 ?c2 ?c3 ?c4 ?_
  case ho => k_is
  case hcd => k_is
  case pre => exact fun _ _ st h => stays_list st h
  case hb => exact fun _ _ => BindsTo.of_eq rfl
  case hl => exact locs rfl
  case c1 => rfl
  case c2 => rfl
  case c3 => rfl
  case c4 => decide
  unfold Body
  first | (refine no_implicit_lambda% (skol4 (by first | exact ⟨default⟩ | exact neWorld | exact neShared | exact neAround | exact neLX) (by first | exact ⟨default⟩ | exact neWorld | exact neShared | exact neAround | exact neLX) (by first | exact ⟨default⟩ | exact neWorld | exact neShared | exact neAround | exact neLX) (by first | exact ⟨default⟩ | exact neWorld | exact neShared | exact neAround | exact neLX) ?_); generalize @sk4a _ _ _ _ _ _ _ _ _ = p; generalize @sk4b _ _ _ _ _ _ _ _ _ = loose; generalize @sk4c _ _ _ _ _ _ _ _ _ = mean; generalize @sk4d _ _ _ _ _ _ _ _ _ = mg) | ((first | ((first | refine no_implicit_lambda% (skol ?_) | refine no_implicit_lambda% (skolW ?_) | refine no_implicit_lambda% (skolL ?_) | refine no_implicit_lambda% (skolS ?_) | refine no_implicit_lambda% (skolA ?_)); generalize @skz _ _ _ = p) | intro p); (first | ((first | refine no_implicit_lambda% (skol ?_) | refine no_implicit_lambda% (skolW ?_) | refine no_implicit_lambda% (skolL ?_) | refine no_implicit_lambda% (skolS ?_) | refine no_implicit_lambda% (skolA ?_)); generalize @skz _ _ _ = loose) | intro loose); (first | ((first | refine no_implicit_lambda% (skol ?_) | refine no_implicit_lambda% (skolW ?_) | refine no_implicit_lambda% (skolL ?_) | refine no_implicit_lambda% (skolS ?_) | refine no_implicit_lambda% (skolA ?_)); generalize @skz _ _ _ = mean) | intro mean); (first | ((first | refine no_implicit_lambda% (skol ?_) | refine no_implicit_lambda% (skolW ?_) | refine no_implicit_lambda% (skolL ?_) | refine no_implicit_lambda% (skolS ?_) | refine no_implicit_lambda% (skolA ?_)); generalize @skz _ _ _ = mg) | intro mg))
  first | (refine no_implicit_lambda% (skol4 (by first | exact ⟨default⟩ | exact neWorld | exact neShared | exact neAround | exact neLX) (by first | exact ⟨default⟩ | exact neWorld | exact neShared | exact neAround | exact neLX) (by first | exact ⟨default⟩ | exact neWorld | exact neShared | exact neAround | exact neLX) (by first | exact ⟨default⟩ | exact neWorld | exact neShared | exact neAround | exact neLX) ?_); generalize @sk4a _ _ _ _ _ _ _ _ _ = mb; generalize @sk4b _ _ _ _ _ _ _ _ _ = dp; generalize @sk4c _ _ _ _ _ _ _ _ _ = un; generalize @sk4d _ _ _ _ _ _ _ _ _ = gd) | ((first | ((first | refine no_implicit_lambda% (skol ?_) | refine no_implicit_lambda% (skolW ?_) | refine no_implicit_lambda% (skolL ?_) | refine no_implicit_lambda% (skolS ?_) | refine no_implicit_lambda% (skolA ?_)); generalize @skz _ _ _ = mb) | intro mb); (first | ((first | refine no_implicit_lambda% (skol ?_) | refine no_implicit_lambda% (skolW ?_) | refine no_implicit_lambda% (skolL ?_) | refine no_implicit_lambda% (skolS ?_) | refine no_implicit_lambda% (skolA ?_)); generalize @skz _ _ _ = dp) | intro dp); (first | ((first | refine no_implicit_lambda% (skol ?_) | refine no_implicit_lambda% (skolW ?_) | refine no_implicit_lambda% (skolL ?_) | refine no_implicit_lambda% (skolS ?_) | refine no_implicit_lambda% (skolA ?_)); generalize @skz _ _ _ = un) | intro un); (first | ((first | refine no_implicit_lambda% (skol ?_) | refine no_implicit_lambda% (skolW ?_) | refine no_implicit_lambda% (skolL ?_) | refine no_implicit_lambda% (skolS ?_) | refine no_implicit_lambda% (skolA ?_)); generalize @skz _ _ _ = gd) | intro gd))
  first | (refine no_implicit_lambda% (skol4 (by first | exact ⟨default⟩ | exact neWorld | exact neShared | exact neAround | exact neLX) (by first | exact ⟨default⟩ | exact neWorld | exact neShared | exact neAround | exact neLX) (by first | exact ⟨default⟩ | exact neWorld | exact neShared | exact neAround | exact neLX) (by first | exact ⟨default⟩ | exact neWorld | exact neShared | exact neAround | exact neLX) ?_); generalize @sk4a _ _ _ _ _ _ _ _ _ = outer; generalize @sk4b _ _ _ _ _ _ _ _ _ = A₀; generalize @sk4c _ _ _ _ _ _ _ _ _ = base; generalize @sk4d _ _ _ _ _ _ _ _ _ = g) | ((first | ((first | refine no_implicit_lambda% (skol ?_) | refine no_implicit_lambda% (skolW ?_) | refine no_implicit_lambda% (skolL ?_) | refine no_implicit_lambda% (skolS ?_) | refine no_implicit_lambda% (skolA ?_)); generalize @skz _ _ _ = outer) | intro outer); (first | ((first | refine no_implicit_lambda% (skol ?_) | refine no_implicit_lambda% (skolW ?_) | refine no_implicit_lambda% (skolL ?_) | refine no_implicit_lambda% (skolS ?_) | refine no_implicit_lambda% (skolA ?_)); generalize @skz _ _ _ = A₀) | intro A₀); (first | ((first | refine no_implicit_lambda% (skol ?_) | refine no_implicit_lambda% (skolW ?_) | refine no_implicit_lambda% (skolL ?_) | refine no_implicit_lambda% (skolS ?_) | refine no_implicit_lambda% (skolA ?_)); generalize @skz _ _ _ = base) | intro base); (first | ((first | refine no_implicit_lambda% (skol ?_) | refine no_implicit_lambda% (skolW ?_) | refine no_implicit_lambda% (skolL ?_) | refine no_implicit_lambda% (skolS ?_) | refine no_implicit_lambda% (skolA ?_)); generalize @skz _ _ _ = g) | intro g))
  first | ((first | refine no_implicit_lambda% (skol ?_) | refine no_implicit_lambda% (skolW ?_) | refine no_implicit_lambda% (skolL ?_) | refine no_implicit_lambda% (skolS ?_) | refine no_implicit_lambda% (skolA ?_)); generalize @skz _ _ _ = h₁) | intro h₁
  first | ((first | refine no_implicit_lambda% (skol ?_) | refine no_implicit_lambda% (skolW ?_) | refine no_implicit_lambda% (skolL ?_) | refine no_implicit_lambda% (skolS ?_) | refine no_implicit_lambda% (skolA ?_)); generalize @skz _ _ _ = L') | intro L'
  first | ((first | refine no_implicit_lambda% (skol ?_) | refine no_implicit_lambda% (skolW ?_) | refine no_implicit_lambda% (skolL ?_) | refine no_implicit_lambda% (skolS ?_) | refine no_implicit_lambda% (skolA ?_)); generalize @skz _ _ _ = s) | intro s
  intro B
  intro F
  intro X
  intro N
  intro T
  intro hd
  intro hu
  intro hp
  k_steps
  refine Hold.mk ?_
  rename Fr _ _ _ _ => F
  rename News _ _ _ _ => N
  rename IntsAre _ (List.take _ _) => hi2
  have hle2 : (ys.take 20).length ≤ 20 := by rw [List.length_take]; omega
  generalize ys.take 20 = xs at hi2 hle2
  rename _ < _ ∧ _ => hlt
  refine kst_enum (σ := CS) (fun c' => [(_, W.listOf c'.vs.toArray c'.n), (l, W.listOf vs.toArray c)]) (fun _ => []) [Str.ofString "place"] (fun pre c' => IntsAre c'.vs c'.zs ∧ cellsOk pre.length c'.zs) ⟨vs, zs, _⟩ rfl hi2 F N ?_ (fun _ h => nomatch h) ⟨hi, h6⟩ ?_ ?_
  · simp only [List.forall_mem_cons, List.not_mem_nil, false_implies, implies_true, and_true]
    exact ⟨Nat.ne_of_lt hlt.1, Nat.ne_of_lt hlt.2⟩
  · rintro ⟨vs', zs', n'⟩ pre post x t t' u h tk' own heq hoff ⟨hi', hok, hbd⟩ F N
    dsimp only [kstB, List.contains, List.cons_append, List.nil_append] at N F hi' hok hbd
    have hplen : pre.length < 20 := by rw [heq, List.length_append, List.length_cons] at hle2; omega
    have hm0 : 0 ≤ (pre.length : Int).fmod 13 := Int.fmod_nonneg_of_pos _ (by omega)
    have hm6 : (pre.length : Int).fmod 13 < 13 := Int.fmod_lt_of_pos _ (by omega)
    have hx0 : 0 ≤ x.fmod 900 := Int.fmod_nonneg_of_pos _ (by omega)
    have hx6 : x.fmod 900 < 900 := Int.fmod_lt_of_pos _ (by omega)
    k_steps
    rename Fr _ _ _ _ => F'
    rename News _ _ _ _ => N'
    rename IntsAre (List.set _ _ _) _ => hi3
    refine kst_end (σ := CS) ⟨_, _, n'⟩ F' N' ?ka ?kb ?kd trivial ?ke ?kf ⟨hi3, ?kg⟩
    case ka => kst_in
    case kb => exact fun p hp => .tail _ (.tail _ hp)
    case kd => rfl
    case ke => kst_all
    case kf => kst_same
    dsimp only
    rw [List.length_append, List.length_singleton]
    exact cells_step ⟨hok, hbd⟩ hplen hx0 hx6
  · rintro ⟨vs', zs', n'⟩ u h tk' ⟨hi', hok, hbd⟩ F N
    dsimp only [kstB, List.contains] at N F hi' hok hbd
    k_steps
    rename Fr _ _ _ _ => F'
    rename News _ _ _ _ => N'
    try dsimp only
    refine Done.intro [(l, W.listOf vs.toArray c)] [(_, W.listOf vs'.toArray n')] F' N' (by k_all) (by k_all) ?_ ?_
    · simp only [List.forall_mem_cons, List.not_mem_nil, false_implies, implies_true, and_true]
      rename l < _ => hl9
      exact Nat.ne_of_gt hl9
    · exact ⟨_, vs', zs', n', rfl, rfl, hi', hok, cells_bound ⟨hok, hbd⟩ hle2, rfl⟩
end Mine
end
section
open PySem PySem.W PyProof.Rows PySem.Calls
set_option maxRecDepth 100000
namespace Mine
local macro_rules | `(tactic| walk_at "CompSrc") => `(tactic| (k_here; refine Hold.out ?_))
local macro_rules | `(tactic| walk_at "CompSrcE") => `(tactic| (k_here; refine Hold.out ?_))
local macro_rules | `(tactic| walk_at "CompSrcT") => `(tactic| (k_here; refine Hold.out ?_))
local macro_rules | `(tactic| walk_at "call builtin:str.join") => `(tactic| (k_here; refine Hold.out ?_))
theorem dig_nat : ∀ n : Nat, n < 100 → (Str.ofString (toString (n : Int))).length ≤ 2 := by decide +kernel
theorem dig_len {z : Int} (h0 : 0 ≤ z) (h1 : z < 100) : (Str.ofString (toString z)).length ≤ 2 := by
  obtain ⟨n, rfl⟩ := Int.eq_ofNat_of_zero_le h0
  exact dig_nat n (by omega)
def joinedS (zs : List Int) : Str := Txt.join (Str.ofString "'") (zs.map fun k => Str.ofString (toString k))
def writtenS (zs : List Int) : Str := if (zs.length : Int).fmod 2 = 0 then joinedS zs ++ Str.ofString "'" else joinedS zs
theorem joined_len {zs : List Int} (h : ∀ z ∈ zs, 0 ≤ z ∧ z < 100) (h6 : zs.length ≤ 6) : (joinedS zs).length ≤ 100 := by
  show (Builtin.Str.glued _ _).length ≤ _
  rw [StrLaws.glued_eq_join]
  have h1 := StrLaws.join_length_le (Str.ofString "'") (zs.map fun k => Str.ofString (toString k))
  have h2 := StrLaws.sumLen_le (B := 2) (zs.map fun k => Str.ofString (toString k)) (fun y hy => by
    obtain ⟨z, hz, rfl⟩ := List.mem_map.mp hy
    exact dig_len (h z hz).1 (h z hz).2)
  have h3 : (Str.ofString "'").length = 1 := by decide
  rw [h3] at h1
  rw [List.length_map] at h1 h2
  omega
set_option maxHeartbeats 8000000 in
theorem written_ctr (w : World) (l : Addr) (vs : List Value) (zs : List Int) (c : Nat) (hi : IntsAre vs zs) (h3 : 3 ≤ zs.length) (h6 : zs.length ≤ 6) (hz : ∀ z ∈ zs, 0 ≤ z ∧ z < 100) :
   Ctr w 140 [.ref l] [] 3 (fun _ => True) [(l, W.listOf vs.toArray c)]
     (fun r kept new => ∃ t, r = .str (writtenS zs) t ∧ new = [] ∧ kept = [(l, W.listOf vs.toArray c)]) := by
  w_top off
  revert w l vs zs c hi h3 h6 hz
  first | (refine no_implicit_lambda% (skol4 (by first | exact ⟨default⟩ | exact neWorld | exact neShared | exact neAround | exact neLX) (by first | exact ⟨default⟩ | exact neWorld | exact neShared | exact neAround | exact neLX) (by first | exact ⟨default⟩ | exact neWorld | exact neShared | exact neAround | exact neLX) (by first | exact ⟨default⟩ | exact neWorld | exact neShared | exact neAround | exact neLX) ?_); generalize @sk4a _ _ _ _ _ _ _ _ _ = w; generalize @sk4b _ _ _ _ _ _ _ _ _ = l; generalize @sk4c _ _ _ _ _ _ _ _ _ = vs; generalize @sk4d _ _ _ _ _ _ _ _ _ = zs) | ((first | ((first | refine no_implicit_lambda% (skol ?_) | refine no_implicit_lambda% (skolW ?_) | refine no_implicit_lambda% (skolL ?_) | refine no_implicit_lambda% (skolS ?_) | refine no_implicit_lambda% (skolA ?_)); generalize @skz _ _ _ = w) | intro w); (first | ((first | refine no_implicit_lambda% (skol ?_) | refine no_implicit_lambda% (skolW ?_) | refine no_implicit_lambda% (skolL ?_) | refine no_implicit_lambda% (skolS ?_) | refine no_implicit_lambda% (skolA ?_)); generalize @skz _ _ _ = l) | intro l); (first | ((first | refine no_implicit_lambda% (skol ?_) | refine no_implicit_lambda% (skolW ?_) | refine no_implicit_lambda% (skolL ?_) | refine no_implicit_lambda% (skolS ?_) | refine no_implicit_lambda% (skolA ?_)); generalize @skz _ _ _ = vs) | intro vs); (first | ((first | refine no_implicit_lambda% (skol ?_) | refine no_implicit_lambda% (skolW ?_) | refine no_implicit_lambda% (skolL ?_) | refine no_implicit_lambda% (skolS ?_) | refine no_implicit_lambda% (skolA ?_)); generalize @skz _ _ _ = zs) | intro zs))
  first | ((first | refine no_implicit_lambda% (skol ?_) | refine no_implicit_lambda% (skolW ?_) | refine no_implicit_lambda% (skolL ?_) | refine no_implicit_lambda% (skolS ?_) | refine no_implicit_lambda% (skolA ?_)); generalize @skz _ _ _ = c) | intro c
  first | ((first | refine no_implicit_lambda% (skol ?_) | refine no_implicit_lambda% (skolW ?_) | refine no_implicit_lambda% (skolL ?_) | refine no_implicit_lambda% (skolS ?_) | refine no_implicit_lambda% (skolA ?_)); generalize @skz _ _ _ = hi) | intro hi
  first | ((first | refine no_implicit_lambda% (skol ?_) | refine no_implicit_lambda% (skolW ?_) | refine no_implicit_lambda% (skolL ?_) | refine no_implicit_lambda% (skolS ?_) | refine no_implicit_lambda% (skolA ?_)); generalize @skz _ _ _ = h3) | intro h3
  first | ((first | refine no_implicit_lambda% (skol ?_) | refine no_implicit_lambda% (skolW ?_) | refine no_implicit_lambda% (skolL ?_) | refine no_implicit_lambda% (skolS ?_) | refine no_implicit_lambda% (skolA ?_)); generalize @skz _ _ _ = h6) | intro h6
  first | ((first | refine no_implicit_lambda% (skol ?_) | refine no_implicit_lambda% (skolW ?_) | refine no_implicit_lambda% (skolL ?_) | refine no_implicit_lambda% (skolS ?_) | refine no_implicit_lambda% (skolA ?_)); generalize @skz _ _ _ = hz) | intro hz
  have hK0 : (fun w : World => Mine.hd0.heap_1_1 w.params, PySem.Challenge.rw_to0042_01) = (fun w : World => Mine.hd0.heap_1_1 w.params, PySem.Challenge.rw_to0042_01) := by (k_fill; rfl)
  clear hK0
  refine' enter_def [("hall", .ref l)] ?pre ?ho ?hcd ?hb ?hl ?c1 ?c2 ?c3 ?c4 ?_
  case ho => k_is
  case hcd => k_is
  case pre => exact fun _ _ _ _ => trivial
  case hb => exact fun _ _ => BindsTo.of_eq rfl
  case hl => exact locs rfl
  case c1 => rfl
  case c2 => rfl
  case c3 => rfl
  case c4 => decide
  unfold Body
  first | (refine no_implicit_lambda% (skol4 (by first | exact ⟨default⟩ | exact neWorld | exact neShared | exact neAround | exact neLX) (by first | exact ⟨default⟩ | exact neWorld | exact neShared | exact neAround | exact neLX) (by first | exact ⟨default⟩ | exact neWorld | exact neShared | exact neAround | exact neLX) (by first | exact ⟨default⟩ | exact neWorld | exact neShared | exact neAround | exact neLX) ?_); generalize @sk4a _ _ _ _ _ _ _ _ _ = p; generalize @sk4b _ _ _ _ _ _ _ _ _ = loose; generalize @sk4c _ _ _ _ _ _ _ _ _ = mean; generalize @sk4d _ _ _ _ _ _ _ _ _ = mg) | ((first | ((first | refine no_implicit_lambda% (skol ?_) | refine no_implicit_lambda% (skolW ?_) | refine no_implicit_lambda% (skolL ?_) | refine no_implicit_lambda% (skolS ?_) | refine no_implicit_lambda% (skolA ?_)); generalize @skz _ _ _ = p) | intro p); (first | ((first | refine no_implicit_lambda% (skol ?_) | refine no_implicit_lambda% (skolW ?_) | refine no_implicit_lambda% (skolL ?_) | refine no_implicit_lambda% (skolS ?_) | refine no_implicit_lambda% (skolA ?_)); generalize @skz _ _ _ = loose) | intro loose); (first | ((first | refine no_implicit_lambda% (skol ?_) | refine no_implicit_lambda% (skolW ?_) | refine no_implicit_lambda% (skolL ?_) | refine no_implicit_lambda% (skolS ?_) | refine no_implicit_lambda% (skolA ?_)); generalize @skz _ _ _ = mean) | intro mean); (first | ((first | refine no_implicit_lambda% (skol ?_) | refine no_implicit_lambda% (skolW ?_) | refine no_implicit_lambda% (skolL ?_) | refine no_implicit_lambda% (skolS ?_) | refine no_implicit_lambda% (skolA ?_)); generalize @skz _ _ _ = mg) | intro mg))
  first | (refine no_implicit_lambda% (skol4 (by first | exact ⟨default⟩ | exact neWorld | exact neShared | exact neAround | exact neLX) (by first | exact ⟨default⟩ | exact neWorld | exact neShared | exact neAround | exact neLX) (by first | exact ⟨default⟩ | exact neWorld | exact neShared | exact neAround | exact neLX) (by first | exact ⟨default⟩ | exact neWorld | exact neShared | exact neAround | exact neLX) ?_); generalize @sk4a _ _ _ _ _ _ _ _ _ = mb; generalize @sk4b _ _ _ _ _ _ _ _ _ = dp; generalize @sk4c _ _ _ _ _ _ _ _ _ = un; generalize @sk4d _ _ _ _ _ _ _ _ _ = gd) | ((first | ((first | refine no_implicit_lambda% (skol ?_) | refine no_implicit_lambda% (skolW ?_) | refine no_implicit_lambda% (skolL ?_) | refine no_implicit_lambda% (skolS ?_) | refine no_implicit_lambda% (skolA ?_)); generalize @skz _ _ _ = mb) | intro mb); (first | ((first | refine no_implicit_lambda% (skol ?_) | refine no_implicit_lambda% (skolW ?_) | refine no_implicit_lambda% (skolL ?_) | refine no_implicit_lambda% (skolS ?_) | refine no_implicit_lambda% (skolA ?_)); generalize @skz _ _ _ = dp) | intro dp); (first | ((first | refine no_implicit_lambda% (skol ?_) | refine no_implicit_lambda% (skolW ?_) | refine no_implicit_lambda% (skolL ?_) | refine no_implicit_lambda% (skolS ?_) | refine no_implicit_lambda% (skolA ?_)); generalize @skz _ _ _ = un) | intro un); (first | ((first | refine no_implicit_lambda% (skol ?_) | refine no_implicit_lambda% (skolW ?_) | refine no_implicit_lambda% (skolL ?_) | refine no_implicit_lambda% (skolS ?_) | refine no_implicit_lambda% (skolA ?_)); generalize @skz _ _ _ = gd) | intro gd))
  first | (refine no_implicit_lambda% (skol4 (by first | exact ⟨default⟩ | exact neWorld | exact neShared | exact neAround | exact neLX) (by first | exact ⟨default⟩ | exact neWorld | exact neShared | exact neAround | exact neLX) (by first | exact ⟨default⟩ | exact neWorld | exact neShared | exact neAround | exact neLX) (by first | exact ⟨default⟩ | exact neWorld | exact neShared | exact neAround | exact neLX) ?_); generalize @sk4a _ _ _ _ _ _ _ _ _ = outer; generalize @sk4b _ _ _ _ _ _ _ _ _ = A₀; generalize @sk4c _ _ _ _ _ _ _ _ _ = base; generalize @sk4d _ _ _ _ _ _ _ _ _ = g) | ((first | ((first | refine no_implicit_lambda% (skol ?_) | refine no_implicit_lambda% (skolW ?_) | refine no_implicit_lambda% (skolL ?_) | refine no_implicit_lambda% (skolS ?_) | refine no_implicit_lambda% (skolA ?_)); generalize @skz _ _ _ = outer) | intro outer); (first | ((first | refine no_implicit_lambda% (skol ?_) | refine no_implicit_lambda% (skolW ?_) | refine no_implicit_lambda% (skolL ?_) | refine no_implicit_lambda% (skolS ?_) | refine no_implicit_lambda% (skolA ?_)); generalize @skz _ _ _ = A₀) | intro A₀); (first | ((first | refine no_implicit_lambda% (skol ?_) | refine no_implicit_lambda% (skolW ?_) | refine no_implicit_lambda% (skolL ?_) | refine no_implicit_lambda% (skolS ?_) | refine no_implicit_lambda% (skolA ?_)); generalize @skz _ _ _ = base) | intro base); (first | ((first | refine no_implicit_lambda% (skol ?_) | refine no_implicit_lambda% (skolW ?_) | refine no_implicit_lambda% (skolL ?_) | refine no_implicit_lambda% (skolS ?_) | refine no_implicit_lambda% (skolA ?_)); generalize @skz _ _ _ = g) | intro g))
  first | ((first | refine no_implicit_lambda% (skol ?_) | refine no_implicit_lambda% (skolW ?_) | refine no_implicit_lambda% (skolL ?_) | refine no_implicit_lambda% (skolS ?_) | refine no_implicit_lambda% (skolA ?_)); generalize @skz _ _ _ = h₁) | intro h₁
  first | ((first | refine no_implicit_lambda% (skol ?_) | refine no_implicit_lambda% (skolW ?_) | refine no_implicit_lambda% (skolL ?_) | refine no_implicit_lambda% (skolS ?_) | refine no_implicit_lambda% (skolA ?_)); generalize @skz _ _ _ = L') | intro L'
  first | ((first | refine no_implicit_lambda% (skol ?_) | refine no_implicit_lambda% (skolW ?_) | refine no_implicit_lambda% (skolL ?_) | refine no_implicit_lambda% (skolS ?_) | refine no_implicit_lambda% (skolA ?_)); generalize @skz _ _ _ = s) | intro s
  intro B
  intro F
  intro X
  intro N
  intro T
  intro hd
  intro hu
  intro hp
  k_steps
  refine Hold.mk ?_
  rename Fr _ _ _ _ => F1
  rename News _ _ _ _ => N1
  have hvl := hi.length
  refine LCg.CompSrc.ledger rfl F1 N1 (.head _) (by rw [List.size_toArray, PySem.sizeLine_eq]; omega) ?_
  intro g'
  refine kct_list (fun k => Str.ofString (toString k)) hi (fun k t I oI C oC D m ys h tk E' hk hC hx F N off ne mk => ?_) ?_
  · have hz' := hz k hk
    simp only [LCg.Off3, and_true] at off
    k_steps
    all_goals trace_state
  · unfold KPfDone
    intro ys hy hl
    dsimp only
    k_steps
    refine Hold.mk ?_
    rename CarriedAll _ _ => ktC
    rename Fr _ _ _ _ => F2
    rename News _ _ _ _ => N2
    refine KT.join_B 15 (News.isList N2 (.head _)) ktC (fun a ha => Nat.le_trans (dig_len (hz a ha).1 (hz a ha).2) (by decide)) (by omega) (by decide) ?_
    intro t2 k2
    have hjl := joined_len hz h6
    generalize hJ : Txt.join (Str.ofString "'") (zs.map fun k => Str.ofString (toString k)) = J
    have hJ2 : joinedS zs = J := hJ
    rw [hJ2] at hjl
    k_steps
    · rename _ = (0 : Int) => hc
      rename Fr _ _ _ _ => F4
      rename News _ _ _ _ => N4
      refine Done.intro [(l, W.listOf vs.toArray c)] [] F4 N4 (by k_all) (fun _ h => nomatch h) (fun _ h => nomatch h) ?_
      exact ⟨_, by rw [writtenS, if_pos hc, hJ2], rfl, rfl⟩
    · rename _ ≠ (0 : Int) => hc
      rename Fr _ _ _ _ => F4
      rename News _ _ _ _ => N4
      refine Done.intro [(l, W.listOf vs.toArray c)] [] F4 N4 (by k_all) (fun _ h => nomatch h) (fun _ h => nomatch h) ?_
      exact ⟨_, by rw [writtenS, if_neg hc, hJ2], rfl, rfl⟩
end Mine
end
section
open PySem PySem.W PyProof.Rows PySem.Calls
set_option maxRecDepth 100000
namespace Mine
local macro_rules | `(tactic| walk_at "exec While Compare cons nil") => `(tactic| (k_here; (with_reducible show wpAny _ _ (exec (Stmt.While _ _ _ _) _) _ _ _); refine Hold.out ?_))
def lamOf : Option Obj → PySem.Expr
  | some ⟨_, _, .func fd, _⟩ => (match fd.body with | .stmts (_ :: .For _ _ (.Expr (.Call _ _ (k :: _) _) _ :: _) _ _ :: _) => k.value | _ => .Name "" ⟨0, 0, 0, 0⟩)
  | _ => .Name "" ⟨0, 0, 0, 0⟩
theorem codeHd_io {P : Params} {h : Heap} (X : (Mine.hd0.heap_1_1 P).In h) : CodeHd h 127 123 :=
  ⟨_, _, _, _, _, _, _, _, _, X 127 _ rfl, rfl, rfl, rfl, rfl, rfl, rfl, rfl, rfl, by decide⟩
section
variable {prog : Program} {w : World} {A : Around} {E : Value → Shared → Prop} {s : Shared} {h₀ : Heap} {L D : Addr} {m : Str → Option Value} {news news' : Led} {n : Nat}
theorem ins_small {hs : List Value} {x : Int} {u : Tok} {y : Value} {Q : Value → Shared → Prop} (F : Fr h₀ L s.heap m) (N : News h₀ L s.heap news) (h0 : 0 ≤ x) (hx : x ≤ hs.length) (h1 : hs.length ≤ 100)
    (U : Upd D (W.listOf hs.toArray n) (W.listOf (hs.take x.toNat ++ y :: hs.drop x.toNat).toArray (n + 1)) news news')
    (h : ∀ h', Fr h₀ L h' m → News h₀ L h' news' → Q .none { s with heap := h' }) : wpAny (model prog w) A (call (.builtin "list.insert") [.ref D, .int x u, y]) Q E s :=
  kl_insert F N (by
    unfold Builtin.List.listFitsIndex
    simp only [Bool.and_eq_true, decide_eq_true_eq]
    omega) (by
    unfold kl_ins
    rw [List.toList_toArray, if_neg (by omega), show min x.toNat hs.length = x.toNat by omega]) U (by rw [List.toList_toArray, sizeLine_eq]; omega) h
end
local macro_rules | `(tactic| walk_at "call builtin:list.insert") => `(tactic| (k_here; (with_reducible show wpAny _ _ (call (Value.builtin _) [Value.ref _, Value.int _ _, _]) _ _ _); k_dflt (refine' ins_small ?F ?N ?a ?b ?c ?U ?_; (case F => k_asm); (case N => k_asm); (case U => k_upd); (case a => omega); (case b => omega); (case c => omega)); intro h' F' N'))
def Desc (l : List Int) : Prop := ∀ i j : Nat, i ≤ j → j < l.length → l.getD j 0 ≤ l.getD i 0
def SplitAt (l : List Int) (x lo hi : Int) : Prop := 0 ≤ lo ∧ lo ≤ hi ∧ hi ≤ l.length ∧ (∀ i : Nat, (i : Int) < lo → x ≤ l.getD i 0) ∧ (∀ i : Nat, hi ≤ (i : Int) → i < l.length → l.getD i 0 < x)
section
local macro_rules | `(tactic| omega) => `(tactic| lia)
theorem split_hi {l : List Int} {x lo hi mid : Int} (h : SplitAt l x lo hi) (hd : Desc l) (h1 : lo ≤ mid) (h2 : mid < hi) (hc : -x < -l.getD mid.toNat 0) : SplitAt l x lo mid := by
  obtain ⟨hs0, hs1, hs2, hs3, hs4⟩ := h
  refine ⟨hs0, h1, by omega, hs3, fun i hi1 hi2 => ?_⟩
  have := hd mid.toNat i (by omega) hi2
  omega
theorem split_lo {l : List Int} {x lo hi mid : Int} (h : SplitAt l x lo hi) (hd : Desc l) (h1 : lo ≤ mid) (h2 : mid < hi) (hc : ¬ -x < -l.getD mid.toNat 0) : SplitAt l x (mid + 1) hi := by
  obtain ⟨hs0, hs1, hs2, hs3, hs4⟩ := h
  refine ⟨by omega, by omega, hs2, fun i hi1 => ?_, hs4⟩
  have := hd i mid.toNat (by omega) (by omega)
  omega
theorem insD (l : List Int) (p : Nat) (x : Int) (hp : p ≤ l.length) (i : Nat) : (l.take p ++ x :: l.drop p).getD i 0 = if i < p then l.getD i 0 else if i = p then x else l.getD (i - 1) 0 := by
  simp only [List.getD_eq_getElem?_getD]
  have e : min p l.length = p := by omega
  by_cases h1 : i < p
  · rw [if_pos h1, List.getElem?_append_left (by rw [List.length_take]; omega), List.getElem?_take, if_pos h1]
  · rw [if_neg h1, List.getElem?_append_right (by rw [List.length_take]; omega), List.length_take, e]
    by_cases h2 : i = p
    · rw [if_pos h2, h2, Nat.sub_self]; rfl
    · rw [if_neg h2]
      obtain ⟨k, hk⟩ : ∃ k, i - p = k + 1 := ⟨i - p - 1, by omega⟩
      rw [hk, List.getElem?_cons_succ, List.getElem?_drop]
      have e2 : p + k = i - 1 := by omega
      rw [e2]
theorem ins_desc {l : List Int} {x lo hi : Int} (h : SplitAt l x lo hi) (hn : ¬ lo < hi) (hd : Desc l) : Desc (l.take lo.toNat ++ x :: l.drop lo.toNat) := by
  obtain ⟨hs0, hs1, hs2, hs3, hs4⟩ := h
  have hp : lo.toNat ≤ l.length := by omega
  intro i j hij hj
  have hlen : (l.take lo.toNat ++ x :: l.drop lo.toNat).length = l.length + 1 := by
    rw [List.length_append, List.length_cons, List.length_take, List.length_drop]; omega
  rw [hlen] at hj
  rw [insD l _ x hp, insD l _ x hp]
  by_cases a1 : j < lo.toNat
  · rw [if_pos a1, if_pos (by omega)]
    exact hd i j hij (by omega)
  · rw [if_neg a1]
    by_cases a2 : j = lo.toNat
    · rw [if_pos a2]
      by_cases b1 : i < lo.toNat
      · rw [if_pos b1]; exact hs3 i (by omega)
      · rw [if_neg b1, if_pos (by omega)]; exact Int.le_refl _
    · rw [if_neg a2]
      have hj2 := hs4 (j - 1) (by omega) (by omega)
      by_cases b1 : i < lo.toNat
      · rw [if_pos b1]; exact hd i (j - 1) (by omega) (by omega)
      · rw [if_neg b1]
        by_cases b2 : i = lo.toNat
        · rw [if_pos b2]; omega
        · rw [if_neg b2]; exact hd (i - 1) (j - 1) (by omega) (by omega)
end
structure BS where
  lo : Int
  tlo : Tok
  hi : Int
  thi : Tok
set_option maxHeartbeats 8000000 in
theorem ins_ctr (w : World) (la kf c : Addr) (rv : List Value) (ri : List Int) (rn : Nat) (x : Int) (tx : Tok) (qual : Str) (params : Arguments) (body : PySem.Expr) (scope : Scope) (pos : Pos) (pm ct : Value) (oc : Obj) (vs : Array Value) (tq : Tok)
   (hlam : lamOf ((Mine.hd0.heap_1_1 w.params).lookup 128) = .Lambda params body scope pos) (hd1 : oc.data = .fields vs) (hd2 : vs[1]? = some (.str qual tq)) (hri : IntsAre rv ri) (hlen : ri.length ≤ 5) (hx0 : 0 ≤ x) (hx6 : x ≤ 6) (hb : ∀ y ∈ ri, 0 ≤ y ∧ y ≤ 6) (hds : Desc ri)
   (a1 : la ≠ kf) (a2 : la ≠ c) (a3 : kf ≠ la) (a4 : c ≠ la) (a5 : kf ≠ c) (a6 : c ≠ kf) :
   Ctr w 33 [.ref la, .int x tx] [("key", .ref kf)] 6 (fun _ => True) [(kf, kla_obj "<lambda>" qual params body scope [] pm c ct), (c, oc), (la, W.listOf rv.toArray rn)]
     (fun r kept new => ∃ rv' ri' rn', r = .none ∧ new = [] ∧ kept = [(kf, kla_obj "<lambda>" qual params body scope [] pm c ct), (c, oc), (la, W.listOf rv'.toArray rn')] ∧ IntsAre rv' ri' ∧ Desc ri' ∧ ri'.Perm (x :: ri)) := by
  w_top off
  revert w la kf c rv ri rn x tx qual params body scope pos pm ct oc vs tq hlam hd1 hd2 hri hlen hx0 hx6 hb hds a1 a2 a3 a4 a5 a6
  first | (refine no_implicit_lambda% (skol4 (by first | exact ⟨default⟩ | exact neWorld | exact neShared | exact neAround | exact neLX) (by first | exact ⟨default⟩ | exact neWorld | exact neShared | exact neAround | exact neLX) (by first | exact ⟨default⟩ | exact neWorld | exact neShared | exact neAround | exact neLX) (by first | exact ⟨default⟩ | exact neWorld | exact neShared | exact neAround | exact neLX) ?_); generalize @sk4a _ _ _ _ _ _ _ _ _ = w; generalize @sk4b _ _ _ _ _ _ _ _ _ = la; generalize @sk4c _ _ _ _ _ _ _ _ _ = kf; generalize @sk4d _ _ _ _ _ _ _ _ _ = c) | ((first | ((first | refine no_implicit_lambda% (skol ?_) | refine no_implicit_lambda% (skolW ?_) | refine no_implicit_lambda% (skolL ?_) | refine no_implicit_lambda% (skolS ?_) | refine no_implicit_lambda% (skolA ?_)); generalize @skz _ _ _ = w) | intro w); (first | ((first | refine no_implicit_lambda% (skol ?_) | refine no_implicit_lambda% (skolW ?_) | refine no_implicit_lambda% (skolL ?_) | refine no_implicit_lambda% (skolS ?_) | refine no_implicit_lambda% (skolA ?_)); generalize @skz _ _ _ = la) | intro la); (first | ((first | refine no_implicit_lambda% (skol ?_) | refine no_implicit_lambda% (skolW ?_) | refine no_implicit_lambda% (skolL ?_) | refine no_implicit_lambda% (skolS ?_) | refine no_implicit_lambda% (skolA ?_)); generalize @skz _ _ _ = kf) | intro kf); (first | ((first | refine no_implicit_lambda% (skol ?_) | refine no_implicit_lambda% (skolW ?_) | refine no_implicit_lambda% (skolL ?_) | refine no_implicit_lambda% (skolS ?_) | refine no_implicit_lambda% (skolA ?_)); generalize @skz _ _ _ = c) | intro c))
  first | (refine no_implicit_lambda% (skol4 (by first | exact ⟨default⟩ | exact neWorld | exact neShared | exact neAround | exact neLX) (by first | exact ⟨default⟩ | exact neWorld | exact neShared | exact neAround | exact neLX) (by first | exact ⟨default⟩ | exact neWorld | exact neShared | exact neAround | exact neLX) (by first | exact ⟨default⟩ | exact neWorld | exact neShared | exact neAround | exact neLX) ?_); generalize @sk4a _ _ _ _ _ _ _ _ _ = rv; generalize @sk4b _ _ _ _ _ _ _ _ _ = ri; generalize @sk4c _ _ _ _ _ _ _ _ _ = rn; generalize @sk4d _ _ _ _ _ _ _ _ _ = x) | ((first | ((first | refine no_implicit_lambda% (skol ?_) | refine no_implicit_lambda% (skolW ?_) | refine no_implicit_lambda% (skolL ?_) | refine no_implicit_lambda% (skolS ?_) | refine no_implicit_lambda% (skolA ?_)); generalize @skz _ _ _ = rv) | intro rv); (first | ((first | refine no_implicit_lambda% (skol ?_) | refine no_implicit_lambda% (skolW ?_) | refine no_implicit_lambda% (skolL ?_) | refine no_implicit_lambda% (skolS ?_) | refine no_implicit_lambda% (skolA ?_)); generalize @skz _ _ _ = ri) | intro ri); (first | ((first | refine no_implicit_lambda% (skol ?_) | refine no_implicit_lambda% (skolW ?_) | refine no_implicit_lambda% (skolL ?_) | refine no_implicit_lambda% (skolS ?_) | refine no_implicit_lambda% (skolA ?_)); generalize @skz _ _ _ = rn) | intro rn); (first | ((first | refine no_implicit_lambda% (skol ?_) | refine no_implicit_lambda% (skolW ?_) | refine no_implicit_lambda% (skolL ?_) | refine no_implicit_lambda% (skolS ?_) | refine no_implicit_lambda% (skolA ?_)); generalize @skz _ _ _ = x) | intro x))
  first | (refine no_implicit_lambda% (skol4 (by first | exact ⟨default⟩ | exact neWorld | exact neShared | exact neAround | exact neLX) (by first | exact ⟨default⟩ | exact neWorld | exact neShared | exact neAround | exact neLX) (by first | exact ⟨default⟩ | exact neWorld | exact neShared | exact neAround | exact neLX) (by first | exact ⟨default⟩ | exact neWorld | exact neShared | exact neAround | exact neLX) ?_); generalize @sk4a _ _ _ _ _ _ _ _ _ = tx; generalize @sk4b _ _ _ _ _ _ _ _ _ = qual; generalize @sk4c _ _ _ _ _ _ _ _ _ = params; generalize @sk4d _ _ _ _ _ _ _ _ _ = body) | ((first | ((first | refine no_implicit_lambda% (skol ?_) | refine no_implicit_lambda% (skolW ?_) | refine no_implicit_lambda% (skolL ?_) | refine no_implicit_lambda% (skolS ?_) | refine no_implicit_lambda% (skolA ?_)); generalize @skz _ _ _ = tx) | intro tx); (first | ((first | refine no_implicit_lambda% (skol ?_) | refine no_implicit_lambda% (skolW ?_) | refine no_implicit_lambda% (skolL ?_) | refine no_implicit_lambda% (skolS ?_) | refine no_implicit_lambda% (skolA ?_)); generalize @skz _ _ _ = qual) | intro qual); (first | ((first | refine no_implicit_lambda% (skol ?_) | refine no_implicit_lambda% (skolW ?_) | refine no_implicit_lambda% (skolL ?_) | refine no_implicit_lambda% (skolS ?_) | refine no_implicit_lambda% (skolA ?_)); generalize @skz _ _ _ = params) | intro params); (first | ((first | refine no_implicit_lambda% (skol ?_) | refine no_implicit_lambda% (skolW ?_) | refine no_implicit_lambda% (skolL ?_) | refine no_implicit_lambda% (skolS ?_) | refine no_implicit_lambda% (skolA ?_)); generalize @skz _ _ _ = body) | intro body))
  first | (refine no_implicit_lambda% (skol4 (by first | exact ⟨default⟩ | exact neWorld | exact neShared | exact neAround | exact neLX) (by first | exact ⟨default⟩ | exact neWorld | exact neShared | exact neAround | exact neLX) (by first | exact ⟨default⟩ | exact neWorld | exact neShared | exact neAround | exact neLX) (by first | exact ⟨default⟩ | exact neWorld | exact neShared | exact neAround | exact neLX) ?_); generalize @sk4a _ _ _ _ _ _ _ _ _ = scope; generalize @sk4b _ _ _ _ _ _ _ _ _ = pos; generalize @sk4c _ _ _ _ _ _ _ _ _ = pm; generalize @sk4d _ _ _ _ _ _ _ _ _ = ct) | ((first | ((first | refine no_implicit_lambda% (skol ?_) | refine no_implicit_lambda% (skolW ?_) | refine no_implicit_lambda% (skolL ?_) | refine no_implicit_lambda% (skolS ?_) | refine no_implicit_lambda% (skolA ?_)); generalize @skz _ _ _ = scope) | intro scope); (first | ((first | refine no_implicit_lambda% (skol ?_) | refine no_implicit_lambda% (skolW ?_) | refine no_implicit_lambda% (skolL ?_) | refine no_implicit_lambda% (skolS ?_) | refine no_implicit_lambda% (skolA ?_)); generalize @skz _ _ _ = pos) | intro pos); (first | ((first | refine no_implicit_lambda% (skol ?_) | refine no_implicit_lambda% (skolW ?_) | refine no_implicit_lambda% (skolL ?_) | refine no_implicit_lambda% (skolS ?_) | refine no_implicit_lambda% (skolA ?_)); generalize @skz _ _ _ = pm) | intro pm); (first | ((first | refine no_implicit_lambda% (skol ?_) | refine no_implicit_lambda% (skolW ?_) | refine no_implicit_lambda% (skolL ?_) | refine no_implicit_lambda% (skolS ?_) | refine no_implicit_lambda% (skolA ?_)); generalize @skz _ _ _ = ct) | intro ct))
  first | ((first | refine no_implicit_lambda% (skol ?_) | refine no_implicit_lambda% (skolW ?_) | refine no_implicit_lambda% (skolL ?_) | refine no_implicit_lambda% (skolS ?_) | refine no_implicit_lambda% (skolA ?_)); generalize @skz _ _ _ = oc) | intro oc
  first | ((first | refine no_implicit_lambda% (skol ?_) | refine no_implicit_lambda% (skolW ?_) | refine no_implicit_lambda% (skolL ?_) | refine no_implicit_lambda% (skolS ?_) | refine no_implicit_lambda% (skolA ?_)); generalize @skz _ _ _ = vs) | intro vs
  first | ((first | refine no_implicit_lambda% (skol ?_) | refine no_implicit_lambda% (skolW ?_) | refine no_implicit_lambda% (skolL ?_) | refine no_implicit_lambda% (skolS ?_) | refine no_implicit_lambda% (skolA ?_)); generalize @skz _ _ _ = tq) | intro tq
  first | ((first | refine no_implicit_lambda% (skol ?_) | refine no_implicit_lambda% (skolW ?_) | refine no_implicit_lambda% (skolL ?_) | refine no_implicit_lambda% (skolS ?_) | refine no_implicit_lambda% (skolA ?_)); generalize @skz _ _ _ = hlam) | intro hlam
  first | ((first | refine no_implicit_lambda% (skol ?_) | refine no_implicit_lambda% (skolW ?_) | refine no_implicit_lambda% (skolL ?_) | refine no_implicit_lambda% (skolS ?_) | refine no_implicit_lambda% (skolA ?_)); generalize @skz _ _ _ = hd1) | intro hd1
  first | ((first | refine no_implicit_lambda% (skol ?_) | refine no_implicit_lambda% (skolW ?_) | refine no_implicit_lambda% (skolL ?_) | refine no_implicit_lambda% (skolS ?_) | refine no_implicit_lambda% (skolA ?_)); generalize @skz _ _ _ = hd2) | intro hd2
  first | ((first | refine no_implicit_lambda% (skol ?_) | refine no_implicit_lambda% (skolW ?_) | refine no_implicit_lambda% (skolL ?_) | refine no_implicit_lambda% (skolS ?_) | refine no_implicit_lambda% (skolA ?_)); generalize @skz _ _ _ = hri) | intro hri
  first | ((first | refine no_implicit_lambda% (skol ?_) | refine no_implicit_lambda% (skolW ?_) | refine no_implicit_lambda% (skolL ?_) | refine no_implicit_lambda% (skolS ?_) | refine no_implicit_lambda% (skolA ?_)); generalize @skz _ _ _ = hlen) | intro hlen
  first | ((first | refine no_implicit_lambda% (skol ?_) | refine no_implicit_lambda% (skolW ?_) | refine no_implicit_lambda% (skolL ?_) | refine no_implicit_lambda% (skolS ?_) | refine no_implicit_lambda% (skolA ?_)); generalize @skz _ _ _ = hx0) | intro hx0
  first | ((first | refine no_implicit_lambda% (skol ?_) | refine no_implicit_lambda% (skolW ?_) | refine no_implicit_lambda% (skolL ?_) | refine no_implicit_lambda% (skolS ?_) | refine no_implicit_lambda% (skolA ?_)); generalize @skz _ _ _ = hx6) | intro hx6
  first | ((first | refine no_implicit_lambda% (skol ?_) | refine no_implicit_lambda% (skolW ?_) | refine no_implicit_lambda% (skolL ?_) | refine no_implicit_lambda% (skolS ?_) | refine no_implicit_lambda% (skolA ?_)); generalize @skz _ _ _ = hb) | intro hb
  first | ((first | refine no_implicit_lambda% (skol ?_) | refine no_implicit_lambda% (skolW ?_) | refine no_implicit_lambda% (skolL ?_) | refine no_implicit_lambda% (skolS ?_) | refine no_implicit_lambda% (skolA ?_)); generalize @skz _ _ _ = hds) | intro hds
  first | ((first | refine no_implicit_lambda% (skol ?_) | refine no_implicit_lambda% (skolW ?_) | refine no_implicit_lambda% (skolL ?_) | refine no_implicit_lambda% (skolS ?_) | refine no_implicit_lambda% (skolA ?_)); generalize @skz _ _ _ = a1) | intro a1
  first | ((first | refine no_implicit_lambda% (skol ?_) | refine no_implicit_lambda% (skolW ?_) | refine no_implicit_lambda% (skolL ?_) | refine no_implicit_lambda% (skolS ?_) | refine no_implicit_lambda% (skolA ?_)); generalize @skz _ _ _ = a2) | intro a2
  first | ((first | refine no_implicit_lambda% (skol ?_) | refine no_implicit_lambda% (skolW ?_) | refine no_implicit_lambda% (skolL ?_) | refine no_implicit_lambda% (skolS ?_) | refine no_implicit_lambda% (skolA ?_)); generalize @skz _ _ _ = a3) | intro a3
  first | ((first | refine no_implicit_lambda% (skol ?_) | refine no_implicit_lambda% (skolW ?_) | refine no_implicit_lambda% (skolL ?_) | refine no_implicit_lambda% (skolS ?_) | refine no_implicit_lambda% (skolA ?_)); generalize @skz _ _ _ = a4) | intro a4
  first | ((first | refine no_implicit_lambda% (skol ?_) | refine no_implicit_lambda% (skolW ?_) | refine no_implicit_lambda% (skolL ?_) | refine no_implicit_lambda% (skolS ?_) | refine no_implicit_lambda% (skolA ?_)); generalize @skz _ _ _ = a5) | intro a5
  first | ((first | refine no_implicit_lambda% (skol ?_) | refine no_implicit_lambda% (skolW ?_) | refine no_implicit_lambda% (skolL ?_) | refine no_implicit_lambda% (skolS ?_) | refine no_implicit_lambda% (skolA ?_)); generalize @skz _ _ _ = a6) | intro a6
  generalize hL : lamOf ((Mine.hd0.heap_1_1 w.params).lookup 128) = LM at hlam
  conv at hL => (lhs; whnf)
  subst hL
  cases hlam
  have hK0 : (fun w : World => Mine.hd0.heap_1_1 w.params, PySem.Challenge.rw_to0042_01) = (fun w : World => Mine.hd0.heap_1_1 w.params, PySem.Challenge.rw_to0042_01) := by (k_fill; rfl)
  clear hK0
  refine' enter_def [("a", .ref la), ("x", .int x tx), ("lo", .int 0 393), ("hi", .none), ("key", .ref kf)] ?pre ?ho ?hcd ?hb ?hl ?c1 ?c2 ?c3 ?c4 ?_
  case ho => k_is
  case hcd => k_is
  case pre => exact fun _ _ _ _ => trivial
  case hb => exact fun s X => kp_binds X (fun S => rfl)
  case hl => exact locs rfl
  case c1 => rfl
  case c2 => rfl
  case c3 => rfl
  case c4 => decide
  unfold Body
  first | (refine no_implicit_lambda% (skol4 (by first | exact ⟨default⟩ | exact neWorld | exact neShared | exact neAround | exact neLX) (by first | exact ⟨default⟩ | exact neWorld | exact neShared | exact neAround | exact neLX) (by first | exact ⟨default⟩ | exact neWorld | exact neShared | exact neAround | exact neLX) (by first | exact ⟨default⟩ | exact neWorld | exact neShared | exact neAround | exact neLX) ?_); generalize @sk4a _ _ _ _ _ _ _ _ _ = p; generalize @sk4b _ _ _ _ _ _ _ _ _ = loose; generalize @sk4c _ _ _ _ _ _ _ _ _ = mean; generalize @sk4d _ _ _ _ _ _ _ _ _ = mg) | ((first | ((first | refine no_implicit_lambda% (skol ?_) | refine no_implicit_lambda% (skolW ?_) | refine no_implicit_lambda% (skolL ?_) | refine no_implicit_lambda% (skolS ?_) | refine no_implicit_lambda% (skolA ?_)); generalize @skz _ _ _ = p) | intro p); (first | ((first | refine no_implicit_lambda% (skol ?_) | refine no_implicit_lambda% (skolW ?_) | refine no_implicit_lambda% (skolL ?_) | refine no_implicit_lambda% (skolS ?_) | refine no_implicit_lambda% (skolA ?_)); generalize @skz _ _ _ = loose) | intro loose); (first | ((first | refine no_implicit_lambda% (skol ?_) | refine no_implicit_lambda% (skolW ?_) | refine no_implicit_lambda% (skolL ?_) | refine no_implicit_lambda% (skolS ?_) | refine no_implicit_lambda% (skolA ?_)); generalize @skz _ _ _ = mean) | intro mean); (first | ((first | refine no_implicit_lambda% (skol ?_) | refine no_implicit_lambda% (skolW ?_) | refine no_implicit_lambda% (skolL ?_) | refine no_implicit_lambda% (skolS ?_) | refine no_implicit_lambda% (skolA ?_)); generalize @skz _ _ _ = mg) | intro mg))
  first | (refine no_implicit_lambda% (skol4 (by first | exact ⟨default⟩ | exact neWorld | exact neShared | exact neAround | exact neLX) (by first | exact ⟨default⟩ | exact neWorld | exact neShared | exact neAround | exact neLX) (by first | exact ⟨default⟩ | exact neWorld | exact neShared | exact neAround | exact neLX) (by first | exact ⟨default⟩ | exact neWorld | exact neShared | exact neAround | exact neLX) ?_); generalize @sk4a _ _ _ _ _ _ _ _ _ = mb; generalize @sk4b _ _ _ _ _ _ _ _ _ = dp; generalize @sk4c _ _ _ _ _ _ _ _ _ = un; generalize @sk4d _ _ _ _ _ _ _ _ _ = gd) | ((first | ((first | refine no_implicit_lambda% (skol ?_) | refine no_implicit_lambda% (skolW ?_) | refine no_implicit_lambda% (skolL ?_) | refine no_implicit_lambda% (skolS ?_) | refine no_implicit_lambda% (skolA ?_)); generalize @skz _ _ _ = mb) | intro mb); (first | ((first | refine no_implicit_lambda% (skol ?_) | refine no_implicit_lambda% (skolW ?_) | refine no_implicit_lambda% (skolL ?_) | refine no_implicit_lambda% (skolS ?_) | refine no_implicit_lambda% (skolA ?_)); generalize @skz _ _ _ = dp) | intro dp); (first | ((first | refine no_implicit_lambda% (skol ?_) | refine no_implicit_lambda% (skolW ?_) | refine no_implicit_lambda% (skolL ?_) | refine no_implicit_lambda% (skolS ?_) | refine no_implicit_lambda% (skolA ?_)); generalize @skz _ _ _ = un) | intro un); (first | ((first | refine no_implicit_lambda% (skol ?_) | refine no_implicit_lambda% (skolW ?_) | refine no_implicit_lambda% (skolL ?_) | refine no_implicit_lambda% (skolS ?_) | refine no_implicit_lambda% (skolA ?_)); generalize @skz _ _ _ = gd) | intro gd))
  first | (refine no_implicit_lambda% (skol4 (by first | exact ⟨default⟩ | exact neWorld | exact neShared | exact neAround | exact neLX) (by first | exact ⟨default⟩ | exact neWorld | exact neShared | exact neAround | exact neLX) (by first | exact ⟨default⟩ | exact neWorld | exact neShared | exact neAround | exact neLX) (by first | exact ⟨default⟩ | exact neWorld | exact neShared | exact neAround | exact neLX) ?_); generalize @sk4a _ _ _ _ _ _ _ _ _ = outer; generalize @sk4b _ _ _ _ _ _ _ _ _ = A₀; generalize @sk4c _ _ _ _ _ _ _ _ _ = base; generalize @sk4d _ _ _ _ _ _ _ _ _ = g) | ((first | ((first | refine no_implicit_lambda% (skol ?_) | refine no_implicit_lambda% (skolW ?_) | refine no_implicit_lambda% (skolL ?_) | refine no_implicit_lambda% (skolS ?_) | refine no_implicit_lambda% (skolA ?_)); generalize @skz _ _ _ = outer) | intro outer); (first | ((first | refine no_implicit_lambda% (skol ?_) | refine no_implicit_lambda% (skolW ?_) | refine no_implicit_lambda% (skolL ?_) | refine no_implicit_lambda% (skolS ?_) | refine no_implicit_lambda% (skolA ?_)); generalize @skz _ _ _ = A₀) | intro A₀); (first | ((first | refine no_implicit_lambda% (skol ?_) | refine no_implicit_lambda% (skolW ?_) | refine no_implicit_lambda% (skolL ?_) | refine no_implicit_lambda% (skolS ?_) | refine no_implicit_lambda% (skolA ?_)); generalize @skz _ _ _ = base) | intro base); (first | ((first | refine no_implicit_lambda% (skol ?_) | refine no_implicit_lambda% (skolW ?_) | refine no_implicit_lambda% (skolL ?_) | refine no_implicit_lambda% (skolS ?_) | refine no_implicit_lambda% (skolA ?_)); generalize @skz _ _ _ = g) | intro g))
  first | ((first | refine no_implicit_lambda% (skol ?_) | refine no_implicit_lambda% (skolW ?_) | refine no_implicit_lambda% (skolL ?_) | refine no_implicit_lambda% (skolS ?_) | refine no_implicit_lambda% (skolA ?_)); generalize @skz _ _ _ = h₁) | intro h₁
  first | ((first | refine no_implicit_lambda% (skol ?_) | refine no_implicit_lambda% (skolW ?_) | refine no_implicit_lambda% (skolL ?_) | refine no_implicit_lambda% (skolS ?_) | refine no_implicit_lambda% (skolA ?_)); generalize @skz _ _ _ = L') | intro L'
  first | ((first | refine no_implicit_lambda% (skol ?_) | refine no_implicit_lambda% (skolW ?_) | refine no_implicit_lambda% (skolL ?_) | refine no_implicit_lambda% (skolS ?_) | refine no_implicit_lambda% (skolA ?_)); generalize @skz _ _ _ = s) | intro s
  intro B
  intro F
  intro X
  intro N
  intro T
  intro hd
  intro hu
  intro hp
  have CH := codeHd_io X
  have hrl := hri.length
  k_steps
  refine Hold.mk ?_
  rename Fr _ _ _ _ => F1
  rename News _ _ _ _ => N1
  refine ksw_while (σ := BS) (Function.const _ _) (fun c' => [(Str.ofString "lo", .int c'.lo c'.tlo), (Str.ofString "hi", .int c'.hi c'.thi)]) (fun _ => True) [Str.ofString "mid"]
    (fun c' => SplitAt ri x c'.lo c'.hi) (fun c' => (c'.hi - c'.lo).toNat) ⟨0, ?t1, ri.length, ?t2⟩ F1 N1 trivial ?hk ?hp ?_
  case hk => kst_all
  case hp => exact ⟨Int.le_refl _, by dsimp only; omega, Int.le_refl _, fun i hi => by dsimp only at hi; omega, fun i hi hi2 => by dsimp only at hi; omega⟩
  rintro ⟨lo, tlo, hi, thi⟩ u h tk' _ hS F N
  dsimp only [kstB, List.contains, Function.const] at N F hS
  have hS' := hS
  obtain ⟨hs0, hs1, hs2, hs3, hs4⟩ := hS'
  have hmid : lo < hi → 0 ≤ (lo + hi).fdiv 2 ∧ lo ≤ (lo + hi).fdiv 2 ∧ (lo + hi).fdiv 2 < hi := fun hlt => by
    rw [Int.fdiv_eq_ediv_of_nonneg _ (by decide)]; omega
  k_steps
  · rename lo < hi => hlt
    rename -x < _ => hc
    rename Fr _ _ _ _ => F'
    rename News _ _ _ _ => N'
    obtain ⟨m0, m1, m2⟩ := hmid hlt
    refine ksw_end (σ := BS) ⟨lo, tlo, (lo + hi).fdiv 2, _⟩ F' N' (by dsimp only [Function.const]; kst_in) trivial (by kst_all) (by ksw_same) (split_hi hS hds m1 m2 hc) (by dsimp only; omega)
  · rename lo < hi => hlt
    rename ¬ -x < _ => hc
    rename Fr _ _ _ _ => F'
    rename News _ _ _ _ => N'
    obtain ⟨m0, m1, m2⟩ := hmid hlt
    refine ksw_end (σ := BS) ⟨(lo + hi).fdiv 2 + 1, _, hi, thi⟩ F' N' (by dsimp only [Function.const]; kst_in) trivial (by kst_all) (by ksw_same) (split_lo hS hds m1 m2 hc) (by dsimp only; omega)
  · rename ¬ lo < hi => hn
    rename Fr _ _ _ _ => F'
    rename News _ _ _ _ => N'
    refine Done.intro [_, _, _] [] F' N' (fun _ h => h) (fun _ h => nomatch h) (fun _ h => nomatch h) ?_
    exact ⟨_, ri.take lo.toNat ++ x :: ri.drop lo.toNat, _, rfl, rfl, rfl, (hri.take _).append (.cons _ _ (hri.drop _)), ins_desc hS hn hds, List.perm_middle.trans (by rw [List.take_append_drop])⟩
end Mine
end
section
open PySem PySem.W PyProof.Rows PySem.Calls
set_option maxRecDepth 100000
namespace Mine
local macro_rules | `(tactic| walk_at "call builtin:str.split") => `(tactic| (k_here; refine Hold.out ?_))
theorem map_three {l : List (Str × Tok)} {a b c : Str} (h : l.map (·.1) = [a, b, c]) : ∃ ta tb tc, l = [(a, ta), (b, tb), (c, tc)] := by
  match l, h with
  | [(_, ta), (_, tb), (_, tc)], h =>
    simp only [List.map_cons, List.map_nil, List.cons.injEq, and_true] at h
    obtain ⟨h1, h2, h3⟩ := h
    subst h1 h2 h3
    exact ⟨ta, tb, tc, rfl⟩
theorem map_one1 {l : List (Str × Tok)} {a : Str} (h : l.map (·.1) = [a]) : ∃ ta, l = [(a, ta)] := by
  match l, h with
  | [(_, ta)], h =>
    simp only [List.map_cons, List.map_nil, List.cons.injEq, and_true] at h
    subst h
    exact ⟨ta, rfl⟩
set_option maxHeartbeats 8000000 in
theorem dec3_ctr (w : World) (txt : Str) (tt : Tok) (a b c : Str) (hl : txt.length ≤ 200) (hsp : Txt.splitMax txt (Str.ofString "'") 2 = [a, b, c]) :
   Ctr w 58 [.str txt tt] [] 3 (fun _ => True) []
     (fun r kept new => ∃ D n ta tb tc, r = .ref D ∧ kept = [] ∧ new = [(D, W.listOf [.str a ta, .str b tb, .str c tc].toArray n)]) := by
  w_top off
  revert w txt tt a b c hl hsp
  first | (refine no_implicit_lambda% (skol4 (by first | exact ⟨default⟩ | exact neWorld | exact neShared | exact neAround | exact neLX) (by first | exact ⟨default⟩ | exact neWorld | exact neShared | exact neAround | exact neLX) (by first | exact ⟨default⟩ | exact neWorld | exact neShared | exact neAround | exact neLX) (by first | exact ⟨default⟩ | exact neWorld | exact neShared | exact neAround | exact neLX) ?_); generalize @sk4a _ _ _ _ _ _ _ _ _ = w; generalize @sk4b _ _ _ _ _ _ _ _ _ = txt; generalize @sk4c _ _ _ _ _ _ _ _ _ = tt; generalize @sk4d _ _ _ _ _ _ _ _ _ = a) | ((first | ((first | refine no_implicit_lambda% (skol ?_) | refine no_implicit_lambda% (skolW ?_) | refine no_implicit_lambda% (skolL ?_) | refine no_implicit_lambda% (skolS ?_) | refine no_implicit_lambda% (skolA ?_)); generalize @skz _ _ _ = w) | intro w); (first | ((first | refine no_implicit_lambda% (skol ?_) | refine no_implicit_lambda% (skolW ?_) | refine no_implicit_lambda% (skolL ?_) | refine no_implicit_lambda% (skolS ?_) | refine no_implicit_lambda% (skolA ?_)); generalize @skz _ _ _ = txt) | intro txt); (first | ((first | refine no_implicit_lambda% (skol ?_) | refine no_implicit_lambda% (skolW ?_) | refine no_implicit_lambda% (skolL ?_) | refine no_implicit_lambda% (skolS ?_) | refine no_implicit_lambda% (skolA ?_)); generalize @skz _ _ _ = tt) | intro tt); (first | ((first | refine no_implicit_lambda% (skol ?_) | refine no_implicit_lambda% (skolW ?_) | refine no_implicit_lambda% (skolL ?_) | refine no_implicit_lambda% (skolS ?_) | refine no_implicit_lambda% (skolA ?_)); generalize @skz _ _ _ = a) | intro a))
  first | ((first | refine no_implicit_lambda% (skol ?_) | refine no_implicit_lambda% (skolW ?_) | refine no_implicit_lambda% (skolL ?_) | refine no_implicit_lambda% (skolS ?_) | refine no_implicit_lambda% (skolA ?_)); generalize @skz _ _ _ = b) | intro b
  first | ((first | refine no_implicit_lambda% (skol ?_) | refine no_implicit_lambda% (skolW ?_) | refine no_implicit_lambda% (skolL ?_) | refine no_implicit_lambda% (skolS ?_) | refine no_implicit_lambda% (skolA ?_)); generalize @skz _ _ _ = c) | intro c
  first | ((first | refine no_implicit_lambda% (skol ?_) | refine no_implicit_lambda% (skolW ?_) | refine no_implicit_lambda% (skolL ?_) | refine no_implicit_lambda% (skolS ?_) | refine no_implicit_lambda% (skolA ?_)); generalize @skz _ _ _ = hl) | intro hl
  first | ((first | refine no_implicit_lambda% (skol ?_) | refine no_implicit_lambda% (skolW ?_) | refine no_implicit_lambda% (skolL ?_) | refine no_implicit_lambda% (skolS ?_) | refine no_implicit_lambda% (skolA ?_)); generalize @skz _ _ _ = hsp) | intro hsp
  have hK0 : (fun w : World => Mine.hd0.heap_1_1 w.params, PySem.Challenge.rw_to0042_01) = (fun w : World => Mine.hd0.heap_1_1 w.params, PySem.Challenge.rw_to0042_01) := by (k_fill; rfl)
  clear hK0
  refine' enter_def [("s", .str txt tt)] ?pre ?ho ?hcd ?hb ?hl ?c1 ?c2 ?c3 ?c4 ?_
  case ho => k_is
  case hcd => k_is
  case pre => exact fun _ _ _ _ => trivial
  case hb => exact fun _ _ => BindsTo.of_eq rfl
  case hl => exact locs rfl
  case c1 => rfl
  case c2 => rfl
  case c3 => rfl
  case c4 => decide
  unfold Body
  first | (refine no_implicit_lambda% (skol4 (by first | exact ⟨default⟩ | exact neWorld | exact neShared | exact neAround | exact neLX) (by first | exact ⟨default⟩ | exact neWorld | exact neShared | exact neAround | exact neLX) (by first | exact ⟨default⟩ | exact neWorld | exact neShared | exact neAround | exact neLX) (by first | exact ⟨default⟩ | exact neWorld | exact neShared | exact neAround | exact neLX) ?_); generalize @sk4a _ _ _ _ _ _ _ _ _ = p; generalize @sk4b _ _ _ _ _ _ _ _ _ = loose; generalize @sk4c _ _ _ _ _ _ _ _ _ = mean; generalize @sk4d _ _ _ _ _ _ _ _ _ = mg) | ((first | ((first | refine no_implicit_lambda% (skol ?_) | refine no_implicit_lambda% (skolW ?_) | refine no_implicit_lambda% (skolL ?_) | refine no_implicit_lambda% (skolS ?_) | refine no_implicit_lambda% (skolA ?_)); generalize @skz _ _ _ = p) | intro p); (first | ((first | refine no_implicit_lambda% (skol ?_) | refine no_implicit_lambda% (skolW ?_) | refine no_implicit_lambda% (skolL ?_) | refine no_implicit_lambda% (skolS ?_) | refine no_implicit_lambda% (skolA ?_)); generalize @skz _ _ _ = loose) | intro loose); (first | ((first | refine no_implicit_lambda% (skol ?_) | refine no_implicit_lambda% (skolW ?_) | refine no_implicit_lambda% (skolL ?_) | refine no_implicit_lambda% (skolS ?_) | refine no_implicit_lambda% (skolA ?_)); generalize @skz _ _ _ = mean) | intro mean); (first | ((first | refine no_implicit_lambda% (skol ?_) | refine no_implicit_lambda% (skolW ?_) | refine no_implicit_lambda% (skolL ?_) | refine no_implicit_lambda% (skolS ?_) | refine no_implicit_lambda% (skolA ?_)); generalize @skz _ _ _ = mg) | intro mg))
  first | (refine no_implicit_lambda% (skol4 (by first | exact ⟨default⟩ | exact neWorld | exact neShared | exact neAround | exact neLX) (by first | exact ⟨default⟩ | exact neWorld | exact neShared | exact neAround | exact neLX) (by first | exact ⟨default⟩ | exact neWorld | exact neShared | exact neAround | exact neLX) (by first | exact ⟨default⟩ | exact neWorld | exact neShared | exact neAround | exact neLX) ?_); generalize @sk4a _ _ _ _ _ _ _ _ _ = mb; generalize @sk4b _ _ _ _ _ _ _ _ _ = dp; generalize @sk4c _ _ _ _ _ _ _ _ _ = un; generalize @sk4d _ _ _ _ _ _ _ _ _ = gd) | ((first | ((first | refine no_implicit_lambda% (skol ?_) | refine no_implicit_lambda% (skolW ?_) | refine no_implicit_lambda% (skolL ?_) | refine no_implicit_lambda% (skolS ?_) | refine no_implicit_lambda% (skolA ?_)); generalize @skz _ _ _ = mb) | intro mb); (first | ((first | refine no_implicit_lambda% (skol ?_) | refine no_implicit_lambda% (skolW ?_) | refine no_implicit_lambda% (skolL ?_) | refine no_implicit_lambda% (skolS ?_) | refine no_implicit_lambda% (skolA ?_)); generalize @skz _ _ _ = dp) | intro dp); (first | ((first | refine no_implicit_lambda% (skol ?_) | refine no_implicit_lambda% (skolW ?_) | refine no_implicit_lambda% (skolL ?_) | refine no_implicit_lambda% (skolS ?_) | refine no_implicit_lambda% (skolA ?_)); generalize @skz _ _ _ = un) | intro un); (first | ((first | refine no_implicit_lambda% (skol ?_) | refine no_implicit_lambda% (skolW ?_) | refine no_implicit_lambda% (skolL ?_) | refine no_implicit_lambda% (skolS ?_) | refine no_implicit_lambda% (skolA ?_)); generalize @skz _ _ _ = gd) | intro gd))
  first | (refine no_implicit_lambda% (skol4 (by first | exact ⟨default⟩ | exact neWorld | exact neShared | exact neAround | exact neLX) (by first | exact ⟨default⟩ | exact neWorld | exact neShared | exact neAround | exact neLX) (by first | exact ⟨default⟩ | exact neWorld | exact neShared | exact neAround | exact neLX) (by first | exact ⟨default⟩ | exact neWorld | exact neShared | exact neAround | exact neLX) ?_); generalize @sk4a _ _ _ _ _ _ _ _ _ = outer; generalize @sk4b _ _ _ _ _ _ _ _ _ = A₀; generalize @sk4c _ _ _ _ _ _ _ _ _ = base; generalize @sk4d _ _ _ _ _ _ _ _ _ = g) | ((first | ((first | refine no_implicit_lambda% (skol ?_) | refine no_implicit_lambda% (skolW ?_) | refine no_implicit_lambda% (skolL ?_) | refine no_implicit_lambda% (skolS ?_) | refine no_implicit_lambda% (skolA ?_)); generalize @skz _ _ _ = outer) | intro outer); (first | ((first | refine no_implicit_lambda% (skol ?_) | refine no_implicit_lambda% (skolW ?_) | refine no_implicit_lambda% (skolL ?_) | refine no_implicit_lambda% (skolS ?_) | refine no_implicit_lambda% (skolA ?_)); generalize @skz _ _ _ = A₀) | intro A₀); (first | ((first | refine no_implicit_lambda% (skol ?_) | refine no_implicit_lambda% (skolW ?_) | refine no_implicit_lambda% (skolL ?_) | refine no_implicit_lambda% (skolS ?_) | refine no_implicit_lambda% (skolA ?_)); generalize @skz _ _ _ = base) | intro base); (first | ((first | refine no_implicit_lambda% (skol ?_) | refine no_implicit_lambda% (skolW ?_) | refine no_implicit_lambda% (skolL ?_) | refine no_implicit_lambda% (skolS ?_) | refine no_implicit_lambda% (skolA ?_)); generalize @skz _ _ _ = g) | intro g))
  first | ((first | refine no_implicit_lambda% (skol ?_) | refine no_implicit_lambda% (skolW ?_) | refine no_implicit_lambda% (skolL ?_) | refine no_implicit_lambda% (skolS ?_) | refine no_implicit_lambda% (skolA ?_)); generalize @skz _ _ _ = h₁) | intro h₁
  first | ((first | refine no_implicit_lambda% (skol ?_) | refine no_implicit_lambda% (skolW ?_) | refine no_implicit_lambda% (skolL ?_) | refine no_implicit_lambda% (skolS ?_) | refine no_implicit_lambda% (skolA ?_)); generalize @skz _ _ _ = L') | intro L'
  first | ((first | refine no_implicit_lambda% (skol ?_) | refine no_implicit_lambda% (skolW ?_) | refine no_implicit_lambda% (skolL ?_) | refine no_implicit_lambda% (skolS ?_) | refine no_implicit_lambda% (skolA ?_)); generalize @skz _ _ _ = s) | intro s
  intro B
  intro F
  intro X
  intro N
  intro T
  intro hd
  intro hu
  intro hp
  k_steps
  refine Hold.mk ?_
  rename Fr _ _ _ _ => F1
  rename News _ _ _ _ => N1
  refine splitN2A F1 N1 rfl rfl ?_ (by rw [PySem.sizeLine_eq]; omega)
  intro l h' tk5 hl5 _ _ _ F2 N2
  rw [hsp] at hl5
  obtain ⟨ta, tb, tc, rfl⟩ := map_three hl5
  change News _ _ _ [(_, W.listOf [.str a ta, .str b tb, .str c tc].toArray 0)] at N2
  k_steps
  rename Fr _ _ _ _ => F4
  rename News _ _ _ _ => N4
  try dsimp only
  refine Done.intro [] [(_, W.listOf [.str a ta, .str b tb, .str c tc].toArray 0)] F4 N4 (fun _ h => nomatch h) (by k_all) (fun _ _ _ h => nomatch h) ?_
  exact ⟨_, _, ta, tb, tc, rfl, rfl, rfl⟩
set_option maxHeartbeats 8000000 in
theorem dec1_ctr (w : World) (txt : Str) (tt : Tok) (a : Str) (hl : txt.length ≤ 200) (hsp : Txt.splitMax txt (Str.ofString "'") 2 = [a]) :
   Ctr w 58 [.str txt tt] [] 3 (fun _ => True) []
     (fun r kept new => ∃ D, r = .ref D ∧ kept = [] ∧ new = [(D, { cls := .type "tuple", data := .seq #[.none, .none, .str txt tt] })]) := by
  w_top off
  revert w txt tt a hl hsp
  first | (refine no_implicit_lambda% (skol4 (by first | exact ⟨default⟩ | exact neWorld | exact neShared | exact neAround | exact neLX) (by first | exact ⟨default⟩ | exact neWorld | exact neShared | exact neAround | exact neLX) (by first | exact ⟨default⟩ | exact neWorld | exact neShared | exact neAround | exact neLX) (by first | exact ⟨default⟩ | exact neWorld | exact neShared | exact neAround | exact neLX) ?_); generalize @sk4a _ _ _ _ _ _ _ _ _ = w; generalize @sk4b _ _ _ _ _ _ _ _ _ = txt; generalize @sk4c _ _ _ _ _ _ _ _ _ = tt; generalize @sk4d _ _ _ _ _ _ _ _ _ = a) | ((first | ((first | refine no_implicit_lambda% (skol ?_) | refine no_implicit_lambda% (skolW ?_) | refine no_implicit_lambda% (skolL ?_) | refine no_implicit_lambda% (skolS ?_) | refine no_implicit_lambda% (skolA ?_)); generalize @skz _ _ _ = w) | intro w); (first | ((first | refine no_implicit_lambda% (skol ?_) | refine no_implicit_lambda% (skolW ?_) | refine no_implicit_lambda% (skolL ?_) | refine no_implicit_lambda% (skolS ?_) | refine no_implicit_lambda% (skolA ?_)); generalize @skz _ _ _ = txt) | intro txt); (first | ((first | refine no_implicit_lambda% (skol ?_) | refine no_implicit_lambda% (skolW ?_) | refine no_implicit_lambda% (skolL ?_) | refine no_implicit_lambda% (skolS ?_) | refine no_implicit_lambda% (skolA ?_)); generalize @skz _ _ _ = tt) | intro tt); (first | ((first | refine no_implicit_lambda% (skol ?_) | refine no_implicit_lambda% (skolW ?_) | refine no_implicit_lambda% (skolL ?_) | refine no_implicit_lambda% (skolS ?_) | refine no_implicit_lambda% (skolA ?_)); generalize @skz _ _ _ = a) | intro a))
  first | ((first | refine no_implicit_lambda% (skol ?_) | refine no_implicit_lambda% (skolW ?_) | refine no_implicit_lambda% (skolL ?_) | refine no_implicit_lambda% (skolS ?_) | refine no_implicit_lambda% (skolA ?_)); generalize @skz _ _ _ = hl) | intro hl
  first | ((first | refine no_implicit_lambda% (skol ?_) | refine no_implicit_lambda% (skolW ?_) | refine no_implicit_lambda% (skolL ?_) | refine no_implicit_lambda% (skolS ?_) | refine no_implicit_lambda% (skolA ?_)); generalize @skz _ _ _ = hsp) | intro hsp
  have hK0 : (fun w : World => Mine.hd0.heap_1_1 w.params, PySem.Challenge.rw_to0042_01) = (fun w : World => Mine.hd0.heap_1_1 w.params, PySem.Challenge.rw_to0042_01) := by (k_fill; rfl)
  clear hK0
  refine' enter_def [("s", .str txt tt)] ?pre ?ho ?hcd ?hb ?hl ?c1 ?c2 ?c3 ?c4 ?_
  case ho => k_is
  case hcd => k_is
  case pre => exact fun _ _ _ _ => trivial
  case hb => exact fun _ _ => BindsTo.of_eq rfl
  case hl => exact locs rfl
  case c1 => rfl
  case c2 => rfl
  case c3 => rfl
  case c4 => decide
  unfold Body
  first | (refine no_implicit_lambda% (skol4 (by first | exact ⟨default⟩ | exact neWorld | exact neShared | exact neAround | exact neLX) (by first | exact ⟨default⟩ | exact neWorld | exact neShared | exact neAround | exact neLX) (by first | exact ⟨default⟩ | exact neWorld | exact neShared | exact neAround | exact neLX) (by first | exact ⟨default⟩ | exact neWorld | exact neShared | exact neAround | exact neLX) ?_); generalize @sk4a _ _ _ _ _ _ _ _ _ = p; generalize @sk4b _ _ _ _ _ _ _ _ _ = loose; generalize @sk4c _ _ _ _ _ _ _ _ _ = mean; generalize @sk4d _ _ _ _ _ _ _ _ _ = mg) | ((first | ((first | refine no_implicit_lambda% (skol ?_) | refine no_implicit_lambda% (skolW ?_) | refine no_implicit_lambda% (skolL ?_) | refine no_implicit_lambda% (skolS ?_) | refine no_implicit_lambda% (skolA ?_)); generalize @skz _ _ _ = p) | intro p); (first | ((first | refine no_implicit_lambda% (skol ?_) | refine no_implicit_lambda% (skolW ?_) | refine no_implicit_lambda% (skolL ?_) | refine no_implicit_lambda% (skolS ?_) | refine no_implicit_lambda% (skolA ?_)); generalize @skz _ _ _ = loose) | intro loose); (first | ((first | refine no_implicit_lambda% (skol ?_) | refine no_implicit_lambda% (skolW ?_) | refine no_implicit_lambda% (skolL ?_) | refine no_implicit_lambda% (skolS ?_) | refine no_implicit_lambda% (skolA ?_)); generalize @skz _ _ _ = mean) | intro mean); (first | ((first | refine no_implicit_lambda% (skol ?_) | refine no_implicit_lambda% (skolW ?_) | refine no_implicit_lambda% (skolL ?_) | refine no_implicit_lambda% (skolS ?_) | refine no_implicit_lambda% (skolA ?_)); generalize @skz _ _ _ = mg) | intro mg))
  first | (refine no_implicit_lambda% (skol4 (by first | exact ⟨default⟩ | exact neWorld | exact neShared | exact neAround | exact neLX) (by first | exact ⟨default⟩ | exact neWorld | exact neShared | exact neAround | exact neLX) (by first | exact ⟨default⟩ | exact neWorld | exact neShared | exact neAround | exact neLX) (by first | exact ⟨default⟩ | exact neWorld | exact neShared | exact neAround | exact neLX) ?_); generalize @sk4a _ _ _ _ _ _ _ _ _ = mb; generalize @sk4b _ _ _ _ _ _ _ _ _ = dp; generalize @sk4c _ _ _ _ _ _ _ _ _ = un; generalize @sk4d _ _ _ _ _ _ _ _ _ = gd) | ((first | ((first | refine no_implicit_lambda% (skol ?_) | refine no_implicit_lambda% (skolW ?_) | refine no_implicit_lambda% (skolL ?_) | refine no_implicit_lambda% (skolS ?_) | refine no_implicit_lambda% (skolA ?_)); generalize @skz _ _ _ = mb) | intro mb); (first | ((first | refine no_implicit_lambda% (skol ?_) | refine no_implicit_lambda% (skolW ?_) | refine no_implicit_lambda% (skolL ?_) | refine no_implicit_lambda% (skolS ?_) | refine no_implicit_lambda% (skolA ?_)); generalize @skz _ _ _ = dp) | intro dp); (first | ((first | refine no_implicit_lambda% (skol ?_) | refine no_implicit_lambda% (skolW ?_) | refine no_implicit_lambda% (skolL ?_) | refine no_implicit_lambda% (skolS ?_) | refine no_implicit_lambda% (skolA ?_)); generalize @skz _ _ _ = un) | intro un); (first | ((first | refine no_implicit_lambda% (skol ?_) | refine no_implicit_lambda% (skolW ?_) | refine no_implicit_lambda% (skolL ?_) | refine no_implicit_lambda% (skolS ?_) | refine no_implicit_lambda% (skolA ?_)); generalize @skz _ _ _ = gd) | intro gd))
  first | (refine no_implicit_lambda% (skol4 (by first | exact ⟨default⟩ | exact neWorld | exact neShared | exact neAround | exact neLX) (by first | exact ⟨default⟩ | exact neWorld | exact neShared | exact neAround | exact neLX) (by first | exact ⟨default⟩ | exact neWorld | exact neShared | exact neAround | exact neLX) (by first | exact ⟨default⟩ | exact neWorld | exact neShared | exact neAround | exact neLX) ?_); generalize @sk4a _ _ _ _ _ _ _ _ _ = outer; generalize @sk4b _ _ _ _ _ _ _ _ _ = A₀; generalize @sk4c _ _ _ _ _ _ _ _ _ = base; generalize @sk4d _ _ _ _ _ _ _ _ _ = g) | ((first | ((first | refine no_implicit_lambda% (skol ?_) | refine no_implicit_lambda% (skolW ?_) | refine no_implicit_lambda% (skolL ?_) | refine no_implicit_lambda% (skolS ?_) | refine no_implicit_lambda% (skolA ?_)); generalize @skz _ _ _ = outer) | intro outer); (first | ((first | refine no_implicit_lambda% (skol ?_) | refine no_implicit_lambda% (skolW ?_) | refine no_implicit_lambda% (skolL ?_) | refine no_implicit_lambda% (skolS ?_) | refine no_implicit_lambda% (skolA ?_)); generalize @skz _ _ _ = A₀) | intro A₀); (first | ((first | refine no_implicit_lambda% (skol ?_) | refine no_implicit_lambda% (skolW ?_) | refine no_implicit_lambda% (skolL ?_) | refine no_implicit_lambda% (skolS ?_) | refine no_implicit_lambda% (skolA ?_)); generalize @skz _ _ _ = base) | intro base); (first | ((first | refine no_implicit_lambda% (skol ?_) | refine no_implicit_lambda% (skolW ?_) | refine no_implicit_lambda% (skolL ?_) | refine no_implicit_lambda% (skolS ?_) | refine no_implicit_lambda% (skolA ?_)); generalize @skz _ _ _ = g) | intro g))
  first | ((first | refine no_implicit_lambda% (skol ?_) | refine no_implicit_lambda% (skolW ?_) | refine no_implicit_lambda% (skolL ?_) | refine no_implicit_lambda% (skolS ?_) | refine no_implicit_lambda% (skolA ?_)); generalize @skz _ _ _ = h₁) | intro h₁
  first | ((first | refine no_implicit_lambda% (skol ?_) | refine no_implicit_lambda% (skolW ?_) | refine no_implicit_lambda% (skolL ?_) | refine no_implicit_lambda% (skolS ?_) | refine no_implicit_lambda% (skolA ?_)); generalize @skz _ _ _ = L') | intro L'
  first | ((first | refine no_implicit_lambda% (skol ?_) | refine no_implicit_lambda% (skolW ?_) | refine no_implicit_lambda% (skolL ?_) | refine no_implicit_lambda% (skolS ?_) | refine no_implicit_lambda% (skolA ?_)); generalize @skz _ _ _ = s) | intro s
  intro B
  intro F
  intro X
  intro N
  intro T
  intro hd
  intro hu
  intro hp
  k_steps
  refine Hold.mk ?_
  rename Fr _ _ _ _ => F1
  rename News _ _ _ _ => N1
  refine splitN2A F1 N1 rfl rfl ?_ (by rw [PySem.sizeLine_eq]; omega)
  intro l h' tk5 hl5 _ _ _ F2 N2
  rw [hsp] at hl5
  obtain ⟨ta, rfl⟩ := map_one1 hl5
  change News _ _ _ [(_, W.listOf [.str a ta].toArray 0)] at N2
  k_steps
  rename Fr _ _ _ _ => F4
  rename News _ _ _ _ => N4
  try dsimp only
  refine Done.intro [] [(_, { cls := .type "tuple", data := .seq #[.none, .none, .str txt tt] })] F4 N4 (fun _ h => nomatch h) (by k_all) (fun _ _ _ h => nomatch h) ?_
  exact ⟨_, rfl, rfl, rfl⟩
end Mine
end
section
open PySem PySem.W PyProof.Rows PySem.Calls
set_option maxRecDepth 100000
namespace Mine
local macro_rules | `(tactic| walk_at "zz") => `(tactic| skip)
local macro_rules | `(tactic| walk_at "call ref") => `(tactic| (k_here; (with_reducible show wpAny _ _ (call (Value.ref 58) _ _) _ _ _); k_dflt (refine' ctr_useA (dec1_ctr _ _ _ _ ?h1 ?h2) ?k1 ?k2 ?_; (case k1 => k_all); (case k2 => k_all); (case h2 => assumption); (case h1 => assumption)); intro r kept new h' tk' F' N' hpost; (obtain ⟨D', e1, e2, e3⟩ := hpost); subst e1 e2 e3; o_facts N'))
set_option maxHeartbeats 8000000 in
theorem told1_ctr (w : World) (h : Int) (tt : Tok) (room : Int) (tr : Tok) (h0 : 0 ≤ h) (h9 : h < 100) (hl : (Str.ofString (toString h)).length ≤ 200) (hne : Str.ofString (toString h) ≠ Str.ofString "") (hsp : Txt.splitMax (Str.ofString (toString h)) (Str.ofString "'") 2 = [Str.ofString (toString h)]) :
   Ctr w 145 [.str (Str.ofString (toString h)) tt, .int room tr] [] 8 (fun _ => True) []
     (fun r kept new => ∃ D hv n, r = .ref D ∧ kept = [] ∧ new = [(D, W.listOf hv.toArray n)] ∧ IntsAre hv (List.replicate h.toNat 1)) := by
  w_top off
  revert w h tt room tr h0 h9 hl hne hsp
  first | (refine no_implicit_lambda% (skol4 (by first | exact ⟨default⟩ | exact neWorld | exact neShared | exact neAround | exact neLX) (by first | exact ⟨default⟩ | exact neWorld | exact neShared | exact neAround | exact neLX) (by first | exact ⟨default⟩ | exact neWorld | exact neShared | exact neAround | exact neLX) (by first | exact ⟨default⟩ | exact neWorld | exact neShared | exact neAround | exact neLX) ?_); generalize @sk4a _ _ _ _ _ _ _ _ _ = w; generalize @sk4b _ _ _ _ _ _ _ _ _ = h; generalize @sk4c _ _ _ _ _ _ _ _ _ = tt; generalize @sk4d _ _ _ _ _ _ _ _ _ = room) | ((first | ((first | refine no_implicit_lambda% (skol ?_) | refine no_implicit_lambda% (skolW ?_) | refine no_implicit_lambda% (skolL ?_) | refine no_implicit_lambda% (skolS ?_) | refine no_implicit_lambda% (skolA ?_)); generalize @skz _ _ _ = w) | intro w); (first | ((first | refine no_implicit_lambda% (skol ?_) | refine no_implicit_lambda% (skolW ?_) | refine no_implicit_lambda% (skolL ?_) | refine no_implicit_lambda% (skolS ?_) | refine no_implicit_lambda% (skolA ?_)); generalize @skz _ _ _ = h) | intro h); (first | ((first | refine no_implicit_lambda% (skol ?_) | refine no_implicit_lambda% (skolW ?_) | refine no_implicit_lambda% (skolL ?_) | refine no_implicit_lambda% (skolS ?_) | refine no_implicit_lambda% (skolA ?_)); generalize @skz _ _ _ = tt) | intro tt); (first | ((first | refine no_implicit_lambda% (skol ?_) | refine no_implicit_lambda% (skolW ?_) | refine no_implicit_lambda% (skolL ?_) | refine no_implicit_lambda% (skolS ?_) | refine no_implicit_lambda% (skolA ?_)); generalize @skz _ _ _ = room) | intro room))
  first | ((first | refine no_implicit_lambda% (skol ?_) | refine no_implicit_lambda% (skolW ?_) | refine no_implicit_lambda% (skolL ?_) | refine no_implicit_lambda% (skolS ?_) | refine no_implicit_lambda% (skolA ?_)); generalize @skz _ _ _ = tr) | intro tr
  first | ((first | refine no_implicit_lambda% (skol ?_) | refine no_implicit_lambda% (skolW ?_) | refine no_implicit_lambda% (skolL ?_) | refine no_implicit_lambda% (skolS ?_) | refine no_implicit_lambda% (skolA ?_)); generalize @skz _ _ _ = h0) | intro h0
  first | ((first | refine no_implicit_lambda% (skol ?_) | refine no_implicit_lambda% (skolW ?_) | refine no_implicit_lambda% (skolL ?_) | refine no_implicit_lambda% (skolS ?_) | refine no_implicit_lambda% (skolA ?_)); generalize @skz _ _ _ = h9) | intro h9
  first | ((first | refine no_implicit_lambda% (skol ?_) | refine no_implicit_lambda% (skolW ?_) | refine no_implicit_lambda% (skolL ?_) | refine no_implicit_lambda% (skolS ?_) | refine no_implicit_lambda% (skolA ?_)); generalize @skz _ _ _ = hl) | intro hl
  first | ((first | refine no_implicit_lambda% (skol ?_) | refine no_implicit_lambda% (skolW ?_) | refine no_implicit_lambda% (skolL ?_) | refine no_implicit_lambda% (skolS ?_) | refine no_implicit_lambda% (skolA ?_)); generalize @skz _ _ _ = hne) | intro hne
  first | ((first | refine no_implicit_lambda% (skol ?_) | refine no_implicit_lambda% (skolW ?_) | refine no_implicit_lambda% (skolL ?_) | refine no_implicit_lambda% (skolS ?_) | refine no_implicit_lambda% (skolA ?_)); generalize @skz _ _ _ = hsp) | intro hsp
  have hK0 : (fun w : World => Mine.hd0.heap_1_1 w.params, PySem.Challenge.rw_to0042_01) = (fun w : World => Mine.hd0.heap_1_1 w.params, PySem.Challenge.rw_to0042_01) := by (k_fill; rfl)
  clear hK0
  refine' enter_def [("text", .str (Str.ofString (toString h)) tt), ("room", .int room tr)] ?pre ?ho ?hcd ?hb ?hl ?c1 ?c2 ?c3 ?c4 ?_
  case ho => k_is
  case hcd => k_is
  case pre => exact fun _ _ _ _ => trivial
  case hb => exact fun _ _ => BindsTo.of_eq rfl
  case hl => exact locs rfl
  case c1 => rfl
  case c2 => rfl
  case c3 => rfl
  case c4 => decide
  unfold Body
  first | (refine no_implicit_lambda% (skol4 (by first | exact ⟨default⟩ | exact neWorld | exact neShared | exact neAround | exact neLX) (by first | exact ⟨default⟩ | exact neWorld | exact neShared | exact neAround | exact neLX) (by first | exact ⟨default⟩ | exact neWorld | exact neShared | exact neAround | exact neLX) (by first | exact ⟨default⟩ | exact neWorld | exact neShared | exact neAround | exact neLX) ?_); generalize @sk4a _ _ _ _ _ _ _ _ _ = p; generalize @sk4b _ _ _ _ _ _ _ _ _ = loose; generalize @sk4c _ _ _ _ _ _ _ _ _ = mean; generalize @sk4d _ _ _ _ _ _ _ _ _ = mg) | ((first | ((first | refine no_implicit_lambda% (skol ?_) | refine no_implicit_lambda% (skolW ?_) | refine no_implicit_lambda% (skolL ?_) | refine no_implicit_lambda% (skolS ?_) | refine no_implicit_lambda% (skolA ?_)); generalize @skz _ _ _ = p) | intro p); (first | ((first | refine no_implicit_lambda% (skol ?_) | refine no_implicit_lambda% (skolW ?_) | refine no_implicit_lambda% (skolL ?_) | refine no_implicit_lambda% (skolS ?_) | refine no_implicit_lambda% (skolA ?_)); generalize @skz _ _ _ = loose) | intro loose); (first | ((first | refine no_implicit_lambda% (skol ?_) | refine no_implicit_lambda% (skolW ?_) | refine no_implicit_lambda% (skolL ?_) | refine no_implicit_lambda% (skolS ?_) | refine no_implicit_lambda% (skolA ?_)); generalize @skz _ _ _ = mean) | intro mean); (first | ((first | refine no_implicit_lambda% (skol ?_) | refine no_implicit_lambda% (skolW ?_) | refine no_implicit_lambda% (skolL ?_) | refine no_implicit_lambda% (skolS ?_) | refine no_implicit_lambda% (skolA ?_)); generalize @skz _ _ _ = mg) | intro mg))
  first | (refine no_implicit_lambda% (skol4 (by first | exact ⟨default⟩ | exact neWorld | exact neShared | exact neAround | exact neLX) (by first | exact ⟨default⟩ | exact neWorld | exact neShared | exact neAround | exact neLX) (by first | exact ⟨default⟩ | exact neWorld | exact neShared | exact neAround | exact neLX) (by first | exact ⟨default⟩ | exact neWorld | exact neShared | exact neAround | exact neLX) ?_); generalize @sk4a _ _ _ _ _ _ _ _ _ = mb; generalize @sk4b _ _ _ _ _ _ _ _ _ = dp; generalize @sk4c _ _ _ _ _ _ _ _ _ = un; generalize @sk4d _ _ _ _ _ _ _ _ _ = gd) | ((first | ((first | refine no_implicit_lambda% (skol ?_) | refine no_implicit_lambda% (skolW ?_) | refine no_implicit_lambda% (skolL ?_) | refine no_implicit_lambda% (skolS ?_) | refine no_implicit_lambda% (skolA ?_)); generalize @skz _ _ _ = mb) | intro mb); (first | ((first | refine no_implicit_lambda% (skol ?_) | refine no_implicit_lambda% (skolW ?_) | refine no_implicit_lambda% (skolL ?_) | refine no_implicit_lambda% (skolS ?_) | refine no_implicit_lambda% (skolA ?_)); generalize @skz _ _ _ = dp) | intro dp); (first | ((first | refine no_implicit_lambda% (skol ?_) | refine no_implicit_lambda% (skolW ?_) | refine no_implicit_lambda% (skolL ?_) | refine no_implicit_lambda% (skolS ?_) | refine no_implicit_lambda% (skolA ?_)); generalize @skz _ _ _ = un) | intro un); (first | ((first | refine no_implicit_lambda% (skol ?_) | refine no_implicit_lambda% (skolW ?_) | refine no_implicit_lambda% (skolL ?_) | refine no_implicit_lambda% (skolS ?_) | refine no_implicit_lambda% (skolA ?_)); generalize @skz _ _ _ = gd) | intro gd))
  first | (refine no_implicit_lambda% (skol4 (by first | exact ⟨default⟩ | exact neWorld | exact neShared | exact neAround | exact neLX) (by first | exact ⟨default⟩ | exact neWorld | exact neShared | exact neAround | exact neLX) (by first | exact ⟨default⟩ | exact neWorld | exact neShared | exact neAround | exact neLX) (by first | exact ⟨default⟩ | exact neWorld | exact neShared | exact neAround | exact neLX) ?_); generalize @sk4a _ _ _ _ _ _ _ _ _ = outer; generalize @sk4b _ _ _ _ _ _ _ _ _ = A₀; generalize @sk4c _ _ _ _ _ _ _ _ _ = base; generalize @sk4d _ _ _ _ _ _ _ _ _ = g) | ((first | ((first | refine no_implicit_lambda% (skol ?_) | refine no_implicit_lambda% (skolW ?_) | refine no_implicit_lambda% (skolL ?_) | refine no_implicit_lambda% (skolS ?_) | refine no_implicit_lambda% (skolA ?_)); generalize @skz _ _ _ = outer) | intro outer); (first | ((first | refine no_implicit_lambda% (skol ?_) | refine no_implicit_lambda% (skolW ?_) | refine no_implicit_lambda% (skolL ?_) | refine no_implicit_lambda% (skolS ?_) | refine no_implicit_lambda% (skolA ?_)); generalize @skz _ _ _ = A₀) | intro A₀); (first | ((first | refine no_implicit_lambda% (skol ?_) | refine no_implicit_lambda% (skolW ?_) | refine no_implicit_lambda% (skolL ?_) | refine no_implicit_lambda% (skolS ?_) | refine no_implicit_lambda% (skolA ?_)); generalize @skz _ _ _ = base) | intro base); (first | ((first | refine no_implicit_lambda% (skol ?_) | refine no_implicit_lambda% (skolW ?_) | refine no_implicit_lambda% (skolL ?_) | refine no_implicit_lambda% (skolS ?_) | refine no_implicit_lambda% (skolA ?_)); generalize @skz _ _ _ = g) | intro g))
  first | ((first | refine no_implicit_lambda% (skol ?_) | refine no_implicit_lambda% (skolW ?_) | refine no_implicit_lambda% (skolL ?_) | refine no_implicit_lambda% (skolS ?_) | refine no_implicit_lambda% (skolA ?_)); generalize @skz _ _ _ = h₁) | intro h₁
  first | ((first | refine no_implicit_lambda% (skol ?_) | refine no_implicit_lambda% (skolW ?_) | refine no_implicit_lambda% (skolL ?_) | refine no_implicit_lambda% (skolS ?_) | refine no_implicit_lambda% (skolA ?_)); generalize @skz _ _ _ = L') | intro L'
  first | ((first | refine no_implicit_lambda% (skol ?_) | refine no_implicit_lambda% (skolW ?_) | refine no_implicit_lambda% (skolL ?_) | refine no_implicit_lambda% (skolS ?_) | refine no_implicit_lambda% (skolA ?_)); generalize @skz _ _ _ = s) | intro s
  intro B
  intro F
  intro X
  intro N
  intro T
  intro hd
  intro hu
  intro hp
  k_steps
  · rename Fr _ _ _ _ => F4
    rename News _ _ _ _ => N4
    rename IntsAre _ _ => hi4
    rw [List.flatten_replicate_singleton (a := (1 : Int))] at hi4
    refine Done.intro [] [(_, W.listOf _ 0)] F4 N4 (fun _ h => nomatch h) (by k_all) (fun _ _ _ h => nomatch h) ?_
    exact ⟨_, _, _, rfl, rfl, rfl, hi4⟩
  · rename (_ != _) = false => hb
    exact absurd (by simpa using hb) hne
set_option maxHeartbeats 8000000 in
theorem told0_ctr (w : World) (tt : Tok) (room : Int) (tr : Tok) (hl : (Str.ofString "").length ≤ 200) (hsp : Txt.splitMax (Str.ofString "") (Str.ofString "'") 2 = [Str.ofString ""]) :
   Ctr w 145 [.str (Str.ofString "") tt, .int room tr] [] 8 (fun _ => True) []
     (fun r kept new => ∃ D hv n, r = .ref D ∧ kept = [] ∧ new = [(D, W.listOf hv.toArray n)] ∧ IntsAre hv []) := by
  w_top off
  revert w tt room tr hl hsp
  first | (refine no_implicit_lambda% (skol4 (by first | exact ⟨default⟩ | exact neWorld | exact neShared | exact neAround | exact neLX) (by first | exact ⟨default⟩ | exact neWorld | exact neShared | exact neAround | exact neLX) (by first | exact ⟨default⟩ | exact neWorld | exact neShared | exact neAround | exact neLX) (by first | exact ⟨default⟩ | exact neWorld | exact neShared | exact neAround | exact neLX) ?_); generalize @sk4a _ _ _ _ _ _ _ _ _ = w; generalize @sk4b _ _ _ _ _ _ _ _ _ = tt; generalize @sk4c _ _ _ _ _ _ _ _ _ = room; generalize @sk4d _ _ _ _ _ _ _ _ _ = tr) | ((first | ((first | refine no_implicit_lambda% (skol ?_) | refine no_implicit_lambda% (skolW ?_) | refine no_implicit_lambda% (skolL ?_) | refine no_implicit_lambda% (skolS ?_) | refine no_implicit_lambda% (skolA ?_)); generalize @skz _ _ _ = w) | intro w); (first | ((first | refine no_implicit_lambda% (skol ?_) | refine no_implicit_lambda% (skolW ?_) | refine no_implicit_lambda% (skolL ?_) | refine no_implicit_lambda% (skolS ?_) | refine no_implicit_lambda% (skolA ?_)); generalize @skz _ _ _ = tt) | intro tt); (first | ((first | refine no_implicit_lambda% (skol ?_) | refine no_implicit_lambda% (skolW ?_) | refine no_implicit_lambda% (skolL ?_) | refine no_implicit_lambda% (skolS ?_) | refine no_implicit_lambda% (skolA ?_)); generalize @skz _ _ _ = room) | intro room); (first | ((first | refine no_implicit_lambda% (skol ?_) | refine no_implicit_lambda% (skolW ?_) | refine no_implicit_lambda% (skolL ?_) | refine no_implicit_lambda% (skolS ?_) | refine no_implicit_lambda% (skolA ?_)); generalize @skz _ _ _ = tr) | intro tr))
  first | ((first | refine no_implicit_lambda% (skol ?_) | refine no_implicit_lambda% (skolW ?_) | refine no_implicit_lambda% (skolL ?_) | refine no_implicit_lambda% (skolS ?_) | refine no_implicit_lambda% (skolA ?_)); generalize @skz _ _ _ = hl) | intro hl
  first | ((first | refine no_implicit_lambda% (skol ?_) | refine no_implicit_lambda% (skolW ?_) | refine no_implicit_lambda% (skolL ?_) | refine no_implicit_lambda% (skolS ?_) | refine no_implicit_lambda% (skolA ?_)); generalize @skz _ _ _ = hsp) | intro hsp
  have hK0 : (fun w : World => Mine.hd0.heap_1_1 w.params, PySem.Challenge.rw_to0042_01) = (fun w : World => Mine.hd0.heap_1_1 w.params, PySem.Challenge.rw_to0042_01) := by (k_fill; rfl)
  clear hK0
  refine' enter_def [("text", .str (Str.ofString "") tt), ("room", .int room tr)] ?pre ?ho ?hcd ?hb ?hl ?c1 ?c2 ?c3 ?c4 ?_
  case ho => k_is
  case hcd => k_is
  case pre => exact fun _ _ _ _ => trivial
  case hb => exact fun _ _ => BindsTo.of_eq rfl
  case hl => exact locs rfl
  case c1 => rfl
  case c2 => rfl
  case c3 => rfl
  case c4 => decide
  unfold Body
  first | (refine no_implicit_lambda% (skol4 (by first | exact ⟨default⟩ | exact neWorld | exact neShared | exact neAround | exact neLX) (by first | exact ⟨default⟩ | exact neWorld | exact neShared | exact neAround | exact neLX) (by first | exact ⟨default⟩ | exact neWorld | exact neShared | exact neAround | exact neLX) (by first | exact ⟨default⟩ | exact neWorld | exact neShared | exact neAround | exact neLX) ?_); generalize @sk4a _ _ _ _ _ _ _ _ _ = p; generalize @sk4b _ _ _ _ _ _ _ _ _ = loose; generalize @sk4c _ _ _ _ _ _ _ _ _ = mean; generalize @sk4d _ _ _ _ _ _ _ _ _ = mg) | ((first | ((first | refine no_implicit_lambda% (skol ?_) | refine no_implicit_lambda% (skolW ?_) | refine no_implicit_lambda% (skolL ?_) | refine no_implicit_lambda% (skolS ?_) | refine no_implicit_lambda% (skolA ?_)); generalize @skz _ _ _ = p) | intro p); (first | ((first | refine no_implicit_lambda% (skol ?_) | refine no_implicit_lambda% (skolW ?_) | refine no_implicit_lambda% (skolL ?_) | refine no_implicit_lambda% (skolS ?_) | refine no_implicit_lambda% (skolA ?_)); generalize @skz _ _ _ = loose) | intro loose); (first | ((first | refine no_implicit_lambda% (skol ?_) | refine no_implicit_lambda% (skolW ?_) | refine no_implicit_lambda% (skolL ?_) | refine no_implicit_lambda% (skolS ?_) | refine no_implicit_lambda% (skolA ?_)); generalize @skz _ _ _ = mean) | intro mean); (first | ((first | refine no_implicit_lambda% (skol ?_) | refine no_implicit_lambda% (skolW ?_) | refine no_implicit_lambda% (skolL ?_) | refine no_implicit_lambda% (skolS ?_) | refine no_implicit_lambda% (skolA ?_)); generalize @skz _ _ _ = mg) | intro mg))
  first | (refine no_implicit_lambda% (skol4 (by first | exact ⟨default⟩ | exact neWorld | exact neShared | exact neAround | exact neLX) (by first | exact ⟨default⟩ | exact neWorld | exact neShared | exact neAround | exact neLX) (by first | exact ⟨default⟩ | exact neWorld | exact neShared | exact neAround | exact neLX) (by first | exact ⟨default⟩ | exact neWorld | exact neShared | exact neAround | exact neLX) ?_); generalize @sk4a _ _ _ _ _ _ _ _ _ = mb; generalize @sk4b _ _ _ _ _ _ _ _ _ = dp; generalize @sk4c _ _ _ _ _ _ _ _ _ = un; generalize @sk4d _ _ _ _ _ _ _ _ _ = gd) | ((first | ((first | refine no_implicit_lambda% (skol ?_) | refine no_implicit_lambda% (skolW ?_) | refine no_implicit_lambda% (skolL ?_) | refine no_implicit_lambda% (skolS ?_) | refine no_implicit_lambda% (skolA ?_)); generalize @skz _ _ _ = mb) | intro mb); (first | ((first | refine no_implicit_lambda% (skol ?_) | refine no_implicit_lambda% (skolW ?_) | refine no_implicit_lambda% (skolL ?_) | refine no_implicit_lambda% (skolS ?_) | refine no_implicit_lambda% (skolA ?_)); generalize @skz _ _ _ = dp) | intro dp); (first | ((first | refine no_implicit_lambda% (skol ?_) | refine no_implicit_lambda% (skolW ?_) | refine no_implicit_lambda% (skolL ?_) | refine no_implicit_lambda% (skolS ?_) | refine no_implicit_lambda% (skolA ?_)); generalize @skz _ _ _ = un) | intro un); (first | ((first | refine no_implicit_lambda% (skol ?_) | refine no_implicit_lambda% (skolW ?_) | refine no_implicit_lambda% (skolL ?_) | refine no_implicit_lambda% (skolS ?_) | refine no_implicit_lambda% (skolA ?_)); generalize @skz _ _ _ = gd) | intro gd))
  first | (refine no_implicit_lambda% (skol4 (by first | exact ⟨default⟩ | exact neWorld | exact neShared | exact neAround | exact neLX) (by first | exact ⟨default⟩ | exact neWorld | exact neShared | exact neAround | exact neLX) (by first | exact ⟨default⟩ | exact neWorld | exact neShared | exact neAround | exact neLX) (by first | exact ⟨default⟩ | exact neWorld | exact neShared | exact neAround | exact neLX) ?_); generalize @sk4a _ _ _ _ _ _ _ _ _ = outer; generalize @sk4b _ _ _ _ _ _ _ _ _ = A₀; generalize @sk4c _ _ _ _ _ _ _ _ _ = base; generalize @sk4d _ _ _ _ _ _ _ _ _ = g) | ((first | ((first | refine no_implicit_lambda% (skol ?_) | refine no_implicit_lambda% (skolW ?_) | refine no_implicit_lambda% (skolL ?_) | refine no_implicit_lambda% (skolS ?_) | refine no_implicit_lambda% (skolA ?_)); generalize @skz _ _ _ = outer) | intro outer); (first | ((first | refine no_implicit_lambda% (skol ?_) | refine no_implicit_lambda% (skolW ?_) | refine no_implicit_lambda% (skolL ?_) | refine no_implicit_lambda% (skolS ?_) | refine no_implicit_lambda% (skolA ?_)); generalize @skz _ _ _ = A₀) | intro A₀); (first | ((first | refine no_implicit_lambda% (skol ?_) | refine no_implicit_lambda% (skolW ?_) | refine no_implicit_lambda% (skolL ?_) | refine no_implicit_lambda% (skolS ?_) | refine no_implicit_lambda% (skolA ?_)); generalize @skz _ _ _ = base) | intro base); (first | ((first | refine no_implicit_lambda% (skol ?_) | refine no_implicit_lambda% (skolW ?_) | refine no_implicit_lambda% (skolL ?_) | refine no_implicit_lambda% (skolS ?_) | refine no_implicit_lambda% (skolA ?_)); generalize @skz _ _ _ = g) | intro g))
  first | ((first | refine no_implicit_lambda% (skol ?_) | refine no_implicit_lambda% (skolW ?_) | refine no_implicit_lambda% (skolL ?_) | refine no_implicit_lambda% (skolS ?_) | refine no_implicit_lambda% (skolA ?_)); generalize @skz _ _ _ = h₁) | intro h₁
  first | ((first | refine no_implicit_lambda% (skol ?_) | refine no_implicit_lambda% (skolW ?_) | refine no_implicit_lambda% (skolL ?_) | refine no_implicit_lambda% (skolS ?_) | refine no_implicit_lambda% (skolA ?_)); generalize @skz _ _ _ = L') | intro L'
  first | ((first | refine no_implicit_lambda% (skol ?_) | refine no_implicit_lambda% (skolW ?_) | refine no_implicit_lambda% (skolL ?_) | refine no_implicit_lambda% (skolS ?_) | refine no_implicit_lambda% (skolA ?_)); generalize @skz _ _ _ = s) | intro s
  intro B
  intro F
  intro X
  intro N
  intro T
  intro hd
  intro hu
  intro hp
  k_steps
  rename Fr _ _ _ _ => F4
  rename News _ _ _ _ => N4
  refine Done.intro [] [(_, W.listOf #[] 0)] F4 N4 (fun _ h => nomatch h) (by k_all) (fun _ _ _ h => nomatch h) ?_
  exact ⟨_, [], _, rfl, rfl, rfl, .nil⟩
end Mine
end
section
open PySem PySem.W PyProof.Rows PySem.Calls
set_option maxRecDepth 100000
namespace Mine
local macro_rules | `(tactic| k_all) => `(tactic| (refine' Cut.self (own_sub ?a ?b); (case a => assumption); (case b => k_all)))
local macro_rules | `(tactic| k_all) => `(tactic| first | exact Cut.nil | (refine' Cut.drop ?a ?b; (case a => k_mem); (case b => k_all)) | (refine' Cut.keep ?a ?b; (case a => k_all); (case b => k_all)))
local macro_rules | `(tactic| k_all) => `(tactic| (refine' List.forall_mem_cons.mpr ⟨?a, ?b⟩; (case a => k_mem); (case b => k_all)))
local macro_rules | `(tactic| k_all) => `(tactic| exact List.forall_mem_nil _)
local macro_rules | `(tactic| walk_at "exec While Compare cons nil") => `(tactic| (k_here; (with_reducible show wpAny _ _ (exec (Stmt.While _ _ _ _) _) _ _ _); refine Hold.out ?_))
def ToldPost (zs : List Int) (r : Value) (kept new : Led) : Prop := ∃ D hv n, r = .ref D ∧ kept = [] ∧ new = [(D, W.listOf hv.toArray n)] ∧ IntsAre hv zs
/-- the counting-back loop; fuel; none where it would not end -/
def loopT (room : Int) : Nat → Int → Int → List Int → List Int → Option (List Int)
  | 0, _, _, _, _ => none
  | f + 1, high, low, passed, sizes =>
    if high > 0 then
      if passed ≠ [] ∧ passed.getLastD 0 < room - (room - 1) * high + room * low then
        loopT room f (high - 1) (low - 1) passed.dropLast (sizes ++ [passed.getLastD 0])
      else
        loopT room f (high - (room - (room - 1) * high + room * low)) (low - (room - (room - 1) * high + room * low) + 1) passed (sizes ++ [room - (room - 1) * high + room * low])
    else some sizes
local macro_rules | `(tactic| walk_at "call ref") => `(tactic| (k_here; (with_reducible show wpAny _ _ (call (Value.ref 58) _ _) _ _ _); k_dflt (refine' ctr_useA (dec3_ctr _ _ _ _ _ _ ?h1 ?h2) ?k1 ?k2 ?_; (case k1 => k_all); (case k2 => k_all); (case h2 => assumption); (case h1 => assumption)); intro r kept new h' tk' F' N' hpost; (obtain ⟨D', n', ta, tb, tc, e1, e2, e3⟩ := hpost); subst e1 e2 e3; o_facts N'))
def RecOk (w : World) (rest : Str) (room : Int) (dN : Nat) (ps : List Int) : Prop := ∀ t t', Ctr w 145 [.str rest t, .int room t'] [] dN (fun _ => True) [] (ToldPost ps)
theorem rec_ctr {w : World} {rest : Str} {room : Int} {dN : Nat} {ps : List Int} {t t' : Tok} (h : RecOk w rest room dN ps) : Ctr w 145 [.str rest t, .int room t'] [] dN (fun _ => True) [] (ToldPost ps) := h t t'
local macro_rules | `(tactic| walk_at "call ref") => `(tactic| (k_here; (with_reducible show wpAny _ _ (call (Value.ref 145) _ _) _ _ _); refine Hold.out ?_))
theorem kl_last_snoc : ∀ (p : List Value) (v : Value), kl_last (p ++ [v]) = some (p, v)
  | [], _ => rfl
  | x :: r, v => by rw [List.cons_append, kl_last, kl_last_snoc r v]
section
variable {prog : Program} {w : World} {A : Around} {E : Value → Shared → Prop} {s : Shared} {h₀ : Heap} {L D : Addr} {m : Str → Option Value} {news news' : Led} {n : Nat} {v : Value} {vs : List Value}
theorem pop_snoc {Q : Value → Shared → Prop} (F : Fr h₀ L s.heap m) (N : News h₀ L s.heap news) (U : Upd D (W.listOf (vs ++ [v]).toArray n) (W.listOf vs.toArray (n + 1)) news news') (hz : vs.length ≤ 1000)
    (h : ∀ h', Fr h₀ L h' m → News h₀ L h' news' → Q v { s with heap := h' }) : wpAny (model prog w) A (call (.builtin "list.pop") [.ref D]) Q E s :=
  kl_pop F N (by rw [List.toList_toArray]; exact kl_last_snoc _ _) U (by simp only [List.length_append, List.length_cons, List.length_nil]; rw [sizeLine_eq]; omega) h
theorem at_last {value slice : PySem.Expr} {l : Addr} {u : Tok} {Q : Value → Shared → Prop} (N : News h₀ L s.heap news) (hm : (l, W.listOf (vs ++ [v]).toArray n) ∈ news) (hz : vs.length ≤ 1000) (h : Q v s)
    (hs : subscripted slice false (.ref l) (.int (-1) u) = operate [.ref l, .int (-1) u] (getItem (.ref l) (.int (-1) u)) := by with_unfolding_all rfl) :
    wpAny (model prog w) A (subscriptTail value slice (.ref l) (.int (-1) u)) Q E s :=
  kde_neg (vs := vs ++ [v]) (j := vs.length) ⟨_, (N _ hm).1, rfl, _, rfl⟩ (by decide) (by decide) (by
    rw [List.length_append]
    show seqIndex? (-1) (vs.length + 1) = _
    unfold seqIndex?
    have : (-1 : Int) + ((vs.length + 1 : Nat) : Int) = vs.length := by omega
    simp [this]
    omega) (by simp) h hs
end
theorem ints_snoc : ∀ {vs : List Value} {v : Value} {ns : List Int}, IntsAre (vs ++ [v]) ns → ∃ is x t, v = .int x t ∧ ns = is ++ [x] ∧ IntsAre vs is
  | [], _, _, .cons x t .nil => ⟨[], x, t, rfl, rfl, .nil⟩
  | _ :: _, _, _, .cons x t r => by
    obtain ⟨is, y, u, rfl, rfl, h⟩ := ints_snoc r
    exact ⟨x :: is, y, u, rfl, rfl, .cons x t h⟩
section
variable {prog : Program} {w : World} {A : Around} {E : Value → Shared → Prop} {s : Shared} {h₀ : Heap} {L D : Addr} {m : Str → Option Value} {news news' : Led} {n : Nat} {v : Value} {vs : List Value}
theorem ne_snoc {a b : Addr} {k : Nat} {ns : List Int} {Q : Value → Shared → Prop} (N : News h₀ L s.heap news) (ha : (a, W.listOf (vs ++ [v]).toArray n) ∈ news) (hb : (b, W.listOf #[] k) ∈ news) (hi : IntsAre (vs ++ [v]) ns) (hu : A.units + 64 < cLine) (h : Q (.bool true) s) :
    wpAny (model prog w) A (compareOp .NotEq (.ref a) (.ref b)) Q E s :=
  ke_ne_ints (xs := vs ++ [v]) (ys := []) ⟨_, (N _ ha).1, rfl, _, rfl⟩ ⟨_, (N _ hb).1, rfl, _, rfl⟩ hi .nil hu (by
    have e : decide (ns = []) = false := decide_eq_false fun e => by
      subst e
      have := hi.length
      rw [List.length_append] at this
      simp at this
    rw [e]; exact h)
end
local macro_rules | `(tactic| walk_at "compareOp NotEq ref ref") => `(tactic| (k_here; (with_reducible show wpAny _ _ (compareOp CmpOp.NotEq (Value.ref _) (Value.ref _)) _ _ _); k_dflt (refine' ne_snoc ?N ?a ?b ?i ?u ?_; (case N => k_asm); (case a => k_mem); (case b => k_mem); (case i => assumption); (case u => ke_room))))
local macro_rules | `(tactic| walk_at "subscriptTail") => `(tactic| (k_here; k_dflt (refine' at_last ?N ?m ?z ?_ ?s; (case N => k_asm); (case m => k_mem); (case z => assumption); (case s => with_unfolding_all rfl))))
local macro_rules | `(tactic| walk_at "call builtin:list.pop") => `(tactic| (k_here; (with_reducible show wpAny _ _ (call (Value.builtin _) [Value.ref _]) _ _ _); k_dflt (refine' pop_snoc ?F ?N ?U ?z ?_; (case F => k_asm); (case N => k_asm); (case U => k_upd); (case z => assumption)); intro h' F' N'))
theorem kst_newsOf2 {h₀ h : Heap} {L : Addr} {a b : Addr × Obj} {r : Led} (N : News h₀ L h (a :: b :: r)) : News h₀ L h [a, b] := fun q hq => N q (by
  rcases List.mem_cons.mp hq with rfl | hq
  · exact .head _
  · rw [List.mem_singleton.mp hq]; exact .tail _ (.head _))
structure TS where
  f : Nat
  hi : Int
  thi : Tok
  lo : Int
  tlo : Tok
  pv : List Value
  ps : List Int
  pn : Nat
  sv : List Value
  ss : List Int
  sn : Nat
def toldLed (la D : Addr) (tail : Led) (c : TS) : Led := (la, W.listOf c.sv.toArray c.sn) :: (D, W.listOf c.pv.toArray c.pn) :: tail
local macro_rules | `(tactic| walk_at "execs cons") => `(tactic| (k_here; (with_reducible show wpAny _ _ _ _ _ (Shared.mk _ _ _ (_ + _) _)); refine Mine.tok_state ?_; intro tq9))
set_option maxHeartbeats 8000000 in
theorem tolds_ctr (w : World) (txt rest : Str) (a b : Int) (ps : List Int) (tt : Tok) (room : Int) (tr : Tok) (ha0 : 0 ≤ a) (ha9 : a < 100) (hb0 : 0 ≤ b) (hb9 : b < 100) (h3 : 2 ≤ room) (h6 : room ≤ 6) (hps : ps.length ≤ 64) (ho0 : 0 ≤ ((room - 1) * a - room * b).fdiv (room - 1)) (ho9 : ((room - 1) * a - room * b).fdiv (room - 1) ≤ 100) (hl : txt.length ≤ 200)
    (hsp : Txt.splitMax txt (Str.ofString "'") 2 = [Str.ofString (toString a), Str.ofString (toString b), rest]) (res : List Int) (hres : loopT room 64 (a - ((room - 1) * a - room * b).fdiv (room - 1)) b (ps.map fun a => a + 1) [] = some res) (dN : Nat) (hrec : RecOk w rest (room - 2) dN ps) :
   Ctr w 145 [.str txt tt, .int room tr] [] (dN + 8 + 1) (fun _ => True) []
     (ToldPost (res.reverse ++ List.replicate (((room - 1) * a - room * b).fdiv (room - 1)).toNat 1)) := by
  w_top off
  revert w txt rest a b ps tt room tr ha0 ha9 hb0 hb9 h3 h6 hps ho0 ho9 hl hsp res hres dN hrec
  first | (refine no_implicit_lambda% (skol4 (by first | exact ⟨default⟩ | exact neWorld | exact neShared | exact neAround | exact neLX) (by first | exact ⟨default⟩ | exact neWorld | exact neShared | exact neAround | exact neLX) (by first | exact ⟨default⟩ | exact neWorld | exact neShared | exact neAround | exact neLX) (by first | exact ⟨default⟩ | exact neWorld | exact neShared | exact neAround | exact neLX) ?_); generalize @sk4a _ _ _ _ _ _ _ _ _ = w; generalize @sk4b _ _ _ _ _ _ _ _ _ = txt; generalize @sk4c _ _ _ _ _ _ _ _ _ = rest; generalize @sk4d _ _ _ _ _ _ _ _ _ = a) | ((first | ((first | refine no_implicit_lambda% (skol ?_) | refine no_implicit_lambda% (skolW ?_) | refine no_implicit_lambda% (skolL ?_) | refine no_implicit_lambda% (skolS ?_) | refine no_implicit_lambda% (skolA ?_)); generalize @skz _ _ _ = w) | intro w); (first | ((first | refine no_implicit_lambda% (skol ?_) | refine no_implicit_lambda% (skolW ?_) | refine no_implicit_lambda% (skolL ?_) | refine no_implicit_lambda% (skolS ?_) | refine no_implicit_lambda% (skolA ?_)); generalize @skz _ _ _ = txt) | intro txt); (first | ((first | refine no_implicit_lambda% (skol ?_) | refine no_implicit_lambda% (skolW ?_) | refine no_implicit_lambda% (skolL ?_) | refine no_implicit_lambda% (skolS ?_) | refine no_implicit_lambda% (skolA ?_)); generalize @skz _ _ _ = rest) | intro rest); (first | ((first | refine no_implicit_lambda% (skol ?_) | refine no_implicit_lambda% (skolW ?_) | refine no_implicit_lambda% (skolL ?_) | refine no_implicit_lambda% (skolS ?_) | refine no_implicit_lambda% (skolA ?_)); generalize @skz _ _ _ = a) | intro a))
  first | (refine no_implicit_lambda% (skol4 (by first | exact ⟨default⟩ | exact neWorld | exact neShared | exact neAround | exact neLX) (by first | exact ⟨default⟩ | exact neWorld | exact neShared | exact neAround | exact neLX) (by first | exact ⟨default⟩ | exact neWorld | exact neShared | exact neAround | exact neLX) (by first | exact ⟨default⟩ | exact neWorld | exact neShared | exact neAround | exact neLX) ?_); generalize @sk4a _ _ _ _ _ _ _ _ _ = b; generalize @sk4b _ _ _ _ _ _ _ _ _ = ps; generalize @sk4c _ _ _ _ _ _ _ _ _ = tt; generalize @sk4d _ _ _ _ _ _ _ _ _ = room) | ((first | ((first | refine no_implicit_lambda% (skol ?_) | refine no_implicit_lambda% (skolW ?_) | refine no_implicit_lambda% (skolL ?_) | refine no_implicit_lambda% (skolS ?_) | refine no_implicit_lambda% (skolA ?_)); generalize @skz _ _ _ = b) | intro b); (first | ((first | refine no_implicit_lambda% (skol ?_) | refine no_implicit_lambda% (skolW ?_) | refine no_implicit_lambda% (skolL ?_) | refine no_implicit_lambda% (skolS ?_) | refine no_implicit_lambda% (skolA ?_)); generalize @skz _ _ _ = ps) | intro ps); (first | ((first | refine no_implicit_lambda% (skol ?_) | refine no_implicit_lambda% (skolW ?_) | refine no_implicit_lambda% (skolL ?_) | refine no_implicit_lambda% (skolS ?_) | refine no_implicit_lambda% (skolA ?_)); generalize @skz _ _ _ = tt) | intro tt); (first | ((first | refine no_implicit_lambda% (skol ?_) | refine no_implicit_lambda% (skolW ?_) | refine no_implicit_lambda% (skolL ?_) | refine no_implicit_lambda% (skolS ?_) | refine no_implicit_lambda% (skolA ?_)); generalize @skz _ _ _ = room) | intro room))
  first | ((first | refine no_implicit_lambda% (skol ?_) | refine no_implicit_lambda% (skolW ?_) | refine no_implicit_lambda% (skolL ?_) | refine no_implicit_lambda% (skolS ?_) | refine no_implicit_lambda% (skolA ?_)); generalize @skz _ _ _ = tr) | intro tr
  first | ((first | refine no_implicit_lambda% (skol ?_) | refine no_implicit_lambda% (skolW ?_) | refine no_implicit_lambda% (skolL ?_) | refine no_implicit_lambda% (skolS ?_) | refine no_implicit_lambda% (skolA ?_)); generalize @skz _ _ _ = ha0) | intro ha0
  first | ((first | refine no_implicit_lambda% (skol ?_) | refine no_implicit_lambda% (skolW ?_) | refine no_implicit_lambda% (skolL ?_) | refine no_implicit_lambda% (skolS ?_) | refine no_implicit_lambda% (skolA ?_)); generalize @skz _ _ _ = ha9) | intro ha9
  first | ((first | refine no_implicit_lambda% (skol ?_) | refine no_implicit_lambda% (skolW ?_) | refine no_implicit_lambda% (skolL ?_) | refine no_implicit_lambda% (skolS ?_) | refine no_implicit_lambda% (skolA ?_)); generalize @skz _ _ _ = hb0) | intro hb0
  first | ((first | refine no_implicit_lambda% (skol ?_) | refine no_implicit_lambda% (skolW ?_) | refine no_implicit_lambda% (skolL ?_) | refine no_implicit_lambda% (skolS ?_) | refine no_implicit_lambda% (skolA ?_)); generalize @skz _ _ _ = hb9) | intro hb9
  first | ((first | refine no_implicit_lambda% (skol ?_) | refine no_implicit_lambda% (skolW ?_) | refine no_implicit_lambda% (skolL ?_) | refine no_implicit_lambda% (skolS ?_) | refine no_implicit_lambda% (skolA ?_)); generalize @skz _ _ _ = h3) | intro h3
  first | ((first | refine no_implicit_lambda% (skol ?_) | refine no_implicit_lambda% (skolW ?_) | refine no_implicit_lambda% (skolL ?_) | refine no_implicit_lambda% (skolS ?_) | refine no_implicit_lambda% (skolA ?_)); generalize @skz _ _ _ = h6) | intro h6
  first | ((first | refine no_implicit_lambda% (skol ?_) | refine no_implicit_lambda% (skolW ?_) | refine no_implicit_lambda% (skolL ?_) | refine no_implicit_lambda% (skolS ?_) | refine no_implicit_lambda% (skolA ?_)); generalize @skz _ _ _ = hps) | intro hps
  first | ((first | refine no_implicit_lambda% (skol ?_) | refine no_implicit_lambda% (skolW ?_) | refine no_implicit_lambda% (skolL ?_) | refine no_implicit_lambda% (skolS ?_) | refine no_implicit_lambda% (skolA ?_)); generalize @skz _ _ _ = ho0) | intro ho0
  first | ((first | refine no_implicit_lambda% (skol ?_) | refine no_implicit_lambda% (skolW ?_) | refine no_implicit_lambda% (skolL ?_) | refine no_implicit_lambda% (skolS ?_) | refine no_implicit_lambda% (skolA ?_)); generalize @skz _ _ _ = ho9) | intro ho9
  first | ((first | refine no_implicit_lambda% (skol ?_) | refine no_implicit_lambda% (skolW ?_) | refine no_implicit_lambda% (skolL ?_) | refine no_implicit_lambda% (skolS ?_) | refine no_implicit_lambda% (skolA ?_)); generalize @skz _ _ _ = hl) | intro hl
  first | ((first | refine no_implicit_lambda% (skol ?_) | refine no_implicit_lambda% (skolW ?_) | refine no_implicit_lambda% (skolL ?_) | refine no_implicit_lambda% (skolS ?_) | refine no_implicit_lambda% (skolA ?_)); generalize @skz _ _ _ = hsp) | intro hsp
  first | ((first | refine no_implicit_lambda% (skol ?_) | refine no_implicit_lambda% (skolW ?_) | refine no_implicit_lambda% (skolL ?_) | refine no_implicit_lambda% (skolS ?_) | refine no_implicit_lambda% (skolA ?_)); generalize @skz _ _ _ = res) | intro res
  first | ((first | refine no_implicit_lambda% (skol ?_) | refine no_implicit_lambda% (skolW ?_) | refine no_implicit_lambda% (skolL ?_) | refine no_implicit_lambda% (skolS ?_) | refine no_implicit_lambda% (skolA ?_)); generalize @skz _ _ _ = hres) | intro hres
  first | ((first | refine no_implicit_lambda% (skol ?_) | refine no_implicit_lambda% (skolW ?_) | refine no_implicit_lambda% (skolL ?_) | refine no_implicit_lambda% (skolS ?_) | refine no_implicit_lambda% (skolA ?_)); generalize @skz _ _ _ = dN) | intro dN
  first | ((first | refine no_implicit_lambda% (skol ?_) | refine no_implicit_lambda% (skolW ?_) | refine no_implicit_lambda% (skolL ?_) | refine no_implicit_lambda% (skolS ?_) | refine no_implicit_lambda% (skolA ?_)); generalize @skz _ _ _ = hrec) | intro hrec
  have hK0 : (fun w : World => Mine.hd0.heap_1_1 w.params, PySem.Challenge.rw_to0042_01) = (fun w : World => Mine.hd0.heap_1_1 w.params, PySem.Challenge.rw_to0042_01) := by (k_fill; rfl)
  clear hK0
  refine' enter_def [("text", .str txt tt), ("room", .int room tr)] ?pre ?ho ?hcd ?hb ?hl ?c1 ?c2 ?c3 ?c4 ?_
  case ho => k_is
  case hcd => k_is
  case pre => exact fun _ _ _ _ => trivial
  case hb => exact fun _ _ => BindsTo.of_eq rfl
  case hl => exact locs rfl
  case c1 => rfl
  case c2 => rfl
  case c3 => rfl
  case c4 => decide
  unfold Body
  first | (refine no_implicit_lambda% (skol4 (by first | exact ⟨default⟩ | exact neWorld | exact neShared | exact neAround | exact neLX) (by first | exact ⟨default⟩ | exact neWorld | exact neShared | exact neAround | exact neLX) (by first | exact ⟨default⟩ | exact neWorld | exact neShared | exact neAround | exact neLX) (by first | exact ⟨default⟩ | exact neWorld | exact neShared | exact neAround | exact neLX) ?_); generalize @sk4a _ _ _ _ _ _ _ _ _ = p; generalize @sk4b _ _ _ _ _ _ _ _ _ = loose; generalize @sk4c _ _ _ _ _ _ _ _ _ = mean; generalize @sk4d _ _ _ _ _ _ _ _ _ = mg) | ((first | ((first | refine no_implicit_lambda% (skol ?_) | refine no_implicit_lambda% (skolW ?_) | refine no_implicit_lambda% (skolL ?_) | refine no_implicit_lambda% (skolS ?_) | refine no_implicit_lambda% (skolA ?_)); generalize @skz _ _ _ = p) | intro p); (first | ((first | refine no_implicit_lambda% (skol ?_) | refine no_implicit_lambda% (skolW ?_) | refine no_implicit_lambda% (skolL ?_) | refine no_implicit_lambda% (skolS ?_) | refine no_implicit_lambda% (skolA ?_)); generalize @skz _ _ _ = loose) | intro loose); (first | ((first | refine no_implicit_lambda% (skol ?_) | refine no_implicit_lambda% (skolW ?_) | refine no_implicit_lambda% (skolL ?_) | refine no_implicit_lambda% (skolS ?_) | refine no_implicit_lambda% (skolA ?_)); generalize @skz _ _ _ = mean) | intro mean); (first | ((first | refine no_implicit_lambda% (skol ?_) | refine no_implicit_lambda% (skolW ?_) | refine no_implicit_lambda% (skolL ?_) | refine no_implicit_lambda% (skolS ?_) | refine no_implicit_lambda% (skolA ?_)); generalize @skz _ _ _ = mg) | intro mg))
  first | (refine no_implicit_lambda% (skol4 (by first | exact ⟨default⟩ | exact neWorld | exact neShared | exact neAround | exact neLX) (by first | exact ⟨default⟩ | exact neWorld | exact neShared | exact neAround | exact neLX) (by first | exact ⟨default⟩ | exact neWorld | exact neShared | exact neAround | exact neLX) (by first | exact ⟨default⟩ | exact neWorld | exact neShared | exact neAround | exact neLX) ?_); generalize @sk4a _ _ _ _ _ _ _ _ _ = mb; generalize @sk4b _ _ _ _ _ _ _ _ _ = dp; generalize @sk4c _ _ _ _ _ _ _ _ _ = un; generalize @sk4d _ _ _ _ _ _ _ _ _ = gd) | ((first | ((first | refine no_implicit_lambda% (skol ?_) | refine no_implicit_lambda% (skolW ?_) | refine no_implicit_lambda% (skolL ?_) | refine no_implicit_lambda% (skolS ?_) | refine no_implicit_lambda% (skolA ?_)); generalize @skz _ _ _ = mb) | intro mb); (first | ((first | refine no_implicit_lambda% (skol ?_) | refine no_implicit_lambda% (skolW ?_) | refine no_implicit_lambda% (skolL ?_) | refine no_implicit_lambda% (skolS ?_) | refine no_implicit_lambda% (skolA ?_)); generalize @skz _ _ _ = dp) | intro dp); (first | ((first | refine no_implicit_lambda% (skol ?_) | refine no_implicit_lambda% (skolW ?_) | refine no_implicit_lambda% (skolL ?_) | refine no_implicit_lambda% (skolS ?_) | refine no_implicit_lambda% (skolA ?_)); generalize @skz _ _ _ = un) | intro un); (first | ((first | refine no_implicit_lambda% (skol ?_) | refine no_implicit_lambda% (skolW ?_) | refine no_implicit_lambda% (skolL ?_) | refine no_implicit_lambda% (skolS ?_) | refine no_implicit_lambda% (skolA ?_)); generalize @skz _ _ _ = gd) | intro gd))
  first | (refine no_implicit_lambda% (skol4 (by first | exact ⟨default⟩ | exact neWorld | exact neShared | exact neAround | exact neLX) (by first | exact ⟨default⟩ | exact neWorld | exact neShared | exact neAround | exact neLX) (by first | exact ⟨default⟩ | exact neWorld | exact neShared | exact neAround | exact neLX) (by first | exact ⟨default⟩ | exact neWorld | exact neShared | exact neAround | exact neLX) ?_); generalize @sk4a _ _ _ _ _ _ _ _ _ = outer; generalize @sk4b _ _ _ _ _ _ _ _ _ = A₀; generalize @sk4c _ _ _ _ _ _ _ _ _ = base; generalize @sk4d _ _ _ _ _ _ _ _ _ = g) | ((first | ((first | refine no_implicit_lambda% (skol ?_) | refine no_implicit_lambda% (skolW ?_) | refine no_implicit_lambda% (skolL ?_) | refine no_implicit_lambda% (skolS ?_) | refine no_implicit_lambda% (skolA ?_)); generalize @skz _ _ _ = outer) | intro outer); (first | ((first | refine no_implicit_lambda% (skol ?_) | refine no_implicit_lambda% (skolW ?_) | refine no_implicit_lambda% (skolL ?_) | refine no_implicit_lambda% (skolS ?_) | refine no_implicit_lambda% (skolA ?_)); generalize @skz _ _ _ = A₀) | intro A₀); (first | ((first | refine no_implicit_lambda% (skol ?_) | refine no_implicit_lambda% (skolW ?_) | refine no_implicit_lambda% (skolL ?_) | refine no_implicit_lambda% (skolS ?_) | refine no_implicit_lambda% (skolA ?_)); generalize @skz _ _ _ = base) | intro base); (first | ((first | refine no_implicit_lambda% (skol ?_) | refine no_implicit_lambda% (skolW ?_) | refine no_implicit_lambda% (skolL ?_) | refine no_implicit_lambda% (skolS ?_) | refine no_implicit_lambda% (skolA ?_)); generalize @skz _ _ _ = g) | intro g))
  first | ((first | refine no_implicit_lambda% (skol ?_) | refine no_implicit_lambda% (skolW ?_) | refine no_implicit_lambda% (skolL ?_) | refine no_implicit_lambda% (skolS ?_) | refine no_implicit_lambda% (skolA ?_)); generalize @skz _ _ _ = h₁) | intro h₁
  first | ((first | refine no_implicit_lambda% (skol ?_) | refine no_implicit_lambda% (skolW ?_) | refine no_implicit_lambda% (skolL ?_) | refine no_implicit_lambda% (skolS ?_) | refine no_implicit_lambda% (skolA ?_)); generalize @skz _ _ _ = L') | intro L'
  first | ((first | refine no_implicit_lambda% (skol ?_) | refine no_implicit_lambda% (skolW ?_) | refine no_implicit_lambda% (skolL ?_) | refine no_implicit_lambda% (skolS ?_) | refine no_implicit_lambda% (skolA ?_)); generalize @skz _ _ _ = s) | intro s
  intro B
  intro F
  intro X
  intro N
  intro T
  intro hd
  intro hu
  intro hp
  k_steps
  refine Hold.mk ?_
  rename Fr _ _ _ _ => F1
  rename News _ _ _ _ => N1
  refine' ctr_use (rec_ctr hrec) ?kB ?kF ?kX ?kN ?kT ?kcs ?kd ?ku ?kp ?k1 ?k2 ?_
  case kB => k_asm
  case kF => k_asm
  case kX => k_asm
  case kN => k_asm
  case kT => k_asm
  case kcs => rfl
  case kd => omega
  case ku => omega
  case kp => trivial
  case k1 => k_all
  case k2 => k_all
  intro r kept new h5 tk5 F5 N5 hpost
  obtain ⟨D5, hv5, n5, e1, e2, e3, hpi⟩ := hpost
  subst e1 e2 e3
  dsimp only [ApartAll, Apart1]
  intros
  simp only [List.append_nil, List.nil_append, List.cons_append] at N5
  have hvl := hpi.length
  k_steps
  refine Hold.mk ?_
  rename IntsAre _ _ => hi2
  rename Fr _ _ _ _ => F1
  rename News _ _ _ _ => N1
  have hft : List.filter (fun _ => true) ps = ps := List.filter_eq_self.mpr fun _ _ => rfl
  rw [hft] at hi2
  have N2 := kst_newsOf2 N1
  clear N1
  refine ksw_while (σ := TS) (toldLed _ _ []) (fun c' => [(Str.ofString "high", .int c'.hi c'.thi), (Str.ofString "low", .int c'.lo c'.tlo)]) (fun _ => True) [Str.ofString "size"]
    (fun c' => IntsAre c'.pv c'.ps ∧ IntsAre c'.sv c'.ss ∧ loopT room c'.f c'.hi c'.lo c'.ps c'.ss = some res ∧ c'.ps.length ≤ 64 ∧ c'.ss.length + c'.f ≤ 64) (fun c' => c'.f) ⟨64, a - ((room - 1) * a - room * b).fdiv (room - 1), ?t1, b, ?t2, _, _, _, [], [], 0⟩ F1 N2 trivial ?hk ⟨hi2, .nil, hres, ?hp, Nat.le_refl _⟩ ?_
  case hk => kst_all
  case hp => dsimp only; rw [List.length_map]; exact hps
  rintro ⟨f, hi, thi, lo, tlo, pv, ps2, pn, sv, ss, sn⟩ u h tk' _ ⟨hpv, hsv, hlt, hpl, hsl⟩ F N
  dsimp only [toldLed, kstB, List.contains] at N F hpv hsv hlt hpl hsl
  have hpvl := hpv.length
  have hsvl := hsv.length
  obtain ⟨f', rfl⟩ : ∃ f', f = f' + 1 := by
    cases f with
    | zero => rw [loopT] at hlt; cases hlt
    | succ f' => exact ⟨f', rfl⟩
  rw [loopT] at hlt
  have e8 : ∀ y : Int, (ss ++ [y]).length = ss.length + 1 := fun y => by rw [List.length_append]; rfl
  rcases List.eq_nil_or_concat pv with rfl | ⟨pi, v, hpe⟩
  · cases hpv
    k_steps
    · rename 0 < hi => hpos
      rename Fr _ _ _ _ => F'
      rename News _ _ _ _ => N'
      simp only [List.push_toArray] at N'
      rw [if_pos hpos, if_neg (fun h => h.1 rfl)] at hlt
      refine ksw_end (σ := TS) ⟨f', _, _, _, _, [], [], _, sv ++ [_], ss ++ [_], _⟩ F' N' (by dsimp only [toldLed]; kst_in) trivial (by kst_all) (by ksw_same) ⟨.nil, hsv.append (.cons _ _ .nil), hlt, by simp, by dsimp only; rw [e8]; omega⟩ (by dsimp only; omega)
    · rename ¬ 0 < hi => hneg
      rename Fr _ _ _ _ => F4
      rename News _ _ _ _ => N4
      rename IntsAre _ (_ ++ _) => hi4
      rw [if_neg hneg] at hlt
      cases hlt
      rw [List.flatten_replicate_singleton (a := (1 : Int))] at hi4
      refine Done.intro [] [(_, W.listOf _ _)] F4 N4 (fun _ h => nomatch h) (by k_all) (fun _ _ _ h => nomatch h) ?_
      exact ⟨_, _, _, rfl, rfl, rfl, hi4⟩
  · rw [List.concat_eq_append] at hpe
    subst hpe
    obtain ⟨is, x, t, rfl, rfl, hpi2⟩ := ints_snoc hpv
    rw [List.length_append] at hpvl
    have hpl2 : is.length ≤ 63 := by rw [List.length_append] at hpl; simp at hpl; omega
    have hpil : pi.length ≤ 1000 := by rw [hpi2.length]; omega
    have hlast : (is ++ [x]).getLastD 0 = x := by rw [List.getLastD_eq_getLast?, List.getLast?_append]; rfl
    have hne : is ++ [x] ≠ [] := by simp
    rw [hlast, List.dropLast_concat] at hlt
    have e8 : ∀ y : Int, (ss ++ [y]).length = ss.length + 1 := fun y => by rw [List.length_append]; rfl
    k_steps
    · rename 0 < hi => hpos
      rename x < _ => hx
      rename Fr _ _ _ _ => F'
      rename News _ _ _ _ => N'
      simp only [List.push_toArray] at N'
      rw [if_pos hpos, if_pos ⟨hne, hx⟩] at hlt
      refine ksw_end (σ := TS) ⟨f', _, _, _, _, pi, is, _, sv ++ [_], ss ++ [_], _⟩ F' N' (by dsimp only [toldLed]; kst_in) trivial (by kst_all) (by ksw_same) ⟨hpi2, hsv.append (.cons _ _ .nil), hlt, by dsimp only; omega, by dsimp only; rw [e8]; omega⟩ (by dsimp only; omega)
    · rename 0 < hi => hpos
      rename ¬ x < _ => hx
      rename Fr _ _ _ _ => F'
      rename News _ _ _ _ => N'
      simp only [List.push_toArray] at N'
      rw [if_pos hpos, if_neg (fun h => hx h.2)] at hlt
      refine ksw_end (σ := TS) ⟨f', _, _, _, _, pi ++ [_], is ++ [x], _, sv ++ [_], ss ++ [_], _⟩ F' N' (by dsimp only [toldLed]; kst_in) trivial (by kst_all) (by ksw_same) ⟨hpv, hsv.append (.cons _ _ .nil), hlt, hpl, by dsimp only; rw [e8]; omega⟩ (by dsimp only; omega)
    · rename ¬ 0 < hi => hneg
      rename Fr _ _ _ _ => F4
      rename News _ _ _ _ => N4
      rename IntsAre _ (_ ++ _) => hi4
      rw [if_neg hneg] at hlt
      cases hlt
      rw [List.flatten_replicate_singleton (a := (1 : Int))] at hi4
      refine Done.intro [] [(_, W.listOf _ _)] F4 N4 (fun _ h => nomatch h) (by k_all) (fun _ _ _ h => nomatch h) ?_
      exact ⟨_, _, _, rfl, rfl, rfl, hi4⟩
end Mine
end
section
open PySem PySem.W PyProof.Rows PySem.Calls
set_option maxRecDepth 100000
namespace Mine
local macro_rules | `(tactic| walk_at "exec While Compare cons nil") => `(tactic| (k_here; (with_reducible show wpAny _ _ (exec (Stmt.While _ _ _ _) _) _ _ _); refine Hold.out ?_))
def lamOf2 : Option Obj → PySem.Expr
  | some ⟨_, _, .func fd, _⟩ => (match fd.body with | .stmts (_ :: _ :: .For _ _ (.Assign _ (.Call _ _ (k :: _) _) _ :: _) _ _ :: _) => k.value | _ => .Name "" ⟨0, 0, 0, 0⟩)
  | _ => .Name "" ⟨0, 0, 0, 0⟩
theorem codeHd_dr {P : Params} {h : Heap} (X : (Mine.hd0.heap_1_1 P).In h) : CodeHd h 151 147 :=
  ⟨_, _, _, _, _, _, _, _, _, X 151 _ rfl, rfl, rfl, rfl, rfl, rfl, rfl, rfl, rfl, by decide⟩
/-- what the search keeps -/
def LoHi (x p lo hi : Int) : Prop := 0 ≤ lo ∧ lo ≤ hi ∧ hi ≤ 64 ∧ (lo = 0 ∨ (lo - 1) * p < x) ∧ (hi = 64 ∨ x ≤ hi * p)
def leastC (x p : Int) : Int := (x + p - 1) / p
theorem lohi_end {x p lo hi : Int} (h : LoHi x p lo hi) (hn : ¬ lo < hi) (h1 : 1 ≤ p) (h5 : p ≤ 5) (h0 : 0 ≤ x) (hx : x ≤ 63 * p) : lo = leastC x p := by
  obtain ⟨a, b, c, d, e⟩ := h
  have e1 : lo = hi := by omega
  subst e1
  have hp : 0 < p := h1
  have hx2 : x ≤ lo * p := by
    rcases e with e | e
    · subst e; omega
    · exact e
  have hd2 : lo * p < x + p := by
    rcases d with d | d
    · subst d; omega
    · rw [Int.sub_mul, Int.one_mul] at d; clear hx hx2 e h0 h5 hn a b c; omega
  refine Int.le_antisymm (Int.le_ediv_of_mul_le hp ?_) (Int.le_of_lt_add_one (Int.ediv_lt_of_lt_mul hp ?_))
  · clear e d hn a b c hx hx2 h0 h5; omega
  · rw [Int.add_mul, Int.one_mul]; clear hn a b c d e hd2 hx h0 h5; omega
set_option maxHeartbeats 8000000 in
theorem bl_ctr (w : World) (la kf c cp : Addr) (hv : List Value) (hn : Nat) (x place : Int) (tx tp : Tok) (qual : Str) (params : Arguments) (body : PySem.Expr) (scope : Scope) (pos : Pos) (pm ct : Value) (oc op : Obj) (vs : Array Value) (tq : Tok)
   (hlam : lamOf2 ((Mine.hd0.heap_1_1 w.params).lookup 152) = .Lambda params body scope pos) (hd1 : oc.data = .fields vs) (hd2 : vs[1]? = some (.str qual tq)) (hop : op.data = .cell (some (.int place tp))) (hhv : IntsAre hv (rangeKs 0 64)) (hx0 : 0 ≤ x) (hp2 : 2 ≤ place) (hp6 : place ≤ 6) (hx : x ≤ 63 * (place - 1))
   (a1 : la ≠ kf) (a2 : la ≠ c) (a3 : kf ≠ la) (a4 : c ≠ la) (a5 : kf ≠ c) (a6 : c ≠ kf) (a7 : cp ≠ la) (a8 : la ≠ cp) (a9 : cp ≠ kf) (a10 : kf ≠ cp) (a11 : cp ≠ c) (a12 : c ≠ cp) :
   Ctr w 51 [.ref la, .int x tx] [("key", .ref kf)] 6 (fun _ => True) [(kf, kla_obj "<lambda>" qual params body scope [(Str.ofString "place", cp)] pm c ct), (c, oc), (cp, op), (la, W.listOf hv.toArray hn)]
     (fun r kept new => ∃ t, r = .int (leastC x (place - 1)) t ∧ new = [] ∧ kept = [(kf, kla_obj "<lambda>" qual params body scope [(Str.ofString "place", cp)] pm c ct), (c, oc), (cp, op), (la, W.listOf hv.toArray hn)]) := by
  w_top off
  revert w la kf c cp hv hn x place tx tp qual params body scope pos pm ct oc op vs tq hlam hd1 hd2 hop hhv hx0 hp2 hp6 hx a1 a2 a3 a4 a5 a6 a7 a8 a9 a10 a11 a12
  first | (refine no_implicit_lambda% (skol4 (by first | exact ⟨default⟩ | exact neWorld | exact neShared | exact neAround | exact neLX) (by first | exact ⟨default⟩ | exact neWorld | exact neShared | exact neAround | exact neLX) (by first | exact ⟨default⟩ | exact neWorld | exact neShared | exact neAround | exact neLX) (by first | exact ⟨default⟩ | exact neWorld | exact neShared | exact neAround | exact neLX) ?_); generalize @sk4a _ _ _ _ _ _ _ _ _ = w; generalize @sk4b _ _ _ _ _ _ _ _ _ = la; generalize @sk4c _ _ _ _ _ _ _ _ _ = kf; generalize @sk4d _ _ _ _ _ _ _ _ _ = c) | ((first | ((first | refine no_implicit_lambda% (skol ?_) | refine no_implicit_lambda% (skolW ?_) | refine no_implicit_lambda% (skolL ?_) | refine no_implicit_lambda% (skolS ?_) | refine no_implicit_lambda% (skolA ?_)); generalize @skz _ _ _ = w) | intro w); (first | ((first | refine no_implicit_lambda% (skol ?_) | refine no_implicit_lambda% (skolW ?_) | refine no_implicit_lambda% (skolL ?_) | refine no_implicit_lambda% (skolS ?_) | refine no_implicit_lambda% (skolA ?_)); generalize @skz _ _ _ = la) | intro la); (first | ((first | refine no_implicit_lambda% (skol ?_) | refine no_implicit_lambda% (skolW ?_) | refine no_implicit_lambda% (skolL ?_) | refine no_implicit_lambda% (skolS ?_) | refine no_implicit_lambda% (skolA ?_)); generalize @skz _ _ _ = kf) | intro kf); (first | ((first | refine no_implicit_lambda% (skol ?_) | refine no_implicit_lambda% (skolW ?_) | refine no_implicit_lambda% (skolL ?_) | refine no_implicit_lambda% (skolS ?_) | refine no_implicit_lambda% (skolA ?_)); generalize @skz _ _ _ = c) | intro c))
  first | (refine no_implicit_lambda% (skol4 (by first | exact ⟨default⟩ | exact neWorld | exact neShared | exact neAround | exact neLX) (by first | exact ⟨default⟩ | exact neWorld | exact neShared | exact neAround | exact neLX) (by first | exact ⟨default⟩ | exact neWorld | exact neShared | exact neAround | exact neLX) (by first | exact ⟨default⟩ | exact neWorld | exact neShared | exact neAround | exact neLX) ?_); generalize @sk4a _ _ _ _ _ _ _ _ _ = cp; generalize @sk4b _ _ _ _ _ _ _ _ _ = hv; generalize @sk4c _ _ _ _ _ _ _ _ _ = hn; generalize @sk4d _ _ _ _ _ _ _ _ _ = x) | ((first | ((first | refine no_implicit_lambda% (skol ?_) | refine no_implicit_lambda% (skolW ?_) | refine no_implicit_lambda% (skolL ?_) | refine no_implicit_lambda% (skolS ?_) | refine no_implicit_lambda% (skolA ?_)); generalize @skz _ _ _ = cp) | intro cp); (first | ((first | refine no_implicit_lambda% (skol ?_) | refine no_implicit_lambda% (skolW ?_) | refine no_implicit_lambda% (skolL ?_) | refine no_implicit_lambda% (skolS ?_) | refine no_implicit_lambda% (skolA ?_)); generalize @skz _ _ _ = hv) | intro hv); (first | ((first | refine no_implicit_lambda% (skol ?_) | refine no_implicit_lambda% (skolW ?_) | refine no_implicit_lambda% (skolL ?_) | refine no_implicit_lambda% (skolS ?_) | refine no_implicit_lambda% (skolA ?_)); generalize @skz _ _ _ = hn) | intro hn); (first | ((first | refine no_implicit_lambda% (skol ?_) | refine no_implicit_lambda% (skolW ?_) | refine no_implicit_lambda% (skolL ?_) | refine no_implicit_lambda% (skolS ?_) | refine no_implicit_lambda% (skolA ?_)); generalize @skz _ _ _ = x) | intro x))
  first | (refine no_implicit_lambda% (skol4 (by first | exact ⟨default⟩ | exact neWorld | exact neShared | exact neAround | exact neLX) (by first | exact ⟨default⟩ | exact neWorld | exact neShared | exact neAround | exact neLX) (by first | exact ⟨default⟩ | exact neWorld | exact neShared | exact neAround | exact neLX) (by first | exact ⟨default⟩ | exact neWorld | exact neShared | exact neAround | exact neLX) ?_); generalize @sk4a _ _ _ _ _ _ _ _ _ = place; generalize @sk4b _ _ _ _ _ _ _ _ _ = tx; generalize @sk4c _ _ _ _ _ _ _ _ _ = tp; generalize @sk4d _ _ _ _ _ _ _ _ _ = qual) | ((first | ((first | refine no_implicit_lambda% (skol ?_) | refine no_implicit_lambda% (skolW ?_) | refine no_implicit_lambda% (skolL ?_) | refine no_implicit_lambda% (skolS ?_) | refine no_implicit_lambda% (skolA ?_)); generalize @skz _ _ _ = place) | intro place); (first | ((first | refine no_implicit_lambda% (skol ?_) | refine no_implicit_lambda% (skolW ?_) | refine no_implicit_lambda% (skolL ?_) | refine no_implicit_lambda% (skolS ?_) | refine no_implicit_lambda% (skolA ?_)); generalize @skz _ _ _ = tx) | intro tx); (first | ((first | refine no_implicit_lambda% (skol ?_) | refine no_implicit_lambda% (skolW ?_) | refine no_implicit_lambda% (skolL ?_) | refine no_implicit_lambda% (skolS ?_) | refine no_implicit_lambda% (skolA ?_)); generalize @skz _ _ _ = tp) | intro tp); (first | ((first | refine no_implicit_lambda% (skol ?_) | refine no_implicit_lambda% (skolW ?_) | refine no_implicit_lambda% (skolL ?_) | refine no_implicit_lambda% (skolS ?_) | refine no_implicit_lambda% (skolA ?_)); generalize @skz _ _ _ = qual) | intro qual))
  first | (refine no_implicit_lambda% (skol4 (by first | exact ⟨default⟩ | exact neWorld | exact neShared | exact neAround | exact neLX) (by first | exact ⟨default⟩ | exact neWorld | exact neShared | exact neAround | exact neLX) (by first | exact ⟨default⟩ | exact neWorld | exact neShared | exact neAround | exact neLX) (by first | exact ⟨default⟩ | exact neWorld | exact neShared | exact neAround | exact neLX) ?_); generalize @sk4a _ _ _ _ _ _ _ _ _ = params; generalize @sk4b _ _ _ _ _ _ _ _ _ = body; generalize @sk4c _ _ _ _ _ _ _ _ _ = scope; generalize @sk4d _ _ _ _ _ _ _ _ _ = pos) | ((first | ((first | refine no_implicit_lambda% (skol ?_) | refine no_implicit_lambda% (skolW ?_) | refine no_implicit_lambda% (skolL ?_) | refine no_implicit_lambda% (skolS ?_) | refine no_implicit_lambda% (skolA ?_)); generalize @skz _ _ _ = params) | intro params); (first | ((first | refine no_implicit_lambda% (skol ?_) | refine no_implicit_lambda% (skolW ?_) | refine no_implicit_lambda% (skolL ?_) | refine no_implicit_lambda% (skolS ?_) | refine no_implicit_lambda% (skolA ?_)); generalize @skz _ _ _ = body) | intro body); (first | ((first | refine no_implicit_lambda% (skol ?_) | refine no_implicit_lambda% (skolW ?_) | refine no_implicit_lambda% (skolL ?_) | refine no_implicit_lambda% (skolS ?_) | refine no_implicit_lambda% (skolA ?_)); generalize @skz _ _ _ = scope) | intro scope); (first | ((first | refine no_implicit_lambda% (skol ?_) | refine no_implicit_lambda% (skolW ?_) | refine no_implicit_lambda% (skolL ?_) | refine no_implicit_lambda% (skolS ?_) | refine no_implicit_lambda% (skolA ?_)); generalize @skz _ _ _ = pos) | intro pos))
  first | (refine no_implicit_lambda% (skol4 (by first | exact ⟨default⟩ | exact neWorld | exact neShared | exact neAround | exact neLX) (by first | exact ⟨default⟩ | exact neWorld | exact neShared | exact neAround | exact neLX) (by first | exact ⟨default⟩ | exact neWorld | exact neShared | exact neAround | exact neLX) (by first | exact ⟨default⟩ | exact neWorld | exact neShared | exact neAround | exact neLX) ?_); generalize @sk4a _ _ _ _ _ _ _ _ _ = pm; generalize @sk4b _ _ _ _ _ _ _ _ _ = ct; generalize @sk4c _ _ _ _ _ _ _ _ _ = oc; generalize @sk4d _ _ _ _ _ _ _ _ _ = op) | ((first | ((first | refine no_implicit_lambda% (skol ?_) | refine no_implicit_lambda% (skolW ?_) | refine no_implicit_lambda% (skolL ?_) | refine no_implicit_lambda% (skolS ?_) | refine no_implicit_lambda% (skolA ?_)); generalize @skz _ _ _ = pm) | intro pm); (first | ((first | refine no_implicit_lambda% (skol ?_) | refine no_implicit_lambda% (skolW ?_) | refine no_implicit_lambda% (skolL ?_) | refine no_implicit_lambda% (skolS ?_) | refine no_implicit_lambda% (skolA ?_)); generalize @skz _ _ _ = ct) | intro ct); (first | ((first | refine no_implicit_lambda% (skol ?_) | refine no_implicit_lambda% (skolW ?_) | refine no_implicit_lambda% (skolL ?_) | refine no_implicit_lambda% (skolS ?_) | refine no_implicit_lambda% (skolA ?_)); generalize @skz _ _ _ = oc) | intro oc); (first | ((first | refine no_implicit_lambda% (skol ?_) | refine no_implicit_lambda% (skolW ?_) | refine no_implicit_lambda% (skolL ?_) | refine no_implicit_lambda% (skolS ?_) | refine no_implicit_lambda% (skolA ?_)); generalize @skz _ _ _ = op) | intro op))
  first | ((first | refine no_implicit_lambda% (skol ?_) | refine no_implicit_lambda% (skolW ?_) | refine no_implicit_lambda% (skolL ?_) | refine no_implicit_lambda% (skolS ?_) | refine no_implicit_lambda% (skolA ?_)); generalize @skz _ _ _ = vs) | intro vs
  first | ((first | refine no_implicit_lambda% (skol ?_) | refine no_implicit_lambda% (skolW ?_) | refine no_implicit_lambda% (skolL ?_) | refine no_implicit_lambda% (skolS ?_) | refine no_implicit_lambda% (skolA ?_)); generalize @skz _ _ _ = tq) | intro tq
  first | ((first | refine no_implicit_lambda% (skol ?_) | refine no_implicit_lambda% (skolW ?_) | refine no_implicit_lambda% (skolL ?_) | refine no_implicit_lambda% (skolS ?_) | refine no_implicit_lambda% (skolA ?_)); generalize @skz _ _ _ = hlam) | intro hlam
  first | ((first | refine no_implicit_lambda% (skol ?_) | refine no_implicit_lambda% (skolW ?_) | refine no_implicit_lambda% (skolL ?_) | refine no_implicit_lambda% (skolS ?_) | refine no_implicit_lambda% (skolA ?_)); generalize @skz _ _ _ = hd1) | intro hd1
  first | ((first | refine no_implicit_lambda% (skol ?_) | refine no_implicit_lambda% (skolW ?_) | refine no_implicit_lambda% (skolL ?_) | refine no_implicit_lambda% (skolS ?_) | refine no_implicit_lambda% (skolA ?_)); generalize @skz _ _ _ = hd2) | intro hd2
  first | ((first | refine no_implicit_lambda% (skol ?_) | refine no_implicit_lambda% (skolW ?_) | refine no_implicit_lambda% (skolL ?_) | refine no_implicit_lambda% (skolS ?_) | refine no_implicit_lambda% (skolA ?_)); generalize @skz _ _ _ = hop) | intro hop
  first | ((first | refine no_implicit_lambda% (skol ?_) | refine no_implicit_lambda% (skolW ?_) | refine no_implicit_lambda% (skolL ?_) | refine no_implicit_lambda% (skolS ?_) | refine no_implicit_lambda% (skolA ?_)); generalize @skz _ _ _ = hhv) | intro hhv
  first | ((first | refine no_implicit_lambda% (skol ?_) | refine no_implicit_lambda% (skolW ?_) | refine no_implicit_lambda% (skolL ?_) | refine no_implicit_lambda% (skolS ?_) | refine no_implicit_lambda% (skolA ?_)); generalize @skz _ _ _ = hx0) | intro hx0
  first | ((first | refine no_implicit_lambda% (skol ?_) | refine no_implicit_lambda% (skolW ?_) | refine no_implicit_lambda% (skolL ?_) | refine no_implicit_lambda% (skolS ?_) | refine no_implicit_lambda% (skolA ?_)); generalize @skz _ _ _ = hp2) | intro hp2
  first | ((first | refine no_implicit_lambda% (skol ?_) | refine no_implicit_lambda% (skolW ?_) | refine no_implicit_lambda% (skolL ?_) | refine no_implicit_lambda% (skolS ?_) | refine no_implicit_lambda% (skolA ?_)); generalize @skz _ _ _ = hp6) | intro hp6
  first | ((first | refine no_implicit_lambda% (skol ?_) | refine no_implicit_lambda% (skolW ?_) | refine no_implicit_lambda% (skolL ?_) | refine no_implicit_lambda% (skolS ?_) | refine no_implicit_lambda% (skolA ?_)); generalize @skz _ _ _ = hx) | intro hx
  first | ((first | refine no_implicit_lambda% (skol ?_) | refine no_implicit_lambda% (skolW ?_) | refine no_implicit_lambda% (skolL ?_) | refine no_implicit_lambda% (skolS ?_) | refine no_implicit_lambda% (skolA ?_)); generalize @skz _ _ _ = a1) | intro a1
  first | ((first | refine no_implicit_lambda% (skol ?_) | refine no_implicit_lambda% (skolW ?_) | refine no_implicit_lambda% (skolL ?_) | refine no_implicit_lambda% (skolS ?_) | refine no_implicit_lambda% (skolA ?_)); generalize @skz _ _ _ = a2) | intro a2
  first | ((first | refine no_implicit_lambda% (skol ?_) | refine no_implicit_lambda% (skolW ?_) | refine no_implicit_lambda% (skolL ?_) | refine no_implicit_lambda% (skolS ?_) | refine no_implicit_lambda% (skolA ?_)); generalize @skz _ _ _ = a3) | intro a3
  first | ((first | refine no_implicit_lambda% (skol ?_) | refine no_implicit_lambda% (skolW ?_) | refine no_implicit_lambda% (skolL ?_) | refine no_implicit_lambda% (skolS ?_) | refine no_implicit_lambda% (skolA ?_)); generalize @skz _ _ _ = a4) | intro a4
  first | ((first | refine no_implicit_lambda% (skol ?_) | refine no_implicit_lambda% (skolW ?_) | refine no_implicit_lambda% (skolL ?_) | refine no_implicit_lambda% (skolS ?_) | refine no_implicit_lambda% (skolA ?_)); generalize @skz _ _ _ = a5) | intro a5
  first | ((first | refine no_implicit_lambda% (skol ?_) | refine no_implicit_lambda% (skolW ?_) | refine no_implicit_lambda% (skolL ?_) | refine no_implicit_lambda% (skolS ?_) | refine no_implicit_lambda% (skolA ?_)); generalize @skz _ _ _ = a6) | intro a6
  first | ((first | refine no_implicit_lambda% (skol ?_) | refine no_implicit_lambda% (skolW ?_) | refine no_implicit_lambda% (skolL ?_) | refine no_implicit_lambda% (skolS ?_) | refine no_implicit_lambda% (skolA ?_)); generalize @skz _ _ _ = a7) | intro a7
  first | ((first | refine no_implicit_lambda% (skol ?_) | refine no_implicit_lambda% (skolW ?_) | refine no_implicit_lambda% (skolL ?_) | refine no_implicit_lambda% (skolS ?_) | refine no_implicit_lambda% (skolA ?_)); generalize @skz _ _ _ = a8) | intro a8
  first | ((first | refine no_implicit_lambda% (skol ?_) | refine no_implicit_lambda% (skolW ?_) | refine no_implicit_lambda% (skolL ?_) | refine no_implicit_lambda% (skolS ?_) | refine no_implicit_lambda% (skolA ?_)); generalize @skz _ _ _ = a9) | intro a9
  first | ((first | refine no_implicit_lambda% (skol ?_) | refine no_implicit_lambda% (skolW ?_) | refine no_implicit_lambda% (skolL ?_) | refine no_implicit_lambda% (skolS ?_) | refine no_implicit_lambda% (skolA ?_)); generalize @skz _ _ _ = a10) | intro a10
  first | ((first | refine no_implicit_lambda% (skol ?_) | refine no_implicit_lambda% (skolW ?_) | refine no_implicit_lambda% (skolL ?_) | refine no_implicit_lambda% (skolS ?_) | refine no_implicit_lambda% (skolA ?_)); generalize @skz _ _ _ = a11) | intro a11
  first | ((first | refine no_implicit_lambda% (skol ?_) | refine no_implicit_lambda% (skolW ?_) | refine no_implicit_lambda% (skolL ?_) | refine no_implicit_lambda% (skolS ?_) | refine no_implicit_lambda% (skolA ?_)); generalize @skz _ _ _ = a12) | intro a12
  generalize hL : lamOf2 ((Mine.hd0.heap_1_1 w.params).lookup 152) = LM at hlam
  conv at hL => (lhs; whnf)
  subst hL
  cases hlam
  have hK0 : (fun w : World => Mine.hd0.heap_1_1 w.params, PySem.Challenge.rw_to0042_01) = (fun w : World => Mine.hd0.heap_1_1 w.params, PySem.Challenge.rw_to0042_01) := by (k_fill; rfl)
  clear hK0
  refine' enter_def [("a", .ref la), ("x", .int x tx), ("lo", .int 0 420), ("hi", .none), ("key", .ref kf)] ?pre ?ho ?hcd ?hb ?hl ?c1 ?c2 ?c3 ?c4 ?_
  case ho => k_is
  case hcd => k_is
  case pre => exact fun _ _ _ _ => trivial
  case hb => exact fun s X => kp_binds X (fun S => rfl)
  case hl => exact locs rfl
  case c1 => rfl
  case c2 => rfl
  case c3 => rfl
  case c4 => decide
  unfold Body
  first | (refine no_implicit_lambda% (skol4 (by first | exact ⟨default⟩ | exact neWorld | exact neShared | exact neAround | exact neLX) (by first | exact ⟨default⟩ | exact neWorld | exact neShared | exact neAround | exact neLX) (by first | exact ⟨default⟩ | exact neWorld | exact neShared | exact neAround | exact neLX) (by first | exact ⟨default⟩ | exact neWorld | exact neShared | exact neAround | exact neLX) ?_); generalize @sk4a _ _ _ _ _ _ _ _ _ = p; generalize @sk4b _ _ _ _ _ _ _ _ _ = loose; generalize @sk4c _ _ _ _ _ _ _ _ _ = mean; generalize @sk4d _ _ _ _ _ _ _ _ _ = mg) | ((first | ((first | refine no_implicit_lambda% (skol ?_) | refine no_implicit_lambda% (skolW ?_) | refine no_implicit_lambda% (skolL ?_) | refine no_implicit_lambda% (skolS ?_) | refine no_implicit_lambda% (skolA ?_)); generalize @skz _ _ _ = p) | intro p); (first | ((first | refine no_implicit_lambda% (skol ?_) | refine no_implicit_lambda% (skolW ?_) | refine no_implicit_lambda% (skolL ?_) | refine no_implicit_lambda% (skolS ?_) | refine no_implicit_lambda% (skolA ?_)); generalize @skz _ _ _ = loose) | intro loose); (first | ((first | refine no_implicit_lambda% (skol ?_) | refine no_implicit_lambda% (skolW ?_) | refine no_implicit_lambda% (skolL ?_) | refine no_implicit_lambda% (skolS ?_) | refine no_implicit_lambda% (skolA ?_)); generalize @skz _ _ _ = mean) | intro mean); (first | ((first | refine no_implicit_lambda% (skol ?_) | refine no_implicit_lambda% (skolW ?_) | refine no_implicit_lambda% (skolL ?_) | refine no_implicit_lambda% (skolS ?_) | refine no_implicit_lambda% (skolA ?_)); generalize @skz _ _ _ = mg) | intro mg))
  first | (refine no_implicit_lambda% (skol4 (by first | exact ⟨default⟩ | exact neWorld | exact neShared | exact neAround | exact neLX) (by first | exact ⟨default⟩ | exact neWorld | exact neShared | exact neAround | exact neLX) (by first | exact ⟨default⟩ | exact neWorld | exact neShared | exact neAround | exact neLX) (by first | exact ⟨default⟩ | exact neWorld | exact neShared | exact neAround | exact neLX) ?_); generalize @sk4a _ _ _ _ _ _ _ _ _ = mb; generalize @sk4b _ _ _ _ _ _ _ _ _ = dp; generalize @sk4c _ _ _ _ _ _ _ _ _ = un; generalize @sk4d _ _ _ _ _ _ _ _ _ = gd) | ((first | ((first | refine no_implicit_lambda% (skol ?_) | refine no_implicit_lambda% (skolW ?_) | refine no_implicit_lambda% (skolL ?_) | refine no_implicit_lambda% (skolS ?_) | refine no_implicit_lambda% (skolA ?_)); generalize @skz _ _ _ = mb) | intro mb); (first | ((first | refine no_implicit_lambda% (skol ?_) | refine no_implicit_lambda% (skolW ?_) | refine no_implicit_lambda% (skolL ?_) | refine no_implicit_lambda% (skolS ?_) | refine no_implicit_lambda% (skolA ?_)); generalize @skz _ _ _ = dp) | intro dp); (first | ((first | refine no_implicit_lambda% (skol ?_) | refine no_implicit_lambda% (skolW ?_) | refine no_implicit_lambda% (skolL ?_) | refine no_implicit_lambda% (skolS ?_) | refine no_implicit_lambda% (skolA ?_)); generalize @skz _ _ _ = un) | intro un); (first | ((first | refine no_implicit_lambda% (skol ?_) | refine no_implicit_lambda% (skolW ?_) | refine no_implicit_lambda% (skolL ?_) | refine no_implicit_lambda% (skolS ?_) | refine no_implicit_lambda% (skolA ?_)); generalize @skz _ _ _ = gd) | intro gd))
  first | (refine no_implicit_lambda% (skol4 (by first | exact ⟨default⟩ | exact neWorld | exact neShared | exact neAround | exact neLX) (by first | exact ⟨default⟩ | exact neWorld | exact neShared | exact neAround | exact neLX) (by first | exact ⟨default⟩ | exact neWorld | exact neShared | exact neAround | exact neLX) (by first | exact ⟨default⟩ | exact neWorld | exact neShared | exact neAround | exact neLX) ?_); generalize @sk4a _ _ _ _ _ _ _ _ _ = outer; generalize @sk4b _ _ _ _ _ _ _ _ _ = A₀; generalize @sk4c _ _ _ _ _ _ _ _ _ = base; generalize @sk4d _ _ _ _ _ _ _ _ _ = g) | ((first | ((first | refine no_implicit_lambda% (skol ?_) | refine no_implicit_lambda% (skolW ?_) | refine no_implicit_lambda% (skolL ?_) | refine no_implicit_lambda% (skolS ?_) | refine no_implicit_lambda% (skolA ?_)); generalize @skz _ _ _ = outer) | intro outer); (first | ((first | refine no_implicit_lambda% (skol ?_) | refine no_implicit_lambda% (skolW ?_) | refine no_implicit_lambda% (skolL ?_) | refine no_implicit_lambda% (skolS ?_) | refine no_implicit_lambda% (skolA ?_)); generalize @skz _ _ _ = A₀) | intro A₀); (first | ((first | refine no_implicit_lambda% (skol ?_) | refine no_implicit_lambda% (skolW ?_) | refine no_implicit_lambda% (skolL ?_) | refine no_implicit_lambda% (skolS ?_) | refine no_implicit_lambda% (skolA ?_)); generalize @skz _ _ _ = base) | intro base); (first | ((first | refine no_implicit_lambda% (skol ?_) | refine no_implicit_lambda% (skolW ?_) | refine no_implicit_lambda% (skolL ?_) | refine no_implicit_lambda% (skolS ?_) | refine no_implicit_lambda% (skolA ?_)); generalize @skz _ _ _ = g) | intro g))
  first | ((first | refine no_implicit_lambda% (skol ?_) | refine no_implicit_lambda% (skolW ?_) | refine no_implicit_lambda% (skolL ?_) | refine no_implicit_lambda% (skolS ?_) | refine no_implicit_lambda% (skolA ?_)); generalize @skz _ _ _ = h₁) | intro h₁
  first | ((first | refine no_implicit_lambda% (skol ?_) | refine no_implicit_lambda% (skolW ?_) | refine no_implicit_lambda% (skolL ?_) | refine no_implicit_lambda% (skolS ?_) | refine no_implicit_lambda% (skolA ?_)); generalize @skz _ _ _ = L') | intro L'
  first | ((first | refine no_implicit_lambda% (skol ?_) | refine no_implicit_lambda% (skolW ?_) | refine no_implicit_lambda% (skolL ?_) | refine no_implicit_lambda% (skolS ?_) | refine no_implicit_lambda% (skolA ?_)); generalize @skz _ _ _ = s) | intro s
  intro B
  intro F
  intro X
  intro N
  intro T
  intro hd
  intro hu
  intro hp
  have CH := codeHd_dr X
  have hrl : hv.length = 64 := by rw [hhv.length, rangeKs_length]
  k_steps
  refine Hold.mk ?_
  rename Fr _ _ _ _ => F1
  rename News _ _ _ _ => N1
  refine ksw_while (σ := BS) (Function.const _ _) (fun c' => [(Str.ofString "lo", .int c'.lo c'.tlo), (Str.ofString "hi", .int c'.hi c'.thi)]) (fun _ => True) [Str.ofString "mid"]
    (fun c' => LoHi x (place - 1) c'.lo c'.hi) (fun c' => (c'.hi - c'.lo).toNat) ⟨0, ?t1, (rangeKs 0 64).length, ?t2⟩ F1 N1 trivial ?hk ?hp ?_
  case hk => kst_all
  case hp => exact ⟨Int.le_refl _, by dsimp only; rw [rangeKs_length]; omega, by dsimp only; rw [rangeKs_length]; omega, .inl rfl, .inl (by dsimp only; rw [rangeKs_length]; rfl)⟩
  rintro ⟨lo, tlo, hi, thi⟩ u h tk' _ hS F N
  dsimp only [kstB, List.contains, Function.const] at N F hS
  have hS' := hS
  obtain ⟨hs0, hs1, hs2, hs3, hs4⟩ := hS'
  have hmid : lo < hi → 0 ≤ (lo + hi).fdiv 2 ∧ lo ≤ (lo + hi).fdiv 2 ∧ (lo + hi).fdiv 2 < hi := fun hlt => by
    rw [Int.fdiv_eq_ediv_of_nonneg _ (by decide)]; omega
  k_steps
  · rename lo < hi => hlt
    rename _ < x => hc
    rename Fr _ _ _ _ => F'
    rename News _ _ _ _ => N'
    obtain ⟨m0, m1, m2⟩ := hmid hlt
    rw [kll_at (by omega), Int.toNat_of_nonneg m0] at hc
    refine ksw_end (σ := BS) ⟨(lo + hi).fdiv 2 + 1, _, hi, thi⟩ F' N' (by dsimp only [Function.const]; kst_in) trivial (by kst_all) (by ksw_same) ⟨by dsimp only; omega, by dsimp only; omega, hs2, .inr (by dsimp only; rw [Int.add_sub_cancel]; rw [Int.zero_add] at hc; exact hc), hs4⟩ (by dsimp only; omega)
  · rename lo < hi => hlt
    rename ¬ _ < x => hc
    rename Fr _ _ _ _ => F'
    rename News _ _ _ _ => N'
    obtain ⟨m0, m1, m2⟩ := hmid hlt
    rw [kll_at (by omega), Int.toNat_of_nonneg m0, Int.zero_add] at hc
    refine ksw_end (σ := BS) ⟨lo, tlo, (lo + hi).fdiv 2, _⟩ F' N' (by dsimp only [Function.const]; kst_in) trivial (by kst_all) (by ksw_same) ⟨hs0, m1, by dsimp only; omega, hs3, .inr (by dsimp only; omega)⟩ (by dsimp only; omega)
  · rename ¬ lo < hi => hn
    rename Fr _ _ _ _ => F'
    rename News _ _ _ _ => N'
    refine Done.intro [_, _, _, _] [] F' N' (fun _ h => h) (fun _ h => nomatch h) (fun _ h => nomatch h) ?_
    exact ⟨tlo, congrArg (Value.int · tlo) (lohi_end hS hn (by omega) (by omega) hx0 hx), rfl, rfl⟩
end Mine
end
section
open PySem PySem.W PyProof.Rows PySem.Calls
set_option maxRecDepth 100000
namespace Mine
local macro_rules | `(tactic| k_all) => `(tactic| (refine' Cut.self (own_sub ?a ?b); (case a => assumption); (case b => k_all)))
local macro_rules | `(tactic| k_all) => `(tactic| first | exact Cut.nil | (refine' Cut.drop ?a ?b; (case a => k_mem); (case b => k_all)) | (refine' Cut.keep ?a ?b; (case a => k_all); (case b => k_all)))
local macro_rules | `(tactic| k_all) => `(tactic| (refine' List.forall_mem_cons.mpr ⟨?a, ?b⟩; (case a => k_mem); (case b => k_all)))
local macro_rules | `(tactic| walk_at "pyIter ref") => `(tactic| (k_here; (with_reducible show wpAny _ _ (pyIter (Value.ref _)) (fun it s₂ => LoopAtV _ _ _ _ _ _ _ _ _ it s₂) _ _); refine Hold.out ?_))
local macro_rules | `(tactic| walk_at "subscriptTail") => `(tactic| (k_here; (with_reducible show wpAny _ _ (subscriptTail _ _ (Value.str (Str.ofString "+-*/|&") _) (Value.int _ _)) _ _ _); k_dflt (refine' sg_item ?a ?b ?_; (case a => (first | omega | (have h9 := nz_two (by assumption) (by assumption); omega))); (case b => omega))))
local macro_rules | `(tactic| walk_at "subscriptTail") => `(tactic| (k_here; (with_reducible show wpAny _ _ (subscriptTail _ _ (Value.ref 15) (Value.str (sg _) _)) _ _ _); k_dflt (refine' tok_item ?F ?X ?a ?b ?_; (case F => k_asm); (case X => k_asm); (case a => omega); (case b => omega)); intro t'))
def LexSt (room : Int) (zs : List Int) (L : Int) (rest : List Nat) (ln : Int) : Prop := (rest = pageOf room zs ∧ ln = L) ∨ (rest = 10 :: pageOf room zs ∧ ln + 1 = L)
theorem getl_ctr (w : World) (I : LX) (rest : List Nat) (ln k : Int) (tl tk : Tok) (n nb : Nat) {v : Str} {r' : List Nat} {ln' : Int} (hI : LXok w I) (hat : At I.page k rest) (hln0 : 0 ≤ ln) (hln : ln + rest.length ≤ 1000) (hlex : lexO rest ln = (v, r', ln')) :
   Ctr w 86 [.ref I.x] [] 6 (fun _ => True) (lexL w I ln k tl tk n [] nb)
     (fun r kept new => ∃ t k' tl' tk', r = .str v t ∧ new = [] ∧ At I.page k' r' ∧ kept = lexL w I ln' k' tl' tk' n [] nb) := by
  have h := get_ctr w I rest ln k tl tk n nb hI hat hln0 hln
  rw [hlex] at h
  exact h
inductive GetPost (w : World) (I : LX) (n nb : Nat) (v : Str) (r' : List Nat) (ln' : Int) : Value → Led → Led → Prop
  | mk (t : Tok) (k' : Int) (tl' tk' : Tok) (hat : At I.page k' r') : GetPost w I n nb v r' ln' (.str v t) (lexL w I ln' k' tl' tk' n [] nb) []
theorem post_mono {w : World} {f : Addr} {args : List Value} {kw : List (Str × Value)} {d : Nat} {pre : Heap → Prop} {news : Led} {post post' : Value → Led → Led → Prop} (h : Ctr w f args kw d pre news post) (hp : ∀ r k n, post r k n → post' r k n) : Ctr w f args kw d pre news post' := by
  unfold Ctr at h ⊢
  intro p loose mean mg mb dp un gd cn cs a ccd cl outer A₀ base h₀ L m s Q E B F X N T hcs hd1 hu hpre hret
  exact h p loose mean mg mb dp un gd cn cs a ccd cl outer A₀ base h₀ L m s Q E B F X N T hcs hd1 hu hpre (fun r k n h' tk F N a b c => hret r k n h' tk F N a b (hp r k n c))
theorem getl2_ctr (w : World) (I : LX) (rest : List Nat) (ln k : Int) (tl tk : Tok) (n nb : Nat) {v : Str} {r' : List Nat} {ln' : Int} (hI : LXok w I) (hat : At I.page k rest) (hln0 : 0 ≤ ln) (hln : ln + rest.length ≤ 1000) (hlex : lexO rest ln = (v, r', ln')) :
   Ctr w 86 [.ref I.x] [] 6 (fun _ => True) (lexL w I ln k tl tk n [] nb) (GetPost w I n nb v r' ln') :=
  post_mono (getl_ctr w I rest ln k tl tk n nb hI hat hln0 hln hlex) fun r kp nw h => by
    obtain ⟨t, k', tl', tk', e1, e2, e3, e4⟩ := h
    subst e1 e2 e4
    exact .mk t k' tl' tk' e3
inductive InsPost (la : Addr) (x : Int) (ri : List Int) (pre : Led) : Value → Led → Led → Prop
  | mk (rv' : List Value) (ri' : List Int) (rn' : Nat) (h1 : IntsAre rv' ri') (h2 : Desc ri') (h3 : ri'.Perm (x :: ri)) : InsPost la x ri pre .none (pre ++ [(la, W.listOf rv'.toArray rn')]) []
local macro_rules | `(tactic| walk_at "call ref") => `(tactic| (k_here; (with_reducible show wpAny _ _ (call (Value.ref 86) _ _) _ _ _); k_dflt (refine' ctr_useA (getl2_ctr _ _ _ _ _ _ _ _ _ ?hI ?h1 ?h2 ?h3 ?h4) ?k1 ?k2 ?_; (case k1 => k_all); (case k2 => k_all); (case hI => assumption); (case h1 => assumption); (case h2 => assumption); (case h3 => assumption); (case h4 => assumption)); intro r kept new h' tk' F' N' hpost; (try k_fold); (obtain ⟨t', k', tl', tk', hat'⟩ := hpost); (try dsimp only [lexL] at N'); o_facts N'))
local macro_rules | `(tactic| walk_at "call ref") => `(tactic| (k_here; (with_reducible show wpAny _ _ (call (Value.ref 33) _ _) _ _ _); k_dflt (refine' ctr_useA (ins_ctr _ _ _ _ _ _ _ _ _ _ _ _ _ _ _ _ _ _ _ ?hl ?d1 ?d2 ?hri ?hlen ?hx0 ?hx6 ?hb ?hds ?a1 ?a2 ?a3 ?a4 ?a5 ?a6) ?k1 ?k2 ?_; (case k1 => k_all); (case k2 => k_all); (case hl => exact rfl); (case d1 => assumption); (case d2 => assumption); (case hri => assumption); (case hlen => omega); (case hx0 => omega); (case hx6 => omega); (case hb => assumption); (case hds => assumption); (case a1 => k_ne); (case a2 => k_ne); (case a3 => k_ne); (case a4 => k_ne); (case a5 => k_ne); (case a6 => k_ne)); intro r kept new h' tk' F' N' hpost; (try k_fold); (obtain ⟨rv', ri', rn', e1, e2, e3, hri', hds', hpm'⟩ := hpost); subst e1 e2 e3; o_facts N'))
theorem fr_same {g h : Heap} {L : Addr} {m₁ m₀ : Str → Option Value} {x : Str} {v : Value} (F : Fr g L h (fun y => if y = x then some v else m₁ y)) (hm : ∀ z, z ≠ x → m₁ z = m₀ z) : Fr g L h (fun y => if y = x then some v else m₀ y) := by
  have e : (fun y => if y = x then some v else m₁ y) = fun y => if y = x then some v else m₀ y := by
    funext y
    by_cases hy : y = x
    · rw [if_pos hy, if_pos hy]
    · rw [if_neg hy, if_neg hy, hm y hy]
  exact e ▸ F
theorem fr_out {g h : Heap} {L : Addr} {m₁ m₀ : Str → Option Value} {x : Str} (F : Fr g L h m₁) (hm : ∀ z, z ≠ x → m₁ z = m₀ z) : Fr g L h (fun y => if y = x then m₁ y else m₀ y) := by
  have e : m₁ = fun y => if y = x then m₁ y else m₀ y := by
    funext y
    by_cases hy : y = x
    · rw [if_pos hy]
    · rw [if_neg hy, hm y hy]
  exact e ▸ F
theorem bnd_perm {l' l : List Int} {x : Int} (hp : l'.Perm (x :: l)) (h0 : 0 ≤ x) (h6 : x ≤ 6) (h : ∀ y ∈ l, 0 ≤ y ∧ y ≤ 6) : ∀ y ∈ l', 0 ≤ y ∧ y ≤ 6 := fun y hy => by
  rcases List.mem_cons.mp (hp.mem_iff.mp hy) with rfl | hy
  · exact ⟨h0, h6⟩
  · exact h y hy
theorem flip_ne {nx : Led} {I : Addr} (h : ∀ q ∈ nx, q.1 ≠ I) : ∀ q ∈ nx, I ≠ q.1 := fun q hq e => h q hq e.symm
def OrdJ (w : World) (I : LX) (room : Int) (cs : List Int) (n nb : Nat) (la : Addr) (m₀ : Str → Option Value) (i : Nat) (m : Str → Option Value) (nx : Led) : Prop :=
  ∃ rest ln k tl tk rv ri rn, At I.page k rest ∧ LexSt room (cs.drop i) (1 + i) rest ln ∧ IntsAre rv ri ∧ Desc ri ∧ (∀ y ∈ ri, 0 ≤ y ∧ y ≤ 6) ∧ ri.Perm ((cs.take i).map fun c => 14 + c.fmod room - 13) ∧ (∀ z, z ≠ Str.ofString "turn" → m z = m₀ z) ∧
    ((i = 0 ∧ nx = (la, W.listOf rv.toArray rn) :: (lexL w I ln k tl tk n [] nb ++ [(123, tabObj #[])])) ∨
     (0 < i ∧ ∃ c oc vs tq, oc.data = .fields vs ∧ vs[1]? = some (.str (Str.ofString "_law_in_order" ++ Str.ofString ".<locals>." ++ Str.ofString "<lambda>") tq) ∧ c ≠ la ∧ (∀ b ∈ [I.x, I.dx, I.st, I.ds, I.fn, I.cc, I.cA, I.cP, I.al, I.pb], c ≠ b) ∧ c ≠ (123 : Addr) ∧
       nx = (la, W.listOf rv.toArray rn) :: (lexL w I ln k tl tk n [] nb ++ [(123, tabObj #[rawInt 183, rawInt 73, .ref c]), (c, oc)])))
theorem ord_close {w : World} {I : LX} {room : Int} {cs : List Int} {n nb : Nat} {la : Addr} {m₀ : Str → Option Value} {i : Nat} {g h' : Heap} {L Ia c : Addr} {oI oc : Obj} {v : Value} {all : Led} {r' : List Nat} {ln' k x : Int} {tl tk : Tok} {rv' : List Value} {ri ri' : List Int} {rn' tk1 : Nat} {s : Shared} {Q : Flow → Shared → Prop} {vs : Array Value} {tq : Tok}
    (F : Fr g L h' (fun y => if y = Str.ofString "turn" then some v else m₀ y)) (N : News g L h' all) (hat : At I.page k r') (hst : LexSt room (cs.drop (i + 1)) (1 + (i : Int) + 1) r' ln') (hri : IntsAre rv' ri') (hds : Desc ri') (hpm' : ri'.Perm (x :: ri))
    (hpm : ri.Perm ((cs.take i).map fun c => 14 + c.fmod room - 13)) (hc1 : (cs.take (i + 1)).map (fun c => 14 + c.fmod room - 13) = (cs.take i).map (fun c => 14 + c.fmod room - 13) ++ [x]) (hbd : ∀ y ∈ ri, 0 ≤ y ∧ y ≤ 6) (hx0 : 0 ≤ x) (hx6 : x ≤ 6)
    (d1 : oc.data = .fields vs) (d2 : vs[1]? = some (.str (Str.ofString "_law_in_order" ++ Str.ofString ".<locals>." ++ Str.ofString "<lambda>") tq))
    (c1 : c ≠ la) (c2 : ∀ b ∈ [I.x, I.dx, I.st, I.ds, I.fn, I.cc, I.cA, I.cP, I.al, I.pb], c ≠ b) (c3 : c ≠ (123 : Addr)) (c4 : c ≠ Ia) (off : ∀ b ∈ [la, I.x, I.dx, I.st, I.ds, I.fn, I.cc, I.cA, I.cP, I.al, I.pb, (123 : Addr)], b ≠ Ia)
    (sub : ∀ q ∈ (Ia, oI) :: (la, W.listOf rv'.toArray rn') :: (lexL w I ln' k tl tk n [] nb ++ [(123, tabObj #[rawInt 183, rawInt 73, .ref c]), (c, oc)]), q ∈ all) :
    FreePost g L (OrdJ w I room cs n nb la m₀ (i + 1)) Ia oI s Q .next { s with heap := h', toks := tk1 } := by
  have hst2 : LexSt room (cs.drop (i + 1)) (1 + ((i + 1 : Nat) : Int)) r' ln' := by
    rw [show (1 + ((i + 1 : Nat) : Int)) = 1 + (i : Int) + 1 by omega]; exact hst
  have hpm2 := hpm'.trans ((List.Perm.cons _ hpm).trans (List.perm_append_singleton _ _).symm)
  rw [← hc1] at hpm2
  refine ⟨h', tk1, _, _, rfl, F, kst_newsOf N sub, ?_, r', ln', k, tl, tk, rv', ri', rn', hat, hst2, hri, hds, bnd_perm hpm' hx0 hx6 hbd, hpm2, fun z hz => if_neg hz, .inr ⟨Nat.succ_pos _, c, oc, vs, tq, d1, d2, c1, c2, c3, rfl⟩⟩
  simp only [List.forall_mem_cons, List.not_mem_nil, false_implies, implies_true, and_true] at off
  obtain ⟨o1, o2, o3, o4, o5, o6, o7, o8, o9, o10, o11, o12⟩ := off
  simp only [List.cons_append, List.nil_append, List.forall_mem_cons, List.not_mem_nil, false_implies, implies_true, and_true]
  exact ⟨o1, o2, o3, o4, o5, o6, o7, o8, o9, o10, o11, o12, c4⟩
theorem lexO_ws {r : List Nat} {ln : Int} : lexO (10 :: r) ln = lexO r (ln + 1) := by
  rw [lexO, if_pos (by decide)]; rfl
theorem sign_cases {i : Int} (h0 : 0 ≤ i) (h6 : i < 6) : ∃ c : Nat, sgnL.getD i.toNat 0 = c ∧ sg i = sOf c ∧ wsC c = false ∧ c ≠ 34 ∧ c ≠ 92 ∧ c ≠ 10 := by
  rcases six h0 h6 with rfl | rfl | rfl | rfl | rfl | rfl <;> exact ⟨_, rfl, rfl, by decide, by decide, by decide, by decide⟩
theorem app_nil (c : Nat) : Str.ofString "" ++ sOf c = sOf c := by
  show (⟨_⟩ : Str) = ⟨_⟩
  rfl
theorem lex_dress {room z : Int} (h0 : 0 ≤ z.fmod room) (h6 : z.fmod room < 6) (r : List Nat) (ln : Int) :
    lexO (dressed room z ++ r) ln = (sg (z.fmod room), r, ln + 1) ∨ lexO (dressed room z ++ r) ln = (sg (z.fmod room), 10 :: r, ln) := by
  obtain ⟨c, e1, e2, w1, w2, w3, w4⟩ := sign_cases h0 h6
  unfold dressed
  rw [e1, e2]
  split
  · left
    rw [List.cons_append, lexO, if_neg (by decide), if_neg (by decide)]
    show lexP (escR 92 ([c, 10] ++ r)) (Str.ofString "" ++ escS 92 ([c, 10] ++ r)) (escL 92 ([c, 10] ++ r) ln) = _
    show lexP (10 :: r) (Str.ofString "" ++ sOf c) (nlC c ln) = _
    rw [lexP, if_pos (by decide), app_nil, show nlC c ln = ln from if_neg w4]
    rfl
  · split
    · right
      rw [List.cons_append, lexO, if_neg (by decide), if_pos rfl]
      show lexQ (c :: 34 :: 10 :: r) _ _ = _
      rw [lexQ, if_neg w2]
      show lexQ (escR c (34 :: 10 :: r)) (_ ++ escS c (34 :: 10 :: r)) (escL c (34 :: 10 :: r) ln) = _
      rw [show escR c (34 :: 10 :: r) = 34 :: 10 :: r from if_neg w3, show escS c (34 :: 10 :: r) = sOf c from if_neg w3, show escL c (34 :: 10 :: r) ln = nlC c ln from if_neg w3, app_nil, show nlC c ln = ln from if_neg w4, lexQ, if_pos rfl]
    · left
      rw [List.cons_append, lexO, if_neg (by rw [w1]; decide), if_neg w2]
      show lexP (escR c (10 :: r)) (_ ++ escS c (10 :: r)) (escL c (10 :: r) ln) = _
      rw [show escR c (10 :: r) = 10 :: r from if_neg w3, show escS c (10 :: r) = sOf c from if_neg w3, show escL c (10 :: r) ln = nlC c ln from if_neg w3, app_nil, show nlC c ln = ln from if_neg w4, lexP, if_pos (by decide)]
      rfl
theorem lex_st {room c : Int} {r : List Int} {L : Int} {rest : List Nat} {ln : Int} (h : LexSt room (c :: r) L rest ln) (h0 : 0 ≤ c.fmod room) (h6 : c.fmod room < 6) :
    ∃ r' ln', lexO rest ln = (sg (c.fmod room), r', ln') ∧ LexSt room r (L + 1) r' ln' := by
  have key : lexO rest ln = lexO (dressed room c ++ pageOf room r) L := by
    rcases h with ⟨h1, h2⟩ | ⟨h1, h2⟩
    · subst h1 h2; rfl
    · subst h1 h2; rw [lexO_ws]; rfl
  rcases lex_dress h0 h6 (pageOf room r) L with e | e
  · exact ⟨_, _, key.trans e, .inl ⟨rfl, rfl⟩⟩
  · exact ⟨_, _, key.trans e, .inr ⟨rfl, rfl⟩⟩
theorem lex_end {room L : Int} {rest : List Nat} {ln : Int} (h : LexSt room [] L rest ln) : lexO rest ln = (Str.ofString "", [], L) := by
  rcases h with ⟨h1, h2⟩ | ⟨h1, h2⟩
  · subst h1 h2; rfl
  · subst h1 h2; rw [lexO_ws]; rfl
theorem st_len {room : Int} {r : List Int} {L : Int} {rest : List Nat} {ln : Int} (h : LexSt room r L rest ln) : rest.length ≤ 4 * r.length + 1 ∧ L - 1 ≤ ln ∧ ln ≤ L := by
  have h9 := pageOf_len room r
  rcases h with ⟨h1, h2⟩ | ⟨h1, h2⟩
  · subst h1 h2; omega
  · subst h1 h2; rw [List.length_cons]; omega
theorem offA {a b : Addr} {l : List Addr} (h : ∀ b ∈ l, a ≠ b) (hm : b ∈ l) : a ≠ b := h b hm
theorem offB {a b : Addr} {l : List Addr} (h : ∀ b ∈ l, b ≠ a) (hm : b ∈ l) : b ≠ a := h b hm
theorem offP {q : Led} {a : Addr} {o : Obj} {b : Addr} (h : ∀ x ∈ q, x.1 ≠ b) (hm : (a, o) ∈ q) : a ≠ b := h _ hm
theorem offQ {q : Led} {a : Addr} {o : Obj} {b : Addr} (h : ∀ x ∈ q, b ≠ x.1) (hm : (a, o) ∈ q) : b ≠ a := h _ hm
local macro_rules | `(tactic| k_ne) => `(tactic| first | assumption | exact offA (by assumption) (by k_mem) | exact offB (by assumption) (by k_mem) | exact offP (by assumption) (by k_mem) | exact offQ (by assumption) (by k_mem))
local macro_rules | `(tactic| walk_at "execs cons") => `(tactic| (k_here; k_fold; walk_at "execs cons"))
set_option maxHeartbeats 8000000 in
theorem order_ctr (w : World) (I : LX) (room : Int) (cs : List Int) (rest : List Nat) (ln k : Int) (tl tkk : Tok) (n nb : Nat) (hI : LXok w I) (hat : At I.page k rest) (hst : LexSt room cs 1 rest ln) (hcs : cs.length = 6) (hr3 : 3 ≤ room) (hr6 : room ≤ 6) (h123 : ∀ b ∈ [I.x, I.dx, I.st, I.ds, I.fn, I.cc, I.cA, I.cP, I.al, I.pb], (123 : Addr) ≠ b) (t6 : Tok) :
   Ctr w 128 [.ref I.x, .int 6 t6] [] 10 (fun _ => True) (lexL w I ln k tl tkk n [] nb ++ [(123, tabObj #[])])
     (fun r kept new => ∃ a rv ri rn rest' ln' k' tl' tk' ps, r = .ref a ∧ new = [(a, W.listOf rv.toArray rn)] ∧ IntsAre rv ri ∧ Desc ri ∧ ri.Perm (cs.map fun c => 14 + c.fmod room - 13) ∧ At I.page k' rest' ∧ LexSt room [] 7 rest' ln' ∧ kept = lexL w I ln' k' tl' tk' n [] nb ++ [(123, tabObj ps)]) := by
  w_top off
  revert w I room cs rest ln k tl tkk n nb hI hat hst hcs hr3 hr6 h123 t6
  first | (refine no_implicit_lambda% (skol4 (by first | exact ⟨default⟩ | exact neWorld | exact neShared | exact neAround | exact neLX) (by first | exact ⟨default⟩ | exact neWorld | exact neShared | exact neAround | exact neLX) (by first | exact ⟨default⟩ | exact neWorld | exact neShared | exact neAround | exact neLX) (by first | exact ⟨default⟩ | exact neWorld | exact neShared | exact neAround | exact neLX) ?_); generalize @sk4a _ _ _ _ _ _ _ _ _ = w; generalize @sk4b _ _ _ _ _ _ _ _ _ = I; generalize @sk4c _ _ _ _ _ _ _ _ _ = room; generalize @sk4d _ _ _ _ _ _ _ _ _ = cs) | ((first | ((first | refine no_implicit_lambda% (skol ?_) | refine no_implicit_lambda% (skolW ?_) | refine no_implicit_lambda% (skolL ?_) | refine no_implicit_lambda% (skolS ?_) | refine no_implicit_lambda% (skolA ?_)); generalize @skz _ _ _ = w) | intro w); (first | ((first | refine no_implicit_lambda% (skol ?_) | refine no_implicit_lambda% (skolW ?_) | refine no_implicit_lambda% (skolL ?_) | refine no_implicit_lambda% (skolS ?_) | refine no_implicit_lambda% (skolA ?_)); generalize @skz _ _ _ = I) | intro I); (first | ((first | refine no_implicit_lambda% (skol ?_) | refine no_implicit_lambda% (skolW ?_) | refine no_implicit_lambda% (skolL ?_) | refine no_implicit_lambda% (skolS ?_) | refine no_implicit_lambda% (skolA ?_)); generalize @skz _ _ _ = room) | intro room); (first | ((first | refine no_implicit_lambda% (skol ?_) | refine no_implicit_lambda% (skolW ?_) | refine no_implicit_lambda% (skolL ?_) | refine no_implicit_lambda% (skolS ?_) | refine no_implicit_lambda% (skolA ?_)); generalize @skz _ _ _ = cs) | intro cs))
  first | (refine no_implicit_lambda% (skol4 (by first | exact ⟨default⟩ | exact neWorld | exact neShared | exact neAround | exact neLX) (by first | exact ⟨default⟩ | exact neWorld | exact neShared | exact neAround | exact neLX) (by first | exact ⟨default⟩ | exact neWorld | exact neShared | exact neAround | exact neLX) (by first | exact ⟨default⟩ | exact neWorld | exact neShared | exact neAround | exact neLX) ?_); generalize @sk4a _ _ _ _ _ _ _ _ _ = rest; generalize @sk4b _ _ _ _ _ _ _ _ _ = ln; generalize @sk4c _ _ _ _ _ _ _ _ _ = k; generalize @sk4d _ _ _ _ _ _ _ _ _ = tl) | ((first | ((first | refine no_implicit_lambda% (skol ?_) | refine no_implicit_lambda% (skolW ?_) | refine no_implicit_lambda% (skolL ?_) | refine no_implicit_lambda% (skolS ?_) | refine no_implicit_lambda% (skolA ?_)); generalize @skz _ _ _ = rest) | intro rest); (first | ((first | refine no_implicit_lambda% (skol ?_) | refine no_implicit_lambda% (skolW ?_) | refine no_implicit_lambda% (skolL ?_) | refine no_implicit_lambda% (skolS ?_) | refine no_implicit_lambda% (skolA ?_)); generalize @skz _ _ _ = ln) | intro ln); (first | ((first | refine no_implicit_lambda% (skol ?_) | refine no_implicit_lambda% (skolW ?_) | refine no_implicit_lambda% (skolL ?_) | refine no_implicit_lambda% (skolS ?_) | refine no_implicit_lambda% (skolA ?_)); generalize @skz _ _ _ = k) | intro k); (first | ((first | refine no_implicit_lambda% (skol ?_) | refine no_implicit_lambda% (skolW ?_) | refine no_implicit_lambda% (skolL ?_) | refine no_implicit_lambda% (skolS ?_) | refine no_implicit_lambda% (skolA ?_)); generalize @skz _ _ _ = tl) | intro tl))
  first | ((first | refine no_implicit_lambda% (skol ?_) | refine no_implicit_lambda% (skolW ?_) | refine no_implicit_lambda% (skolL ?_) | refine no_implicit_lambda% (skolS ?_) | refine no_implicit_lambda% (skolA ?_)); generalize @skz _ _ _ = tkk) | intro tkk
  first | ((first | refine no_implicit_lambda% (skol ?_) | refine no_implicit_lambda% (skolW ?_) | refine no_implicit_lambda% (skolL ?_) | refine no_implicit_lambda% (skolS ?_) | refine no_implicit_lambda% (skolA ?_)); generalize @skz _ _ _ = n) | intro n
  first | ((first | refine no_implicit_lambda% (skol ?_) | refine no_implicit_lambda% (skolW ?_) | refine no_implicit_lambda% (skolL ?_) | refine no_implicit_lambda% (skolS ?_) | refine no_implicit_lambda% (skolA ?_)); generalize @skz _ _ _ = nb) | intro nb
  first | ((first | refine no_implicit_lambda% (skol ?_) | refine no_implicit_lambda% (skolW ?_) | refine no_implicit_lambda% (skolL ?_) | refine no_implicit_lambda% (skolS ?_) | refine no_implicit_lambda% (skolA ?_)); generalize @skz _ _ _ = hI) | intro hI
  first | ((first | refine no_implicit_lambda% (skol ?_) | refine no_implicit_lambda% (skolW ?_) | refine no_implicit_lambda% (skolL ?_) | refine no_implicit_lambda% (skolS ?_) | refine no_implicit_lambda% (skolA ?_)); generalize @skz _ _ _ = hat) | intro hat
  first | ((first | refine no_implicit_lambda% (skol ?_) | refine no_implicit_lambda% (skolW ?_) | refine no_implicit_lambda% (skolL ?_) | refine no_implicit_lambda% (skolS ?_) | refine no_implicit_lambda% (skolA ?_)); generalize @skz _ _ _ = hst) | intro hst
  first | ((first | refine no_implicit_lambda% (skol ?_) | refine no_implicit_lambda% (skolW ?_) | refine no_implicit_lambda% (skolL ?_) | refine no_implicit_lambda% (skolS ?_) | refine no_implicit_lambda% (skolA ?_)); generalize @skz _ _ _ = hcs) | intro hcs
  first | ((first | refine no_implicit_lambda% (skol ?_) | refine no_implicit_lambda% (skolW ?_) | refine no_implicit_lambda% (skolL ?_) | refine no_implicit_lambda% (skolS ?_) | refine no_implicit_lambda% (skolA ?_)); generalize @skz _ _ _ = hr3) | intro hr3
  first | ((first | refine no_implicit_lambda% (skol ?_) | refine no_implicit_lambda% (skolW ?_) | refine no_implicit_lambda% (skolL ?_) | refine no_implicit_lambda% (skolS ?_) | refine no_implicit_lambda% (skolA ?_)); generalize @skz _ _ _ = hr6) | intro hr6
  first | ((first | refine no_implicit_lambda% (skol ?_) | refine no_implicit_lambda% (skolW ?_) | refine no_implicit_lambda% (skolL ?_) | refine no_implicit_lambda% (skolS ?_) | refine no_implicit_lambda% (skolA ?_)); generalize @skz _ _ _ = h123) | intro h123
  first | ((first | refine no_implicit_lambda% (skol ?_) | refine no_implicit_lambda% (skolW ?_) | refine no_implicit_lambda% (skolL ?_) | refine no_implicit_lambda% (skolS ?_) | refine no_implicit_lambda% (skolA ?_)); generalize @skz _ _ _ = t6) | intro t6
  have h321 : ∀ b ∈ [I.x, I.dx, I.st, I.ds, I.fn, I.cc, I.cA, I.cP, I.al, I.pb], b ≠ (123 : Addr) := fun b hb e => h123 b hb e.symm
  have hK0 : (fun w : World => Mine.hd0.heap_1_1 w.params, PySem.Challenge.rw_to0042_01) = (fun w : World => Mine.hd0.heap_1_1 w.params, PySem.Challenge.rw_to0042_01) := by (k_fill; rfl)
  clear hK0
  refine' enter_def [("lexer", .ref I.x), ("many", .int 6 t6)] ?pre ?ho ?hcd ?hb ?hl ?c1 ?c2 ?c3 ?c4 ?_
  case ho => k_is
  case hcd => k_is
  case pre => exact fun _ _ _ _ => trivial
  case hb => exact fun _ _ => BindsTo.of_eq rfl
  case hl => exact locs rfl
  case c1 => rfl
  case c2 => rfl
  case c3 => rfl
  case c4 => decide
  unfold Body
  first | (refine no_implicit_lambda% (skol4 (by first | exact ⟨default⟩ | exact neWorld | exact neShared | exact neAround | exact neLX) (by first | exact ⟨default⟩ | exact neWorld | exact neShared | exact neAround | exact neLX) (by first | exact ⟨default⟩ | exact neWorld | exact neShared | exact neAround | exact neLX) (by first | exact ⟨default⟩ | exact neWorld | exact neShared | exact neAround | exact neLX) ?_); generalize @sk4a _ _ _ _ _ _ _ _ _ = p; generalize @sk4b _ _ _ _ _ _ _ _ _ = loose; generalize @sk4c _ _ _ _ _ _ _ _ _ = mean; generalize @sk4d _ _ _ _ _ _ _ _ _ = mg) | ((first | ((first | refine no_implicit_lambda% (skol ?_) | refine no_implicit_lambda% (skolW ?_) | refine no_implicit_lambda% (skolL ?_) | refine no_implicit_lambda% (skolS ?_) | refine no_implicit_lambda% (skolA ?_)); generalize @skz _ _ _ = p) | intro p); (first | ((first | refine no_implicit_lambda% (skol ?_) | refine no_implicit_lambda% (skolW ?_) | refine no_implicit_lambda% (skolL ?_) | refine no_implicit_lambda% (skolS ?_) | refine no_implicit_lambda% (skolA ?_)); generalize @skz _ _ _ = loose) | intro loose); (first | ((first | refine no_implicit_lambda% (skol ?_) | refine no_implicit_lambda% (skolW ?_) | refine no_implicit_lambda% (skolL ?_) | refine no_implicit_lambda% (skolS ?_) | refine no_implicit_lambda% (skolA ?_)); generalize @skz _ _ _ = mean) | intro mean); (first | ((first | refine no_implicit_lambda% (skol ?_) | refine no_implicit_lambda% (skolW ?_) | refine no_implicit_lambda% (skolL ?_) | refine no_implicit_lambda% (skolS ?_) | refine no_implicit_lambda% (skolA ?_)); generalize @skz _ _ _ = mg) | intro mg))
  first | (refine no_implicit_lambda% (skol4 (by first | exact ⟨default⟩ | exact neWorld | exact neShared | exact neAround | exact neLX) (by first | exact ⟨default⟩ | exact neWorld | exact neShared | exact neAround | exact neLX) (by first | exact ⟨default⟩ | exact neWorld | exact neShared | exact neAround | exact neLX) (by first | exact ⟨default⟩ | exact neWorld | exact neShared | exact neAround | exact neLX) ?_); generalize @sk4a _ _ _ _ _ _ _ _ _ = mb; generalize @sk4b _ _ _ _ _ _ _ _ _ = dp; generalize @sk4c _ _ _ _ _ _ _ _ _ = un; generalize @sk4d _ _ _ _ _ _ _ _ _ = gd) | ((first | ((first | refine no_implicit_lambda% (skol ?_) | refine no_implicit_lambda% (skolW ?_) | refine no_implicit_lambda% (skolL ?_) | refine no_implicit_lambda% (skolS ?_) | refine no_implicit_lambda% (skolA ?_)); generalize @skz _ _ _ = mb) | intro mb); (first | ((first | refine no_implicit_lambda% (skol ?_) | refine no_implicit_lambda% (skolW ?_) | refine no_implicit_lambda% (skolL ?_) | refine no_implicit_lambda% (skolS ?_) | refine no_implicit_lambda% (skolA ?_)); generalize @skz _ _ _ = dp) | intro dp); (first | ((first | refine no_implicit_lambda% (skol ?_) | refine no_implicit_lambda% (skolW ?_) | refine no_implicit_lambda% (skolL ?_) | refine no_implicit_lambda% (skolS ?_) | refine no_implicit_lambda% (skolA ?_)); generalize @skz _ _ _ = un) | intro un); (first | ((first | refine no_implicit_lambda% (skol ?_) | refine no_implicit_lambda% (skolW ?_) | refine no_implicit_lambda% (skolL ?_) | refine no_implicit_lambda% (skolS ?_) | refine no_implicit_lambda% (skolA ?_)); generalize @skz _ _ _ = gd) | intro gd))
  first | (refine no_implicit_lambda% (skol4 (by first | exact ⟨default⟩ | exact neWorld | exact neShared | exact neAround | exact neLX) (by first | exact ⟨default⟩ | exact neWorld | exact neShared | exact neAround | exact neLX) (by first | exact ⟨default⟩ | exact neWorld | exact neShared | exact neAround | exact neLX) (by first | exact ⟨default⟩ | exact neWorld | exact neShared | exact neAround | exact neLX) ?_); generalize @sk4a _ _ _ _ _ _ _ _ _ = outer; generalize @sk4b _ _ _ _ _ _ _ _ _ = A₀; generalize @sk4c _ _ _ _ _ _ _ _ _ = base; generalize @sk4d _ _ _ _ _ _ _ _ _ = g) | ((first | ((first | refine no_implicit_lambda% (skol ?_) | refine no_implicit_lambda% (skolW ?_) | refine no_implicit_lambda% (skolL ?_) | refine no_implicit_lambda% (skolS ?_) | refine no_implicit_lambda% (skolA ?_)); generalize @skz _ _ _ = outer) | intro outer); (first | ((first | refine no_implicit_lambda% (skol ?_) | refine no_implicit_lambda% (skolW ?_) | refine no_implicit_lambda% (skolL ?_) | refine no_implicit_lambda% (skolS ?_) | refine no_implicit_lambda% (skolA ?_)); generalize @skz _ _ _ = A₀) | intro A₀); (first | ((first | refine no_implicit_lambda% (skol ?_) | refine no_implicit_lambda% (skolW ?_) | refine no_implicit_lambda% (skolL ?_) | refine no_implicit_lambda% (skolS ?_) | refine no_implicit_lambda% (skolA ?_)); generalize @skz _ _ _ = base) | intro base); (first | ((first | refine no_implicit_lambda% (skol ?_) | refine no_implicit_lambda% (skolW ?_) | refine no_implicit_lambda% (skolL ?_) | refine no_implicit_lambda% (skolS ?_) | refine no_implicit_lambda% (skolA ?_)); generalize @skz _ _ _ = g) | intro g))
  first | ((first | refine no_implicit_lambda% (skol ?_) | refine no_implicit_lambda% (skolW ?_) | refine no_implicit_lambda% (skolL ?_) | refine no_implicit_lambda% (skolS ?_) | refine no_implicit_lambda% (skolA ?_)); generalize @skz _ _ _ = h₁) | intro h₁
  first | ((first | refine no_implicit_lambda% (skol ?_) | refine no_implicit_lambda% (skolW ?_) | refine no_implicit_lambda% (skolL ?_) | refine no_implicit_lambda% (skolS ?_) | refine no_implicit_lambda% (skolA ?_)); generalize @skz _ _ _ = L') | intro L'
  first | ((first | refine no_implicit_lambda% (skol ?_) | refine no_implicit_lambda% (skolW ?_) | refine no_implicit_lambda% (skolL ?_) | refine no_implicit_lambda% (skolS ?_) | refine no_implicit_lambda% (skolA ?_)); generalize @skz _ _ _ = s) | intro s
  intro B
  intro F
  intro X
  intro N
  intro T
  intro hd
  intro hu
  intro hp
  dsimp only [lexL, List.cons_append, List.nil_append] at N
  k_steps
  refine Hold.mk ?_
  rename Fr _ _ _ _ => F
  rename News _ _ _ _ => N
  rename IsRange _ _ _ _ _ _ _ _ => rg
  rename _ < _ ∧ _ => hla
  refine range_free (OrdJ w I room cs n nb _ _) rfl rg (small_one (by omega) (by omega) (by omega) (by omega)) (rangeSize_nat _ _) F N ⟨rest, ln, k, tl, tkk, [], [], 0, hat, hst, .nil, fun i j _ h => absurd h (Nat.not_lt_zero _), fun _ h => (nomatch h), .nil, fun _ _ => rfl, .inl ⟨rfl, rfl⟩⟩ ?_ ?_
  · rintro i t m₁ nx h tk Ia oI hin ⟨rest, ln, k, tl, tkk, rv, ri, rn, hat, hst, hri, hds, hbd, hpm, hm, hcase⟩ hoff F N
    replace F := fr_same F hm
    have hi6 : i < 6 := hin
    have hil : i < cs.length := by omega
    rw [List.drop_eq_getElem_cons hil] at hst
    have hc1 : (cs.take (i + 1)).map (fun c => 14 + c.fmod room - 13) = (cs.take i).map (fun c => 14 + c.fmod room - 13) ++ [14 + (cs[i]).fmod room - 13] := by
      rw [List.take_add_one, List.getElem?_eq_getElem hil, List.map_append]; rfl
    generalize cs[i] = c at hst hc1
    have hcl : (cs.drop (i + 1)).length ≤ 5 := by rw [List.length_drop]; omega
    have hm0 : 0 ≤ c.fmod room := Int.fmod_nonneg_of_pos _ (by omega)
    have hm6 : c.fmod room < room := Int.fmod_lt_of_pos _ (by omega)
    have hlen := st_len hst
    rw [List.length_cons] at hlen
    (try k_fold)
    obtain ⟨r', ln', hlex, hst'⟩ := lex_st hst hm0 (by omega)
    have hln0 : 0 ≤ ln := by omega
    have hln1 : ln + rest.length ≤ 1000 := by omega
    have hrl := hpm.length_eq
    rw [List.length_map, List.length_take] at hrl
    have hrl5 : ri.length ≤ 5 := by omega
    have CH := codeHd_io X
    rcases hcase with ⟨hi0, rfl⟩ | ⟨hi0, cA', ocA, vsA, tqA, hA1, hA2, hA3, hA4, hA5, rfl⟩
    · dsimp only [lexL, List.cons_append, List.nil_append] at N hoff
      have hoff2 := flip_ne hoff
      k_steps
      · rename Fr _ _ _ _ => F'
        rename News _ _ _ _ => N'
        rename At I.page _ r' => hat'
        rename IntsAre _ _ => hri'
        rename Desc _ => hds'
        rename List.Perm _ (_ :: _) => hpm'
        rename _ = Data.fields _ => d1
        rename _ = some (Value.str _ _) => d2
        rename _ < _ ∧ _ => l1
        obtain ⟨_, _, _, _, _, _, _, _, _, _, lIa, _, _⟩ := l1
        refine' ord_close F' N' hat' hst' hri' hds' hpm' hpm hc1 hbd (by omega) (by omega) d1 d2 ?c1 ?c2 ?c3 ?c4 ?off ?sub
        case sub =>
          dsimp only [lexL, List.cons_append, List.nil_append]
          repeat' (first | (refine List.forall_mem_cons.mpr ⟨?_, ?_⟩) | exact List.forall_mem_nil _)
          all_goals (repeat (first | exact List.Mem.head _ | apply List.Mem.tail))
        case off => simp only [List.forall_mem_cons, List.not_mem_nil, false_implies, implies_true, and_true]; exact ⟨by k_ne, by k_ne, by k_ne, by k_ne, by k_ne, by k_ne, by k_ne, by k_ne, by k_ne, by k_ne, by k_ne, by k_ne⟩
        case c1 => exact Nat.ne_of_gt (by assumption)
        case c2 =>
          simp only [List.forall_mem_cons, List.not_mem_nil, false_implies, implies_true, and_true]
          refine ⟨?_, ?_, ?_, ?_, ?_, ?_, ?_, ?_, ?_, ?_⟩ <;> exact Nat.ne_of_gt (by assumption)
        case c3 => exact Nat.ne_of_gt (by assumption)
        case c4 => exact Nat.ne_of_gt (by assumption)
    · have hA6 : ∀ b ∈ [I.x, I.dx, I.st, I.ds, I.fn, I.cc, I.cA, I.cP, I.al, I.pb], b ≠ cA' := fun b hb e => hA4 b hb e.symm
      have hA7 := hA3.symm
      have hA8 := hA5.symm
      dsimp only [lexL, List.cons_append, List.nil_append] at N hoff
      have hoff2 := flip_ne hoff
      k_steps
      · rename Fr _ _ _ _ => F'
        rename News _ _ _ _ => N'
        rename At I.page _ r' => hat'
        rename IntsAre _ _ => hri'
        rename Desc _ => hds'
        rename List.Perm _ (_ :: _) => hpm'
        skip
        refine' ord_close F' N' hat' hst' hri' hds' hpm' hpm hc1 hbd (by omega) (by omega) hA1 hA2 ?zc1 ?zc2 ?zc3 ?zc4 ?zoff ?zsub
        case zsub =>
          dsimp only [lexL, List.cons_append, List.nil_append]
          repeat' (first | (refine List.forall_mem_cons.mpr ⟨?_, ?_⟩) | exact List.forall_mem_nil _)
          all_goals (repeat (first | exact List.Mem.head _ | apply List.Mem.tail))
        case zoff => simp only [List.forall_mem_cons, List.not_mem_nil, false_implies, implies_true, and_true]; exact ⟨by k_ne, by k_ne, by k_ne, by k_ne, by k_ne, by k_ne, by k_ne, by k_ne, by k_ne, by k_ne, by k_ne, by k_ne⟩
        case zc1 => exact hA3
        case zc2 => exact hA4
        case zc3 => exact hA5
        case zc4 => k_ne
  · rintro m₁ nx h tk ⟨rest, ln, k, tl, tkk, rv, ri, rn, hat, hst, hri, hds, hbd, hpm, hm, hcase⟩ F N
    rcases hcase with ⟨hi0, _⟩ | ⟨hi0, cA', ocA, vsA, tqA, hA1, hA2, hA3, hA4, hA5, rfl⟩
    · exact absurd hi0 (by decide)
    · have F2 := fr_out F hm
      dsimp only [lexL, List.cons_append, List.nil_append] at N
      rw [List.take_of_length_le (by rw [hcs]; exact Nat.le_refl 6)] at hpm
      rw [List.drop_eq_nil_of_le (by rw [hcs]; exact Nat.le_refl 6)] at hst
      clear F
      k_steps
      rename Fr _ _ _ _ => F'
      rename News _ _ _ _ => N'
      try dsimp only
      refine Done.intro (lexL w I ln k tl tkk n [] nb ++ [(123, tabObj #[rawInt 183, rawInt 73, .ref cA'])]) [(_, W.listOf rv.toArray rn)] F' N' (by dsimp only [lexL, List.cons_append, List.nil_append]; k_all) (by k_all) ?_ ?_
      · try dsimp only [lexL, List.cons_append, List.nil_append]
        simp only [List.forall_mem_cons, List.not_mem_nil, false_implies, implies_true, and_true]
        obtain ⟨_, _, _, _, _, _, _, _, _, _, _⟩ := hla
        refine ⟨?_, ?_, ?_, ?_, ?_, ?_, ?_, ?_, ?_, ?_, ?_⟩ <;> exact Nat.ne_of_gt (by assumption)
      · exact ⟨_, rv, ri, rn, rest, ln, k, tl, tkk, _, rfl, rfl, hri, hds, hpm, hat, hst, rfl⟩
end Mine
end
section
open PySem PySem.W PyProof.Rows PySem.Calls
set_option maxRecDepth 100000
namespace Mine
local macro_rules | `(tactic| walk_at "zz") => `(tactic| skip)
local macro_rules | `(tactic| walk_at "call ref") => `(tactic| (k_here; (with_reducible show wpAny _ _ (call (Value.ref 51) _ _) _ _ _); k_dflt (refine' ctr_useA (bl_ctr _ _ _ _ _ _ _ _ _ _ _ _ _ _ _ _ _ _ _ _ _ _ ?hl ?d1 ?d2 ?d3 ?hh ?x0 ?p2 ?p6 ?hx ?a1 ?a2 ?a3 ?a4 ?a5 ?a6 ?a7 ?a8 ?a9 ?a10 ?a11 ?a12) ?k1 ?k2 ?_; (case k1 => k_all); (case k2 => k_all); (case hl => exact rfl); (case d1 => assumption); (case d2 => assumption); (case d3 => assumption); (case hh => assumption); (case x0 => ((try assumption) <;> omega)); (case p2 => omega); (case p6 => omega); (case hx => ((try assumption) <;> omega)); (case a1 => k_ne); (case a2 => k_ne); (case a3 => k_ne); (case a4 => k_ne); (case a5 => k_ne); (case a6 => k_ne); (case a7 => k_ne); (case a8 => k_ne); (case a9 => k_ne); (case a10 => k_ne); (case a11 => k_ne); (case a12 => k_ne)); intro r kept new h' tk' F' N' hpost; (obtain ⟨tb', e1, e2, e3⟩ := hpost); subst e1 e2 e3; o_facts N'))
local macro_rules | `(tactic| walk_at "call type:list") => `(tactic| (k_here; (with_reducible show wpAny _ _ (call (Value.type _) [Value.ref _]) _ _ _); (rename IsRange _ _ _ _ _ _ _ _ => rgX); (with_unfolding_all refine' kll_range (n := 64) ?k0 ?k1 ?k2 ?k3 ?k4 ?k5 ?k6 ?_; (case k0 => rfl); (case k1 => k_asm); (case k2 => k_asm); (case k3 => first | exact rgX | assumption); (case k4 => exact rfl); (case k5 => exact rfl); (case k6 => exact Nat.le_of_ble_eq_true rfl); k_whole); intro D' vs' c' h' tk' F' N' l1 hI'; (try k_lt l1); (try k_sweep)))
local macro_rules | `(tactic| walk_at "exec For Name Call cons nil") => `(tactic| (k_here; (with_reducible show wpAny _ _ (exec (Stmt.For _ _ _ _ _) _) _ _ _); refine Hold.out ?_))
local macro_rules | `(tactic| walk_at "pyIter ref") => `(tactic| (k_here; (with_reducible show wpAny _ _ (pyIter (Value.ref _)) _ _ _); refine Hold.out ?_))
local macro_rules | `(tactic| walk_at "subscriptTail") => `(tactic| (k_here; k_dflt (refine' at_last ?N ?m ?z ?_ ?s; (case N => k_asm); (case m => k_mem); (case z => assumption); (case s => with_unfolding_all rfl))))
def drawS (zs : List Int) : Nat → List Int
  | 0 => [(zs.getD 0 0).fmod 3]
  | i + 1 => drawS zs i ++ [leastC ((2 + (i : Int)) * (drawS zs i).getLastD 0) (2 + (i : Int) - 1) + (zs.getD (i + 1) 0).fmod 3]
def capD (i : Nat) : Int := [2, 6, 11, 17, 24, 31].getD i 0
theorem leastC_le {x p c : Int} (hp : 0 < p) (h : x ≤ c * p) : leastC x p ≤ c := by
  unfold leastC
  refine Int.le_of_lt_add_one (Int.ediv_lt_of_lt_mul hp ?_)
  rw [Int.add_mul, Int.one_mul]
  omega
theorem leastC_nn {x p : Int} (hp : 0 < p) (h : 0 ≤ x) : 0 ≤ leastC x p := Int.ediv_nonneg (by omega) (Int.le_of_lt hp)
theorem cap_all : ∀ i < 5, 0 < (2 + ((i : Nat) : Int) - 1) ∧ 0 ≤ (2 + ((i : Nat) : Int)) ∧ (2 + ((i : Nat) : Int)) * capD i ≤ 63 * (2 + (i : Int) - 1) ∧ (2 + (i : Int)) * capD i ≤ (capD (i + 1) - 2) * (2 + (i : Int) - 1) := by decide
theorem cap_next {i : Nat} {b z : Int} (hi : i < 5) (h0 : 0 ≤ b) (h1 : b ≤ capD i) : 0 ≤ (2 + (i : Int)) * b ∧ (2 + (i : Int)) * b ≤ 63 * (2 + (i : Int) - 1) ∧ 0 ≤ leastC ((2 + (i : Int)) * b) (2 + (i : Int) - 1) + z.fmod 3 ∧ leastC ((2 + (i : Int)) * b) (2 + (i : Int) - 1) + z.fmod 3 ≤ capD (i + 1) := by
  have m0 : 0 ≤ z.fmod 3 := Int.fmod_nonneg_of_pos _ (by decide)
  have m1 : z.fmod 3 ≤ 2 := Int.le_of_lt_add_one (Int.fmod_lt_of_pos _ (by decide))
  obtain ⟨c1, c2, c3, c4⟩ := cap_all i hi
  have e1 : (2 + (i : Int)) * b ≤ (2 + (i : Int)) * capD i := Int.mul_le_mul_of_nonneg_left h1 c2
  have e2 : 0 ≤ (2 + (i : Int)) * b := Int.mul_nonneg c2 h0
  have e3 := leastC_le c1 (Int.le_trans e1 c4)
  have e4 : leastC ((2 + (i : Int)) * b) (2 + (i : Int) - 1) + z.fmod 3 ≤ capD (i + 1) - 2 + 2 := Int.add_le_add e3 m1
  rw [Int.sub_add_cancel] at e4
  exact ⟨e2, Int.le_trans e1 c3, Int.add_nonneg (leastC_nn c1 e2) m0, e4⟩
def DrawJ (seats : Int) (zs : List Int) (cp la hA l : Addr) (hv : List Value) (hn : Nat) (vs : List Value) (c : Nat) (m₀ : Str → Option Value) (i : Nat) (m : Str → Option Value) (nx : Led) : Prop :=
  ∃ pv ps b t rn o vo, IntsAre pv ps ∧ ps.length = i ∧ ps ++ [b] = drawS zs i ∧ 0 ≤ b ∧ b ≤ capD i ∧ o.data = .cell vo ∧ (∀ z, z ≠ Str.ofString "least" → m z = m₀ z) ∧
    ((i = 0 ∧ nx = [(la, W.listOf (pv ++ [Value.int b t]).toArray rn), (hA, W.listOf hv.toArray hn), (cp, o), (l, W.listOf vs.toArray c), (147, tabObj #[])]) ∨
     (0 < i ∧ ∃ k oc vk tq, oc.data = .fields vk ∧ vk[1]? = some (.str (Str.ofString "_law_drawn" ++ Str.ofString ".<locals>." ++ Str.ofString "<lambda>") tq) ∧ k ≠ la ∧ k ≠ hA ∧ k ≠ cp ∧ k ≠ l ∧ k ≠ (147 : Addr) ∧
       nx = [(la, W.listOf (pv ++ [Value.int b t]).toArray rn), (hA, W.listOf hv.toArray hn), (cp, o), (l, W.listOf vs.toArray c), (147, tabObj #[rawInt 238, rawInt 59, .ref k]), (k, oc)]))
theorem drw_close {seats : Int} {zs : List Int} {cp la hA l k Ia : Addr} {hv : List Value} {hn : Nat} {vs : List Value} {c : Nat} {m₀ m' : Str → Option Value} {i : Nat} {g h' : Heap} {L : Addr} {oI oc o' : Obj} {vo : Option Value} {all : Led} {pv : List Value} {ps : List Int} {b : Int} {t t2 tq : Tok} {rn tk1 : Nat} {s : Shared} {Q : Flow → Shared → Prop} {vk : Array Value}
    (F : Fr g L h' m') (N : News g L h' all) (hm : ∀ z, z ≠ Str.ofString "least" → m' z = m₀ z) (hpi : IntsAre pv ps) (hpl : ps.length = i) (hi : i < 5) (hdr : ps ++ [b] = drawS zs i) (h0 : 0 ≤ b) (h1 : b ≤ capD i) (hod : o'.data = .cell vo) (hk1 : oc.data = .fields vk)
    (hk2 : vk[1]? = some (.str (Str.ofString "_law_drawn" ++ Str.ofString ".<locals>." ++ Str.ofString "<lambda>") tq)) (hk3 : k ≠ la) (hk4 : k ≠ hA) (hk5 : k ≠ cp) (hk6 : k ≠ l) (hk7 : k ≠ (147 : Addr)) (hk8 : k ≠ Ia) (off : ∀ b ∈ [la, hA, cp, l, (147 : Addr)], b ≠ Ia)
    (sub : ∀ q ∈ [(Ia, oI), (la, W.listOf (pv ++ [Value.int b t] ++ [Value.int (leastC ((2 + (i : Int)) * b) (2 + (i : Int) - 1) + (zs.getD (2 + (i : Int) - 1).toNat 0).fmod 3) t2]).toArray (rn + 1)), (hA, W.listOf hv.toArray hn), (cp, o'), (l, W.listOf vs.toArray c), (147, tabObj #[rawInt 238, rawInt 59, .ref k]), (k, oc)], q ∈ all) :
    FreePost g L (DrawJ seats zs cp la hA l hv hn vs c m₀ (i + 1)) Ia oI s Q .next { s with heap := h', toks := tk1 } := by
  obtain ⟨x0, x1, y0, y1⟩ := cap_next (z := zs.getD (i + 1) 0) hi h0 h1
  have e1 : (2 + (i : Int) - 1).toNat = i + 1 := by omega
  rw [e1] at sub
  have hlast : (ps ++ [b]).getLastD 0 = b := by rw [List.getLastD_eq_getLast?, List.getLast?_append]; rfl
  refine ⟨h', tk1, _, _, rfl, F, kst_newsOf N sub, ?_, pv ++ [Value.int b t], ps ++ [b], _, t2, rn + 1, o', vo, hpi.append (.cons _ _ .nil), by rw [List.length_append, hpl]; rfl, ?_, y0, y1, hod, hm, .inr ⟨Nat.succ_pos _, k, oc, vk, tq, hk1, hk2, hk3, hk4, hk5, hk6, hk7, rfl⟩⟩
  · simp only [List.forall_mem_cons, List.not_mem_nil, false_implies, implies_true, and_true] at off
    obtain ⟨o1, o2, o3, o4, o5⟩ := off
    simp only [List.forall_mem_cons, List.not_mem_nil, false_implies, implies_true, and_true]
    exact ⟨o1, o2, o3, o4, o5, hk8⟩
  · rw [drawS, ← hdr, hlast]
local macro_rules | `(tactic| walk_at "execs cons") => `(tactic| (k_here; (with_reducible show wpAny _ _ _ _ _ (Shared.mk _ _ _ (_ + _) _)); refine Mine.tok_state ?_; intro tq9))
set_option maxHeartbeats 8000000 in
theorem drawn_ctr (w : World) (l : Addr) (vs : List Value) (zs : List Int) (c : Nat) (seats : Int) (ts : Tok) (hi : IntsAre vs zs) (hz6 : zs.length = 6) (h3 : 3 ≤ seats) (h6 : seats ≤ 6) (a1 : l ≠ (147 : Addr)) (a2 : (147 : Addr) ≠ l) :
   Ctr w 152 [.ref l, .int seats ts] [] 20 (fun _ => True) [(l, W.listOf vs.toArray c), (147, tabObj #[])]
     (fun r kept new => ∃ a rv rn ps, r = .ref a ∧ new = [(a, W.listOf rv.toArray rn)] ∧ IntsAre rv (drawS zs (seats - 1).toNat).reverse ∧ kept = [(l, W.listOf vs.toArray c), (147, tabObj ps)]) := by
  w_top off
  revert w l vs zs c seats ts hi hz6 h3 h6 a1 a2
  first | (refine no_implicit_lambda% (skol4 (by first | exact ⟨default⟩ | exact neWorld | exact neShared | exact neAround | exact neLX) (by first | exact ⟨default⟩ | exact neWorld | exact neShared | exact neAround | exact neLX) (by first | exact ⟨default⟩ | exact neWorld | exact neShared | exact neAround | exact neLX) (by first | exact ⟨default⟩ | exact neWorld | exact neShared | exact neAround | exact neLX) ?_); generalize @sk4a _ _ _ _ _ _ _ _ _ = w; generalize @sk4b _ _ _ _ _ _ _ _ _ = l; generalize @sk4c _ _ _ _ _ _ _ _ _ = vs; generalize @sk4d _ _ _ _ _ _ _ _ _ = zs) | ((first | ((first | refine no_implicit_lambda% (skol ?_) | refine no_implicit_lambda% (skolW ?_) | refine no_implicit_lambda% (skolL ?_) | refine no_implicit_lambda% (skolS ?_) | refine no_implicit_lambda% (skolA ?_)); generalize @skz _ _ _ = w) | intro w); (first | ((first | refine no_implicit_lambda% (skol ?_) | refine no_implicit_lambda% (skolW ?_) | refine no_implicit_lambda% (skolL ?_) | refine no_implicit_lambda% (skolS ?_) | refine no_implicit_lambda% (skolA ?_)); generalize @skz _ _ _ = l) | intro l); (first | ((first | refine no_implicit_lambda% (skol ?_) | refine no_implicit_lambda% (skolW ?_) | refine no_implicit_lambda% (skolL ?_) | refine no_implicit_lambda% (skolS ?_) | refine no_implicit_lambda% (skolA ?_)); generalize @skz _ _ _ = vs) | intro vs); (first | ((first | refine no_implicit_lambda% (skol ?_) | refine no_implicit_lambda% (skolW ?_) | refine no_implicit_lambda% (skolL ?_) | refine no_implicit_lambda% (skolS ?_) | refine no_implicit_lambda% (skolA ?_)); generalize @skz _ _ _ = zs) | intro zs))
  first | ((first | refine no_implicit_lambda% (skol ?_) | refine no_implicit_lambda% (skolW ?_) | refine no_implicit_lambda% (skolL ?_) | refine no_implicit_lambda% (skolS ?_) | refine no_implicit_lambda% (skolA ?_)); generalize @skz _ _ _ = c) | intro c
  first | ((first | refine no_implicit_lambda% (skol ?_) | refine no_implicit_lambda% (skolW ?_) | refine no_implicit_lambda% (skolL ?_) | refine no_implicit_lambda% (skolS ?_) | refine no_implicit_lambda% (skolA ?_)); generalize @skz _ _ _ = seats) | intro seats
  first | ((first | refine no_implicit_lambda% (skol ?_) | refine no_implicit_lambda% (skolW ?_) | refine no_implicit_lambda% (skolL ?_) | refine no_implicit_lambda% (skolS ?_) | refine no_implicit_lambda% (skolA ?_)); generalize @skz _ _ _ = ts) | intro ts
  first | ((first | refine no_implicit_lambda% (skol ?_) | refine no_implicit_lambda% (skolW ?_) | refine no_implicit_lambda% (skolL ?_) | refine no_implicit_lambda% (skolS ?_) | refine no_implicit_lambda% (skolA ?_)); generalize @skz _ _ _ = hi) | intro hi
  first | ((first | refine no_implicit_lambda% (skol ?_) | refine no_implicit_lambda% (skolW ?_) | refine no_implicit_lambda% (skolL ?_) | refine no_implicit_lambda% (skolS ?_) | refine no_implicit_lambda% (skolA ?_)); generalize @skz _ _ _ = hz6) | intro hz6
  first | ((first | refine no_implicit_lambda% (skol ?_) | refine no_implicit_lambda% (skolW ?_) | refine no_implicit_lambda% (skolL ?_) | refine no_implicit_lambda% (skolS ?_) | refine no_implicit_lambda% (skolA ?_)); generalize @skz _ _ _ = h3) | intro h3
  first | ((first | refine no_implicit_lambda% (skol ?_) | refine no_implicit_lambda% (skolW ?_) | refine no_implicit_lambda% (skolL ?_) | refine no_implicit_lambda% (skolS ?_) | refine no_implicit_lambda% (skolA ?_)); generalize @skz _ _ _ = h6) | intro h6
  first | ((first | refine no_implicit_lambda% (skol ?_) | refine no_implicit_lambda% (skolW ?_) | refine no_implicit_lambda% (skolL ?_) | refine no_implicit_lambda% (skolS ?_) | refine no_implicit_lambda% (skolA ?_)); generalize @skz _ _ _ = a1) | intro a1
  first | ((first | refine no_implicit_lambda% (skol ?_) | refine no_implicit_lambda% (skolW ?_) | refine no_implicit_lambda% (skolL ?_) | refine no_implicit_lambda% (skolS ?_) | refine no_implicit_lambda% (skolA ?_)); generalize @skz _ _ _ = a2) | intro a2
  have hK0 : (fun w : World => Mine.hd0.heap_1_1 w.params, PySem.Challenge.rw_to0042_01) = (fun w : World => Mine.hd0.heap_1_1 w.params, PySem.Challenge.rw_to0042_01) := by (k_fill; rfl)
  clear hK0
  refine' enter_defC [("cells", .ref l), ("seats", .int seats ts)] ?pre ?ho ?hcd ?hb ?hk ?hn ?c1 ?c2 ?c3 ?_
  case ho => k_is
  case hcd => k_is
  case pre => exact fun _ _ _ _ => trivial
  case hb => exact fun _ _ => BindsTo.of_eq rfl
  case hk => exact rfl
  case hn => decide +kernel
  case c1 => rfl
  case c2 => rfl
  case c3 => rfl
  unfold BodyC
  first | (refine no_implicit_lambda% (skol4 (by first | exact ⟨default⟩ | exact neWorld | exact neShared | exact neAround | exact neLX) (by first | exact ⟨default⟩ | exact neWorld | exact neShared | exact neAround | exact neLX) (by first | exact ⟨default⟩ | exact neWorld | exact neShared | exact neAround | exact neLX) (by first | exact ⟨default⟩ | exact neWorld | exact neShared | exact neAround | exact neLX) ?_); generalize @sk4a _ _ _ _ _ _ _ _ _ = p; generalize @sk4b _ _ _ _ _ _ _ _ _ = loose; generalize @sk4c _ _ _ _ _ _ _ _ _ = mean; generalize @sk4d _ _ _ _ _ _ _ _ _ = mg) | ((first | ((first | refine no_implicit_lambda% (skol ?_) | refine no_implicit_lambda% (skolW ?_) | refine no_implicit_lambda% (skolL ?_) | refine no_implicit_lambda% (skolS ?_) | refine no_implicit_lambda% (skolA ?_)); generalize @skz _ _ _ = p) | intro p); (first | ((first | refine no_implicit_lambda% (skol ?_) | refine no_implicit_lambda% (skolW ?_) | refine no_implicit_lambda% (skolL ?_) | refine no_implicit_lambda% (skolS ?_) | refine no_implicit_lambda% (skolA ?_)); generalize @skz _ _ _ = loose) | intro loose); (first | ((first | refine no_implicit_lambda% (skol ?_) | refine no_implicit_lambda% (skolW ?_) | refine no_implicit_lambda% (skolL ?_) | refine no_implicit_lambda% (skolS ?_) | refine no_implicit_lambda% (skolA ?_)); generalize @skz _ _ _ = mean) | intro mean); (first | ((first | refine no_implicit_lambda% (skol ?_) | refine no_implicit_lambda% (skolW ?_) | refine no_implicit_lambda% (skolL ?_) | refine no_implicit_lambda% (skolS ?_) | refine no_implicit_lambda% (skolA ?_)); generalize @skz _ _ _ = mg) | intro mg))
  first | (refine no_implicit_lambda% (skol4 (by first | exact ⟨default⟩ | exact neWorld | exact neShared | exact neAround | exact neLX) (by first | exact ⟨default⟩ | exact neWorld | exact neShared | exact neAround | exact neLX) (by first | exact ⟨default⟩ | exact neWorld | exact neShared | exact neAround | exact neLX) (by first | exact ⟨default⟩ | exact neWorld | exact neShared | exact neAround | exact neLX) ?_); generalize @sk4a _ _ _ _ _ _ _ _ _ = mb; generalize @sk4b _ _ _ _ _ _ _ _ _ = dp; generalize @sk4c _ _ _ _ _ _ _ _ _ = un; generalize @sk4d _ _ _ _ _ _ _ _ _ = gd) | ((first | ((first | refine no_implicit_lambda% (skol ?_) | refine no_implicit_lambda% (skolW ?_) | refine no_implicit_lambda% (skolL ?_) | refine no_implicit_lambda% (skolS ?_) | refine no_implicit_lambda% (skolA ?_)); generalize @skz _ _ _ = mb) | intro mb); (first | ((first | refine no_implicit_lambda% (skol ?_) | refine no_implicit_lambda% (skolW ?_) | refine no_implicit_lambda% (skolL ?_) | refine no_implicit_lambda% (skolS ?_) | refine no_implicit_lambda% (skolA ?_)); generalize @skz _ _ _ = dp) | intro dp); (first | ((first | refine no_implicit_lambda% (skol ?_) | refine no_implicit_lambda% (skolW ?_) | refine no_implicit_lambda% (skolL ?_) | refine no_implicit_lambda% (skolS ?_) | refine no_implicit_lambda% (skolA ?_)); generalize @skz _ _ _ = un) | intro un); (first | ((first | refine no_implicit_lambda% (skol ?_) | refine no_implicit_lambda% (skolW ?_) | refine no_implicit_lambda% (skolL ?_) | refine no_implicit_lambda% (skolS ?_) | refine no_implicit_lambda% (skolA ?_)); generalize @skz _ _ _ = gd) | intro gd))
  first | (refine no_implicit_lambda% (skol4 (by first | exact ⟨default⟩ | exact neWorld | exact neShared | exact neAround | exact neLX) (by first | exact ⟨default⟩ | exact neWorld | exact neShared | exact neAround | exact neLX) (by first | exact ⟨default⟩ | exact neWorld | exact neShared | exact neAround | exact neLX) (by first | exact ⟨default⟩ | exact neWorld | exact neShared | exact neAround | exact neLX) ?_); generalize @sk4a _ _ _ _ _ _ _ _ _ = outer; generalize @sk4b _ _ _ _ _ _ _ _ _ = A₀; generalize @sk4c _ _ _ _ _ _ _ _ _ = base; generalize @sk4d _ _ _ _ _ _ _ _ _ = g) | ((first | ((first | refine no_implicit_lambda% (skol ?_) | refine no_implicit_lambda% (skolW ?_) | refine no_implicit_lambda% (skolL ?_) | refine no_implicit_lambda% (skolS ?_) | refine no_implicit_lambda% (skolA ?_)); generalize @skz _ _ _ = outer) | intro outer); (first | ((first | refine no_implicit_lambda% (skol ?_) | refine no_implicit_lambda% (skolW ?_) | refine no_implicit_lambda% (skolL ?_) | refine no_implicit_lambda% (skolS ?_) | refine no_implicit_lambda% (skolA ?_)); generalize @skz _ _ _ = A₀) | intro A₀); (first | ((first | refine no_implicit_lambda% (skol ?_) | refine no_implicit_lambda% (skolW ?_) | refine no_implicit_lambda% (skolL ?_) | refine no_implicit_lambda% (skolS ?_) | refine no_implicit_lambda% (skolA ?_)); generalize @skz _ _ _ = base) | intro base); (first | ((first | refine no_implicit_lambda% (skol ?_) | refine no_implicit_lambda% (skolW ?_) | refine no_implicit_lambda% (skolL ?_) | refine no_implicit_lambda% (skolS ?_) | refine no_implicit_lambda% (skolA ?_)); generalize @skz _ _ _ = g) | intro g))
  first | ((first | refine no_implicit_lambda% (skol ?_) | refine no_implicit_lambda% (skolW ?_) | refine no_implicit_lambda% (skolL ?_) | refine no_implicit_lambda% (skolS ?_) | refine no_implicit_lambda% (skolA ?_)); generalize @skz _ _ _ = h₁) | intro h₁
  first | ((first | refine no_implicit_lambda% (skol ?_) | refine no_implicit_lambda% (skolW ?_) | refine no_implicit_lambda% (skolL ?_) | refine no_implicit_lambda% (skolS ?_) | refine no_implicit_lambda% (skolA ?_)); generalize @skz _ _ _ = L') | intro L'
  first | ((first | refine no_implicit_lambda% (skol ?_) | refine no_implicit_lambda% (skolW ?_) | refine no_implicit_lambda% (skolL ?_) | refine no_implicit_lambda% (skolS ?_) | refine no_implicit_lambda% (skolA ?_)); generalize @skz _ _ _ = s) | intro s
  first | ((first | refine no_implicit_lambda% (skol ?_) | refine no_implicit_lambda% (skolW ?_) | refine no_implicit_lambda% (skolL ?_) | refine no_implicit_lambda% (skolS ?_) | refine no_implicit_lambda% (skolA ?_)); generalize @skz _ _ _ = tk₀) | intro tk₀
  first | ((first | refine no_implicit_lambda% (skol ?_) | refine no_implicit_lambda% (skolW ?_) | refine no_implicit_lambda% (skolL ?_) | refine no_implicit_lambda% (skolS ?_) | refine no_implicit_lambda% (skolA ?_)); generalize @skz _ _ _ = cells) | intro cells
  intro B
  intro F
  intro X
  intro N
  intro Y
  intro l0
  intro T
  intro hd
  intro hu
  intro hp
  (k_cells Y); (try simp only [List.cons_append, List.nil_append] at N); (try dsimp only); (try k_fold)
  k_steps
  refine Hold.mk ?_
  rename Fr _ _ _ _ => F
  refine For_turns F ?_
  k_steps
  refine Hold.mk ?_
  rename IsRange _ _ 2 _ _ _ _ _ => rg
  rename Fr _ _ _ _ => F0
  rename News _ _ _ _ => N0
  rename _ < _ ∧ _ ∧ _ ∧ _ => hla
  obtain ⟨ha1, ha2, ha3, ha4⟩ := hla
  rename _ < _ ∧ _ ∧ _ => hhA
  obtain ⟨ha5, ha6, ha7⟩ := hhA
  have hb1 := Nat.ne_of_gt ha1
  have hc1 := Nat.ne_of_lt ha1
  have hb2 := Nat.ne_of_gt ha2
  have hc2 := Nat.ne_of_lt ha2
  have hb3 := Nat.ne_of_gt ha3
  have hc3 := Nat.ne_of_lt ha3
  have hb4 := Nat.ne_of_gt ha4
  have hc4 := Nat.ne_of_lt ha4
  have hb5 := Nat.ne_of_gt ha5
  have hc5 := Nat.ne_of_lt ha5
  have hb6 := Nat.ne_of_gt ha6
  have hc6 := Nat.ne_of_lt ha6
  have hb7 := Nat.ne_of_gt ha7
  have hc7 := Nat.ne_of_lt ha7
  rename Obj.data _ = _ => d0
  rename IntsAre _ (rangeKs 0 64) => hhv
  have hd1 := Nat.ne_of_gt (l0 _ (.head _))
  have hd3 : l ≠ L' + 1 := Nat.ne_of_lt (Nat.lt_succ_of_lt (l0 _ (.head _)))
  have hd4 : L' + 1 ≠ l := hd3.symm
  have hd5 : (147 : Addr) ≠ L' + 1 := Nat.ne_of_lt (Nat.lt_succ_of_lt (l0 _ (.tail _ (.head _))))
  have hd6 : L' + 1 ≠ (147 : Addr) := hd5.symm
  refine range_turns (DrawJ seats zs _ _ _ l _ _ vs c _) rfl rg (small_one (by omega) (by omega) (by omega) (by omega)) (rangeSize_nat _ _) F0 N0 ⟨[], [], _, _, _, _, _, .nil, rfl, rfl, Int.fmod_nonneg_of_pos _ (by decide), Int.le_of_lt_add_one (Int.fmod_lt_of_pos _ (by decide)), d0, fun _ _ => rfl, .inl ⟨rfl, rfl⟩⟩ ?_ ?_
  · rintro i t m₁ nx h tk Ia oI hin ⟨pv, ps, b, tb, rn, o, vo, hpi, hpl, hdr, hb0, hb1, hod, hm, hcase⟩ hoff F N
    replace F := fr_out F hm
    have hi5 : i < 5 := by omega
    obtain ⟨x0, x1, y0, y1⟩ := cap_next (z := zs.getD (i + 1) 0) hi5 hb0 hb1
    have hpvl : pv.length ≤ 1000 := by rw [hpi.length]; omega
    have CH := codeHd_dr X
    rcases hcase with ⟨hi0, rfl⟩ | ⟨hi0, k, oc, vk, tq, hk1, hk2, hk3, hk4, hk5, hk6, hk7, rfl⟩
    · have hoff2 := flip_ne hoff
      simp only [List.forall_mem_cons] at hoff hoff2
      obtain ⟨_, _, _, _, _, _⟩ := hoff
      obtain ⟨_, _, _, _, _, _⟩ := hoff2
      k_steps
      rename _ = Data.fields _ => d1
      rename _ = some (Value.str _ _) => d2
      rename _ < _ ∧ _ => l1
      obtain ⟨q1, q2, q3, q4, q5, q6⟩ := l1
      rename Fr _ _ _ _ => F'
      rename News _ _ _ _ => N'
      rename _ = Data.cell _ => hod'
      simp only [List.push_toArray] at N'
      refine' drw_close F' N' ?cam hpi hpl hi5 hdr hb0 hb1 hod' d1 d2 ?ca1 ?ca2 ?ca3 ?ca4 ?ca5 ?ca6 ?caoff ?casub
      case casub =>
        repeat' (first | (refine List.forall_mem_cons.mpr ⟨?_, ?_⟩) | exact List.forall_mem_nil _)
        all_goals (repeat (first | exact List.Mem.head _ | apply List.Mem.tail))
      case cam => exact fun z hz => by rw [if_neg hz, if_neg hz]
      case caoff => simp only [List.forall_mem_cons, List.not_mem_nil, false_implies, implies_true, and_true]; exact ⟨by assumption, by assumption, by assumption, by assumption, by assumption⟩
      case ca1 => exact Nat.ne_of_gt (by assumption)
      case ca2 => exact Nat.ne_of_gt (by assumption)
      case ca3 => exact Nat.ne_of_gt (by assumption)
      case ca4 => exact Nat.ne_of_gt (by assumption)
      case ca5 => exact Nat.ne_of_gt (by assumption)
      case ca6 => exact Nat.ne_of_gt (by assumption)
    · have hoff2 := flip_ne hoff
      simp only [List.forall_mem_cons] at hoff hoff2
      obtain ⟨_, _, _, _, _, _, _⟩ := hoff
      obtain ⟨_, _, _, _, _, _, _⟩ := hoff2
      have hk3' := hk3.symm
      have hk4' := hk4.symm
      have hk5' := hk5.symm
      have hk6' := hk6.symm
      have hk7' := hk7.symm
      k_steps
      rename Fr _ _ _ _ => F'
      rename News _ _ _ _ => N'
      rename _ = Data.cell _ => hod'
      simp only [List.push_toArray] at N'
      refine' drw_close F' N' ?cbm hpi hpl hi5 hdr hb0 hb1 hod' hk1 hk2 ?cb1 ?cb2 ?cb3 ?cb4 ?cb5 ?cb6 ?cboff ?cbsub
      case cbsub =>
        repeat' (first | (refine List.forall_mem_cons.mpr ⟨?_, ?_⟩) | exact List.forall_mem_nil _)
        all_goals (repeat (first | exact List.Mem.head _ | apply List.Mem.tail))
      case cbm => exact fun z hz => by rw [if_neg hz, if_neg hz]
      case cboff => simp only [List.forall_mem_cons, List.not_mem_nil, false_implies, implies_true, and_true]; exact ⟨by assumption, by assumption, by assumption, by assumption, by assumption⟩
      case cb1 => assumption
      case cb2 => assumption
      case cb3 => assumption
      case cb4 => assumption
      case cb5 => assumption
      case cb6 => assumption
  · rintro m₁ nx h tk ⟨pv, ps, b, tb, rn, o, vo, hpi, hpl, hdr, hb0, hb1, hod, hm, hcase⟩ F N
    rcases hcase with ⟨hi0, _⟩ | ⟨hi0, k, oc, vk, tq, hk1, hk2, hk3, hk4, hk5, hk6, hk7, rfl⟩
    · exact absurd hi0 (by omega)
    · have F2 := fr_out F hm
      clear F
      have hall := hpi.append (IntsAre.cons b tb .nil)
      rw [hdr] at hall
      have hsl : (drawS zs (seats + 1 - 2).toNat).length ≤ 6 := by rw [← hdr, List.length_append, hpl]; simp; omega
      have hsl2 := hall.length
      k_steps
      rename Fr _ _ _ _ => F'
      rename News _ _ _ _ => N'
      rename IntsAre _ (List.reverse _) => hrev
      rename _ < _ ∧ _ => l1
      refine Done.intro [(l, W.listOf vs.toArray c), (147, tabObj #[rawInt 238, rawInt 59, .ref k])] [(_, W.listOf _ _)] F' N' (by k_all) (by k_all) ?_ ?_
      · obtain ⟨_, _, _, z1, z2, _⟩ := l1
        simp only [List.forall_mem_cons, List.not_mem_nil, false_implies, implies_true, and_true]
        exact ⟨Nat.ne_of_gt z1, Nat.ne_of_gt z2⟩
      · exact ⟨_, _, _, _, rfl, rfl, by rw [show (seats - 1).toNat = (seats + 1 - 2).toNat by omega]; exact hrev, rfl⟩
end Mine
end
section
open PySem PySem.W PyProof.Rows PySem.Calls
set_option maxRecDepth 100000
namespace Mine
local macro_rules | `(tactic| walk_at "setAttr ref") => `(tactic| (k_here; (with_reducible show wpAny _ _ (setAttr (Value.ref _) (Str.ofString "read") _) _ _ _); k_dflt (refine' fn_setAttr_N ?F ?N ?U ?_; (case F => k_asm); (case N => k_asm); (case U => k_updF)); intro ds' h' F' N' l1; (try k_lt l1); (try dsimp only at N'); (try k_sweep)))
set_option maxHeartbeats 8000000 in
theorem lexer_ctr (w : World) (page : Str) (tp : Tok) (hpl : page.length ≤ 1000) :
   Ctr w 107 [.str page tp] [] 5 (fun _ => True) [(102, tabObj #[])]
     (fun r kept new => ∃ I ps tl tk n nb, r = .ref I.x ∧ new = lexL w I 1 0 tl tk n [] nb ∧ LXok w I ∧ I.page = page ∧ kept = [(102, tabObj ps)]) := by
  w_top off
  revert w page tp hpl
  first | ((first | refine no_implicit_lambda% (skol ?_) | refine no_implicit_lambda% (skolW ?_) | refine no_implicit_lambda% (skolL ?_) | refine no_implicit_lambda% (skolS ?_) | refine no_implicit_lambda% (skolA ?_)); generalize @skz _ _ _ = w) | intro w
  first | ((first | refine no_implicit_lambda% (skol ?_) | refine no_implicit_lambda% (skolW ?_) | refine no_implicit_lambda% (skolL ?_) | refine no_implicit_lambda% (skolS ?_) | refine no_implicit_lambda% (skolA ?_)); generalize @skz _ _ _ = page) | intro page
  first | ((first | refine no_implicit_lambda% (skol ?_) | refine no_implicit_lambda% (skolW ?_) | refine no_implicit_lambda% (skolL ?_) | refine no_implicit_lambda% (skolS ?_) | refine no_implicit_lambda% (skolA ?_)); generalize @skz _ _ _ = tp) | intro tp
  first | ((first | refine no_implicit_lambda% (skol ?_) | refine no_implicit_lambda% (skolW ?_) | refine no_implicit_lambda% (skolL ?_) | refine no_implicit_lambda% (skolS ?_) | refine no_implicit_lambda% (skolA ?_)); generalize @skz _ _ _ = hpl) | intro hpl
  have hK0 : (fun w : World => Mine.hd0.heap_1_1 w.params, PySem.Challenge.rw_to0042_01) = (fun w : World => Mine.hd0.heap_1_1 w.params, PySem.Challenge.rw_to0042_01) := by (k_fill; rfl)
  clear hK0
  refine' enter_defC [("page", .str page tp)] ?pre ?ho ?hcd ?hb ?hk ?hn ?c1 ?c2 ?c3 ?_
  case ho => k_is
  case hcd => k_is
  case pre => exact fun _ _ _ _ => trivial
  case hb => exact fun _ _ => BindsTo.of_eq rfl
  case hk => exact rfl
  case hn => decide +kernel
  case c1 => rfl
  case c2 => rfl
  case c3 => rfl
  unfold BodyC
  first | (refine no_implicit_lambda% (skol4 (by first | exact ⟨default⟩ | exact neWorld | exact neShared | exact neAround | exact neLX) (by first | exact ⟨default⟩ | exact neWorld | exact neShared | exact neAround | exact neLX) (by first | exact ⟨default⟩ | exact neWorld | exact neShared | exact neAround | exact neLX) (by first | exact ⟨default⟩ | exact neWorld | exact neShared | exact neAround | exact neLX) ?_); generalize @sk4a _ _ _ _ _ _ _ _ _ = p; generalize @sk4b _ _ _ _ _ _ _ _ _ = loose; generalize @sk4c _ _ _ _ _ _ _ _ _ = mean; generalize @sk4d _ _ _ _ _ _ _ _ _ = mg) | ((first | ((first | refine no_implicit_lambda% (skol ?_) | refine no_implicit_lambda% (skolW ?_) | refine no_implicit_lambda% (skolL ?_) | refine no_implicit_lambda% (skolS ?_) | refine no_implicit_lambda% (skolA ?_)); generalize @skz _ _ _ = p) | intro p); (first | ((first | refine no_implicit_lambda% (skol ?_) | refine no_implicit_lambda% (skolW ?_) | refine no_implicit_lambda% (skolL ?_) | refine no_implicit_lambda% (skolS ?_) | refine no_implicit_lambda% (skolA ?_)); generalize @skz _ _ _ = loose) | intro loose); (first | ((first | refine no_implicit_lambda% (skol ?_) | refine no_implicit_lambda% (skolW ?_) | refine no_implicit_lambda% (skolL ?_) | refine no_implicit_lambda% (skolS ?_) | refine no_implicit_lambda% (skolA ?_)); generalize @skz _ _ _ = mean) | intro mean); (first | ((first | refine no_implicit_lambda% (skol ?_) | refine no_implicit_lambda% (skolW ?_) | refine no_implicit_lambda% (skolL ?_) | refine no_implicit_lambda% (skolS ?_) | refine no_implicit_lambda% (skolA ?_)); generalize @skz _ _ _ = mg) | intro mg))
  first | (refine no_implicit_lambda% (skol4 (by first | exact ⟨default⟩ | exact neWorld | exact neShared | exact neAround | exact neLX) (by first | exact ⟨default⟩ | exact neWorld | exact neShared | exact neAround | exact neLX) (by first | exact ⟨default⟩ | exact neWorld | exact neShared | exact neAround | exact neLX) (by first | exact ⟨default⟩ | exact neWorld | exact neShared | exact neAround | exact neLX) ?_); generalize @sk4a _ _ _ _ _ _ _ _ _ = mb; generalize @sk4b _ _ _ _ _ _ _ _ _ = dp; generalize @sk4c _ _ _ _ _ _ _ _ _ = un; generalize @sk4d _ _ _ _ _ _ _ _ _ = gd) | ((first | ((first | refine no_implicit_lambda% (skol ?_) | refine no_implicit_lambda% (skolW ?_) | refine no_implicit_lambda% (skolL ?_) | refine no_implicit_lambda% (skolS ?_) | refine no_implicit_lambda% (skolA ?_)); generalize @skz _ _ _ = mb) | intro mb); (first | ((first | refine no_implicit_lambda% (skol ?_) | refine no_implicit_lambda% (skolW ?_) | refine no_implicit_lambda% (skolL ?_) | refine no_implicit_lambda% (skolS ?_) | refine no_implicit_lambda% (skolA ?_)); generalize @skz _ _ _ = dp) | intro dp); (first | ((first | refine no_implicit_lambda% (skol ?_) | refine no_implicit_lambda% (skolW ?_) | refine no_implicit_lambda% (skolL ?_) | refine no_implicit_lambda% (skolS ?_) | refine no_implicit_lambda% (skolA ?_)); generalize @skz _ _ _ = un) | intro un); (first | ((first | refine no_implicit_lambda% (skol ?_) | refine no_implicit_lambda% (skolW ?_) | refine no_implicit_lambda% (skolL ?_) | refine no_implicit_lambda% (skolS ?_) | refine no_implicit_lambda% (skolA ?_)); generalize @skz _ _ _ = gd) | intro gd))
  first | (refine no_implicit_lambda% (skol4 (by first | exact ⟨default⟩ | exact neWorld | exact neShared | exact neAround | exact neLX) (by first | exact ⟨default⟩ | exact neWorld | exact neShared | exact neAround | exact neLX) (by first | exact ⟨default⟩ | exact neWorld | exact neShared | exact neAround | exact neLX) (by first | exact ⟨default⟩ | exact neWorld | exact neShared | exact neAround | exact neLX) ?_); generalize @sk4a _ _ _ _ _ _ _ _ _ = outer; generalize @sk4b _ _ _ _ _ _ _ _ _ = A₀; generalize @sk4c _ _ _ _ _ _ _ _ _ = base; generalize @sk4d _ _ _ _ _ _ _ _ _ = g) | ((first | ((first | refine no_implicit_lambda% (skol ?_) | refine no_implicit_lambda% (skolW ?_) | refine no_implicit_lambda% (skolL ?_) | refine no_implicit_lambda% (skolS ?_) | refine no_implicit_lambda% (skolA ?_)); generalize @skz _ _ _ = outer) | intro outer); (first | ((first | refine no_implicit_lambda% (skol ?_) | refine no_implicit_lambda% (skolW ?_) | refine no_implicit_lambda% (skolL ?_) | refine no_implicit_lambda% (skolS ?_) | refine no_implicit_lambda% (skolA ?_)); generalize @skz _ _ _ = A₀) | intro A₀); (first | ((first | refine no_implicit_lambda% (skol ?_) | refine no_implicit_lambda% (skolW ?_) | refine no_implicit_lambda% (skolL ?_) | refine no_implicit_lambda% (skolS ?_) | refine no_implicit_lambda% (skolA ?_)); generalize @skz _ _ _ = base) | intro base); (first | ((first | refine no_implicit_lambda% (skol ?_) | refine no_implicit_lambda% (skolW ?_) | refine no_implicit_lambda% (skolL ?_) | refine no_implicit_lambda% (skolS ?_) | refine no_implicit_lambda% (skolA ?_)); generalize @skz _ _ _ = g) | intro g))
  first | ((first | refine no_implicit_lambda% (skol ?_) | refine no_implicit_lambda% (skolW ?_) | refine no_implicit_lambda% (skolL ?_) | refine no_implicit_lambda% (skolS ?_) | refine no_implicit_lambda% (skolA ?_)); generalize @skz _ _ _ = h₁) | intro h₁
  first | ((first | refine no_implicit_lambda% (skol ?_) | refine no_implicit_lambda% (skolW ?_) | refine no_implicit_lambda% (skolL ?_) | refine no_implicit_lambda% (skolS ?_) | refine no_implicit_lambda% (skolA ?_)); generalize @skz _ _ _ = L') | intro L'
  first | ((first | refine no_implicit_lambda% (skol ?_) | refine no_implicit_lambda% (skolW ?_) | refine no_implicit_lambda% (skolL ?_) | refine no_implicit_lambda% (skolS ?_) | refine no_implicit_lambda% (skolA ?_)); generalize @skz _ _ _ = s) | intro s
  first | ((first | refine no_implicit_lambda% (skol ?_) | refine no_implicit_lambda% (skolW ?_) | refine no_implicit_lambda% (skolL ?_) | refine no_implicit_lambda% (skolS ?_) | refine no_implicit_lambda% (skolA ?_)); generalize @skz _ _ _ = tk₀) | intro tk₀
  first | ((first | refine no_implicit_lambda% (skol ?_) | refine no_implicit_lambda% (skolW ?_) | refine no_implicit_lambda% (skolL ?_) | refine no_implicit_lambda% (skolS ?_) | refine no_implicit_lambda% (skolA ?_)); generalize @skz _ _ _ = cells) | intro cells
  intro B
  intro F
  intro X
  intro N
  intro Y
  intro l0
  intro T
  intro hd
  intro hu
  intro hp
  (k_cells Y); (try simp only [List.cons_append, List.nil_append] at N); (try dsimp only); (try k_fold)
  have CH := codeHd_of X
  have z0 : (102 : Nat) < L' := l0 _ (.head _)
  have z1 : (102 : Addr) ≠ L' + 1 := Nat.ne_of_lt (Nat.lt_succ_of_lt z0)
  have z2 : (102 : Addr) ≠ L' + 1 + 1 := Nat.ne_of_lt (Nat.lt_succ_of_lt (Nat.lt_succ_of_lt z0))
  have z3 := z1.symm
  have z4 := z2.symm
  k_steps
  rename _ = some (Value.str _ _) => q2
  clear q2
  rename _ = some (Value.str _ _) => q2
  rename _ = Data.fields _ => q1
  clear q1
  rename _ = Data.fields _ => q1
  rename _ = Data.cell (some (Value.ref _)) => dA
  rename _ = Data.cell (bindC _ _ _ _) => dP
  rename Fr g L' _ _ => F'
  rename News g L' _ _ => N'
  refine' Done.intro [(102, _)] (lexL w ⟨_, _, _, _, _, _, _, _, _, _, _, _, _, _, _, _, _, _, _, _, _, _, _, _, _, _, _, _, _, _, _⟩ 1 0 _ _ _ [] _) F' N' ?h1 ?h2 ?h3 ⟨_, _, _, _, _, _, rfl, rfl, ?ok, ?pg, rfl⟩
  case h1 => exact List.forall_mem_cons.mpr ⟨by k_mem, List.forall_mem_nil _⟩
  case h2 =>
    dsimp only [lexL]
    repeat' (first | (refine List.forall_mem_cons.mpr ⟨?_, ?_⟩) | exact List.forall_mem_nil _)
    all_goals (repeat (first | exact List.Mem.head _ | apply List.Mem.tail))
  case ok =>
    rename _ < _ ∧ _ => l1
    obtain ⟨_, _, _, _, _, _, _, _, _, _, _⟩ := l1
    rename _ < _ ∧ _ => l1
    obtain ⟨_, _, _, _, _, _, _, _, _⟩ := l1
    rename _ < _ ∧ _ => l1
    obtain ⟨_, _, _, _, _, _, _, _⟩ := l1
    rename _ < _ ∧ _ => l1
    obtain ⟨_, _, _, _, _, _⟩ := l1
    rename _ < _ ∧ _ => l1
    obtain ⟨_, _, _, _⟩ := l1
    rename _ < _ ∧ _ => l1
    obtain ⟨_, _, _⟩ := l1
    refine' ⟨⟨_, rfl⟩, q1, q2, dA, dP, hpl, ?a1, ?a2, ?a3⟩
    all_goals (dsimp only; repeat' (first | (refine List.forall_mem_cons.mpr ⟨?_, ?_⟩) | exact List.forall_mem_nil _))
    all_goals first | exact Nat.ne_of_gt (by assumption) | exact Nat.ne_of_lt (by assumption) | exact Nat.ne_of_gt (by omega) | exact Nat.ne_of_lt (by omega)
  case pg => rfl
  case h3 =>
    rename _ < _ ∧ _ => l1
    obtain ⟨_, _, _, _, _, _, _, _, _, _, _⟩ := l1
    rename _ < _ ∧ _ => l1
    obtain ⟨_, _, _, _, _, _, _, _, _⟩ := l1
    rename _ < _ ∧ _ => l1
    obtain ⟨_, _, _, _, _, _, _, _⟩ := l1
    rename _ < _ ∧ _ => l1
    obtain ⟨_, _, _, _, _, _⟩ := l1
    rename _ < _ ∧ _ => l1
    obtain ⟨_, _, _, _⟩ := l1
    rename _ < _ ∧ _ => l1
    obtain ⟨_, _, _⟩ := l1
    dsimp only [lexL]
    repeat' (first | (refine List.forall_mem_cons.mpr ⟨?_, ?_⟩) | exact List.forall_mem_nil _)
    all_goals first | exact Nat.ne_of_gt (by assumption) | exact Nat.ne_of_lt (by assumption) | exact Nat.ne_of_gt (by omega) | exact Nat.ne_of_lt (by omega)
end Mine
end
section
open PySem PySem.W PyProof.Rows PySem.Calls
set_option maxRecDepth 100000
namespace Mine
local macro_rules | `(tactic| omega) => `(tactic| lia)
def digs (z : Int) : List Nat := (Str.ofString (toString z)).cps.toList
def tickL : List Int → List Nat
  | [] => []
  | [h] => digs h
  | a :: b :: r => digs a ++ 39 :: (digs b ++ 39 :: tickL r)
def tickT (zs : List Int) : Str := ⟨(tickL zs).toArray⟩
def ticks : Nat → List Nat → Nat → List Nat
  | _, [], _ => []
  | i, c :: r, 0 => ticks (i + 1) r 0
  | i, c :: r, n + 1 => if c = 39 then i :: ticks (i + 1) r n else ticks (i + 1) r (n + 1)
theorem ticks_zero : ∀ (r : List Nat) (i : Nat), ticks i r 0 = []
  | [], _ => rfl
  | _ :: r, i => ticks_zero r (i + 1)
theorem tk_run (X : List Nat) (limit : Nat) : ∀ (suf pre : List Nat) (found : Array Nat) (free : Nat), X = pre ++ suf → free ≤ pre.length →
    (forIn (List.range' pre.length (suf.length + 1)) (found, free) (StrLaws.occBody ⟨X.toArray⟩ ⟨#[39]⟩ X.length limit)).run.fst.toList = found.toList ++ ticks pre.length suf (limit - found.size)
  | [], pre, found, free, hX, hf => by
    have hn : ¬ (pre.length + (⟨#[39]⟩ : Str).length ≤ (⟨X.toArray⟩ : Str).length ∧ Builtin.Str.subAt ⟨X.toArray⟩ ⟨#[39]⟩ pre.length = true) := fun h => by
      have h1 := (StrLaws.subAt_one ⟨X.toArray⟩ 39 pre.length).mp h
      rw [List.toList_toArray, hX, List.append_nil, List.getElem?_eq_none (Nat.le_refl _)] at h1
      cases h1
    have e : List.range' pre.length (([] : List Nat).length + 1) = [pre.length] := rfl
    rw [e, List.forIn_cons]
    unfold StrLaws.occBody
    rw [if_neg (fun h => hn ⟨by simpa [Str.length] using h.1.2, h.2⟩)]
    simp [ticks]
  | c :: r, pre, found, free, hX, hf => by
    have hat : X[pre.length]? = some c := by rw [hX, List.getElem?_append_right (Nat.le_refl _), Nat.sub_self]; rfl
    have hiff := StrLaws.subAt_one ⟨X.toArray⟩ 39 pre.length
    rw [List.toList_toArray, hat] at hiff
    have e : List.range' pre.length ((c :: r).length + 1) = pre.length :: List.range' (pre ++ [c]).length (r.length + 1) := by
      rw [List.length_append, List.length_cons, List.length_singleton]; rfl
    have hX2 : X = (pre ++ [c]) ++ r := by rw [hX, List.append_assoc]; rfl
    have el : (pre ++ [c]).length = pre.length + 1 := by rw [List.length_append]; rfl
    have ih := fun found free hf => tk_run X limit r (pre ++ [c]) found free hX2 hf
    rw [e, List.forIn_cons]
    rw [show StrLaws.occBody ⟨X.toArray⟩ ⟨#[39]⟩ X.length limit pre.length (found, free) = if ((found.size < limit ∧ free ≤ pre.length) ∧ pre.length + (⟨#[39]⟩ : Str).length ≤ X.length) ∧ Builtin.Str.subAt ⟨X.toArray⟩ ⟨#[39]⟩ pre.length = true then pure (ForInStep.yield (found.push pre.length, pre.length + (⟨#[39]⟩ : Str).length)) else pure (ForInStep.yield (found, free)) from rfl]
    have e1 : (⟨#[39]⟩ : Str).length = 1 := rfl
    by_cases hc : c = 39
    · by_cases hlim : found.size < limit
      · have hs := hiff.mpr (by rw [hc])
        have hs1 : pre.length + (⟨#[39]⟩ : Str).length ≤ X.length := by simpa [Str.length] using hs.1
        rw [if_pos ⟨⟨⟨hlim, hf⟩, hs1⟩, hs.2⟩]
        have q := ih (found.push pre.length) (pre.length + 1) (by omega)
        obtain ⟨n, hn⟩ : ∃ n, limit - found.size = n + 1 := ⟨limit - found.size - 1, by omega⟩
        have hn2 : limit - (found.push pre.length).size = n := by rw [Array.size_push]; omega
        rw [hn2, el] at q
        rw [hn, ticks, if_pos hc]
        rw [e1]
        refine Eq.trans ?_ (q.trans ?_)
        · rw [el]; rfl
        · simp
      · rw [if_neg (fun h => hlim h.1.1.1)]
        have q := ih found free (by omega)
        have h0 : limit - found.size = 0 := by omega
        rw [h0, ticks_zero] at q
        rw [h0, ticks_zero]
        exact q
    · rw [if_neg (fun h => hc (by have := hiff.mp ⟨by simpa [Str.length] using h.1.2, h.2⟩; exact Option.some.inj this))]
      have q := ih found free (by omega)
      rw [el] at q
      refine Eq.trans ?_ (q.trans ?_)
      · rw [el]; rfl
      · cases limit - found.size with
        | zero => rw [ticks_zero, ticks_zero]
        | succ n => rw [ticks, if_neg hc]
theorem occ_ticks (X : List Nat) (limit : Nat) : Builtin.Str.occurrences ⟨X.toArray⟩ ⟨#[39]⟩ 0 X.length limit = ticks 0 X limit := by
  rw [StrLaws.occ_eq]
  have := tk_run X limit X [] #[] 0 rfl (Nat.le_refl _)
  simpa using this
theorem ticks_skip : ∀ (A s : List Nat) (i n : Nat), 39 ∉ A → ticks i (A ++ s) n = ticks (i + A.length) s n
  | [], _, _, _, _ => rfl
  | a :: A, s, i, n, h => by
    have h1 : a ≠ 39 := fun e => h (by rw [e]; exact .head _)
    have h2 : 39 ∉ A := fun e => h (.tail _ e)
    cases n with
    | zero => rw [ticks_zero, ticks_zero]
    | succ n =>
      rw [List.cons_append, ticks, if_neg h1, ticks_skip A s (i + 1) (n + 1) h2, List.length_cons, show i + 1 + A.length = i + (A.length + 1) by omega]
theorem tick_one : Str.ofString "'" = ⟨#[39]⟩ := by decide +kernel
theorem kind_min (x : Str) : decide (Builtin.Str.strKind x < Builtin.Str.strKind ⟨#[39]⟩) = false := by
  have h1 : Builtin.Str.strKind ⟨#[39]⟩ = 1 := by decide +kernel
  rw [h1, decide_eq_false_iff_not]
  unfold Builtin.Str.strKind
  split
  · omega
  · split <;> omega
theorem sub_of (X : List Nat) (i j : Nat) : Builtin.Str.strSub ⟨X.toArray⟩ i j = ⟨((X.drop i).take (j - i)).toArray⟩ := by
  show Str.mk _ = Str.mk _
  congr 1
  apply Array.ext'
  simp
theorem split_three {A B R : List Nat} (hA : 39 ∉ A) (hB : 39 ∉ B) : Txt.splitMax ⟨(A ++ 39 :: (B ++ 39 :: R)).toArray⟩ (Str.ofString "'") 2 = [⟨A.toArray⟩, ⟨B.toArray⟩, ⟨R.toArray⟩] := by
  rw [tick_one]
  unfold Txt.splitMax
  have hlen : (⟨(A ++ 39 :: (B ++ 39 :: R)).toArray⟩ : Str).length = (A ++ 39 :: (B ++ 39 :: R)).length := by simp [Str.length]
  have hl1 : (⟨#[39]⟩ : Str).length = 1 := rfl
  have hl2 : limitOf ⟨(A ++ 39 :: (B ++ 39 :: R)).toArray⟩ 2 = 2 := rfl
  rw [hlen, hl1, hl2, kind_min, occ_ticks, ticks_skip A _ _ _ hA]
  rw [show ticks (0 + A.length) (39 :: (B ++ 39 :: R)) 2 = (0 + A.length) :: ticks (0 + A.length + 1) (B ++ 39 :: R) 1 from rfl, ticks_skip B _ _ _ hB]
  rw [show ticks (0 + A.length + 1 + B.length) (39 :: R) 1 = (0 + A.length + 1 + B.length) :: ticks (0 + A.length + 1 + B.length + 1) R 0 from rfl, ticks_zero]
  rw [if_neg (by simp), if_neg (by simp)]
  unfold Builtin.Str.partsBetween
  rw [hlen]
  simp only [List.map_cons, List.map_nil, List.cons_append, List.nil_append, List.zip_cons_cons, List.zip_nil_right, sub_of]
  refine List.cons_eq_cons.mpr ⟨?_, List.cons_eq_cons.mpr ⟨?_, List.cons_eq_cons.mpr ⟨?_, rfl⟩⟩⟩
  · congr 2
    simp
  · congr 2
    rw [show 0 + A.length + 1 = A.length + 1 by omega, ← List.drop_drop, List.drop_left, List.drop_succ_cons, List.drop_zero, show A.length + 1 + B.length - (A.length + 1) = B.length by omega, List.take_left]
  · congr 2
    rw [show 0 + A.length + 1 + B.length + 1 = A.length + (1 + (B.length + 1)) by omega, ← List.drop_drop, List.drop_left, ← List.drop_drop, List.drop_succ_cons, List.drop_zero, ← List.drop_drop, List.drop_left, List.drop_succ_cons, List.drop_zero]
    apply List.take_of_length_le
    simp
    omega
theorem split_none {A : List Nat} (hA : 39 ∉ A) : Txt.splitMax ⟨A.toArray⟩ (Str.ofString "'") 2 = [⟨A.toArray⟩] := by
  rw [tick_one]
  unfold Txt.splitMax
  have hlen : (⟨A.toArray⟩ : Str).length = A.length := by simp [Str.length]
  rw [hlen, occ_ticks]
  have e := ticks_skip A [] 0 (limitOf ⟨A.toArray⟩ 2) hA
  rw [List.append_nil] at e
  rw [e]
  split
  · rfl
  · rfl
theorem digs_ok : ∀ n : Nat, n < 100 → 39 ∉ digs (n : Int) ∧ digs (n : Int) ≠ [] ∧ (digs (n : Int)).length ≤ 2 := by decide +kernel
theorem digs_at {z : Int} (h0 : 0 ≤ z) (h1 : z < 100) : 39 ∉ digs z ∧ digs z ≠ [] ∧ (digs z).length ≤ 2 := by
  obtain ⟨n, rfl⟩ := Int.eq_ofNat_of_zero_le h0
  exact digs_ok n (by omega)
theorem str_digs (z : Int) : Str.ofString (toString z) = ⟨(digs z).toArray⟩ := rfl
end Mine
end
section
open PySem PySem.W PyProof.Rows PySem.Calls
set_option maxRecDepth 100000
namespace Mine
def oneI (room a b : Int) : Int := ((room - 1) * a - room * b).fdiv (room - 1)
/-- the counting back, three deep at most -/
def toldP (room : Int) : List Int → Option (List Int)
  | [] => some []
  | [h] => some (List.replicate h.toNat 1)
  | a :: b :: r => match toldP (room - 2) r with
    | none => none
    | some ps => if ps.length ≤ 64 ∧ 0 ≤ oneI room a b ∧ oneI room a b ≤ 100 then (match loopT room 64 (a - oneI room a b) b (ps.map fun a => a + 1) [] with
        | none => none
        | some res => some (res.reverse ++ List.replicate (oneI room a b).toNat 1)) else none
theorem ctr_mono {w : World} {f : Addr} {args : List Value} {kw : List (Str × Value)} {d d' : Nat} {pre : Heap → Prop} {news : Led} {post : Value → Led → Led → Prop} (h : Ctr w f args kw d pre news post) (hd : d ≤ d') : Ctr w f args kw d' pre news post := by
  unfold Ctr at h ⊢
  intro p loose mean mg mb dp un gd cn cs a ccd cl outer A₀ base h₀ L m s Q E B F X N T hcs hd1 hu hp hret
  exact h p loose mean mg mb dp un gd cn cs a ccd cl outer A₀ base h₀ L m s Q E B F X N T hcs (by omega) (by omega) hp hret
theorem tick_len : ∀ (zs : List Int), (∀ z ∈ zs, 0 ≤ z ∧ z < 100) → (tickL zs).length ≤ 3 * zs.length
  | [], _ => by simp [tickL]
  | [h], hz => by
    have := (digs_at (hz h (.head _)).1 (hz h (.head _)).2).2.2
    simp only [tickL, List.length_cons, List.length_nil]; omega
  | a :: b :: r, hz => by
    have h1 := (digs_at (hz a (.head _)).1 (hz a (.head _)).2).2.2
    have h2 := (digs_at (hz b (.tail _ (.head _))).1 (hz b (.tail _ (.head _))).2).2.2
    have h3 := tick_len r fun z h => hz z (.tail _ (.tail _ h))
    simp only [tickL, List.length_cons, List.length_append]; omega
theorem tickT_len {zs : List Int} (hz : ∀ z ∈ zs, 0 ≤ z ∧ z < 100) (h6 : zs.length ≤ 6) : (tickT zs).length ≤ 200 := by
  have h1 := tick_len zs hz
  show (tickL zs).toArray.size ≤ _
  rw [List.size_toArray]; omega
theorem told_gen (w : World) : ∀ (k : Nat) (zs ts : List Int) (room : Int) (tt tr : Tok), zs.length < 2 * (k + 1) → zs.length ≤ 6 → (zs.length : Int) ≤ room → room ≤ 6 → (∀ z ∈ zs, 0 ≤ z ∧ z < 100) → toldP room zs = some ts →
    Ctr w 145 [.str (tickT zs) tt, .int room tr] [] (8 + 9 * k) (fun _ => True) [] (ToldPost ts)
  | k, [], ts, room, tt, tr, _, _, _, _, _, h => by
    cases h
    refine ctr_mono (told0_ctr w tt room tr (by decide +kernel) ?_) (by omega)
    have := split_none (A := []) (List.not_mem_nil)
    exact this
  | k, [z], ts, room, tt, tr, _, _, _, _, hz, h => by
    cases h
    obtain ⟨h0, h9⟩ := hz z (.head _)
    obtain ⟨d1, d2, d3⟩ := digs_at h0 h9
    refine ctr_mono (told1_ctr w z tt room tr h0 h9 (tickT_len (zs := [z]) hz (by simp)) ?_ (split_none d1)) (by omega)
    intro e
    have : (Str.ofString (toString z)).cps.toList = [] := by rw [e]; rfl
    exact d2 this
  | 0, _ :: _ :: _, _, _, _, _, hl, _, _, _, _, _ => by simp at hl; omega
  | k + 1, a :: b :: r, ts, room, tt, tr, hl, h6, hr, hr6, hz, h => by
    rw [toldP] at h
    cases hps : toldP (room - 2) r with
    | none => rw [hps] at h; cases h
    | some ps =>
      rw [hps] at h
      dsimp only at h
      split at h
      · rename_i hc
        cases hres : loopT room 64 (a - oneI room a b) b (ps.map fun a => a + 1) [] with
        | none => rw [hres] at h; cases h
        | some res =>
          rw [hres] at h
          cases h
          obtain ⟨ha0, ha9⟩ := hz a (.head _)
          obtain ⟨hb0, hb9⟩ := hz b (.tail _ (.head _))
          have hzr : ∀ z ∈ r, 0 ≤ z ∧ z < 100 := fun z h => hz z (.tail _ (.tail _ h))
          simp only [List.length_cons] at hl h6 hr
          have q := tolds_ctr w (tickT (a :: b :: r)) (tickT r) a b ps tt room tr ha0 ha9 hb0 hb9 (by omega) hr6 hc.1 hc.2.1 hc.2.2 (tickT_len hz (by simp only [List.length_cons]; omega)) (split_three (digs_at ha0 ha9).1 (digs_at hb0 hb9).1) res hres (8 + 9 * k) (fun t t' => told_gen w k r ps (room - 2) t t' (by omega) (by omega) (by omega) (by omega) hzr hps)
          exact ctr_mono q (by omega)
      · cases h
theorem told_ctr (w : World) (zs ts : List Int) (room : Int) (tt tr : Tok) (h6 : zs.length ≤ 6) (hr : (zs.length : Int) ≤ room) (hr6 : room ≤ 6) (hz : ∀ z ∈ zs, 0 ≤ z ∧ z < 100) (h : toldP room zs = some ts) :
    Ctr w 145 [.str (tickT zs) tt, .int room tr] [] 40 (fun _ => True) [] (ToldPost ts) :=
  ctr_mono (told_gen w 3 zs ts room tt tr (by omega) h6 hr hr6 hz h) (by omega)
theorem glued_unfold (g : Str) (p : Str) (ps : List Str) : Builtin.Str.glued g (p :: ps) = ⟨ps.foldl (fun acc p => acc ++ g.cps ++ p.cps) p.cps⟩ := rfl
theorem written_tick : ∀ {zs : List Int}, 3 ≤ zs.length → zs.length ≤ 6 → writtenS zs = tickT zs := by
  intro zs h3 h6
  have ext : ∀ {x y : Str}, x.cps.toList = y.cps.toList → x = y := fun {x y} h => by
    cases x; cases y; congr 1; exact Array.ext' h
  have e1 : (Str.ofString "'").cps = #[39] := by rw [tick_one]
  have ea : ∀ x y : Str, (x ++ y).cps = x.cps ++ y.cps := fun _ _ => rfl
  match zs, h3, h6 with
  | [a, b, c], _, _ =>
    rw [writtenS, if_neg (show ¬ (([a, b, c].length : Nat) : Int).fmod 2 = 0 from (by decide : ¬ ((3 : Nat) : Int).fmod 2 = 0))]
    apply ext
    simp [joinedS, Txt.join, glued_unfold, e1, tickT, tickL, digs]
  | [a, b, c, d], _, _ =>
    rw [writtenS, if_pos (show (([a, b, c, d].length : Nat) : Int).fmod 2 = 0 from (by decide : ((4 : Nat) : Int).fmod 2 = 0))]
    apply ext
    rw [ea]
    simp [joinedS, Txt.join, glued_unfold, e1, tickT, tickL, digs]
  | [a, b, c, d, e], _, _ =>
    rw [writtenS, if_neg (show ¬ (([a, b, c, d, e].length : Nat) : Int).fmod 2 = 0 from (by decide : ¬ ((5 : Nat) : Int).fmod 2 = 0))]
    apply ext
    simp [joinedS, Txt.join, glued_unfold, e1, tickT, tickL, digs]
  | [a, b, c, d, e, f], _, _ =>
    rw [writtenS, if_pos (show (([a, b, c, d, e, f].length : Nat) : Int).fmod 2 = 0 from (by decide : ((6 : Nat) : Int).fmod 2 = 0))]
    apply ext
    rw [ea]
    simp [joinedS, Txt.join, glued_unfold, e1, tickT, tickL, digs]
end Mine
end
section
open PySem PySem.W PyProof.Rows PySem.Calls
set_option maxRecDepth 100000
namespace Mine
theorem ctr_post {w : World} {f : Addr} {args : List Value} {kw : List (Str × Value)} {d : Nat} {pre : Heap → Prop} {news : Led} {post post' : Value → Led → Led → Prop} (h : Ctr w f args kw d pre news post) (hp : ∀ r k n, post r k n → post' r k n) : Ctr w f args kw d pre news post' := by
  unfold Ctr at h ⊢
  intro p loose mean mg mb dp un gd cn cs a ccd cl outer A₀ base h₀ L m s Q E B F X N T hcs hd1 hu hpre hret
  exact h p loose mean mg mb dp un gd cn cs a ccd cl outer A₀ base h₀ L m s Q E B F X N T hcs hd1 hu hpre (fun r k n h' tk F N a b c => hret r k n h' tk F N a b (hp r k n c))
theorem fill2_ctr (w : World) (I : LX) (ln k : Int) (tl tkk : Tok) (n nb : Nat) (l : Addr) (vs : List Value) (zs hall : List Int) (c : Nat) (seats : Int) (ts : Tok) (hI : LXok w I) (hi : IntsAre vs zs) (hz : ∀ z ∈ zs, 1 ≤ z ∧ z ≤ 6) (hzl : zs.length ≤ 64) (h3 : 3 ≤ seats) (h6 : seats ≤ 6)
   (hl : ∀ b ∈ [I.x, I.dx, I.st, I.ds, I.fn, I.cc, I.cA, I.cP, I.al, I.pb], l ≠ b) (hf : fillR 3 seats zs = (hall, [])) :
   Ctr w 135 [.ref I.x, .ref l, .int seats ts] [] 8 (fun _ => True) (lexL w I ln k tl tkk n [] nb ++ [(l, W.listOf vs.toArray c)])
     (fun r kept new => ∃ a hv cn nb', r = .ref a ∧ new = [(a, W.listOf hv.toArray cn)] ∧ IntsAre hv hall ∧ kept = lexL w I ln k tl tkk n [] nb' ++ [(l, W.listOf vs.toArray c)]) :=
  ctr_post (fill_ctr w I ln k tl tkk n nb l vs zs c seats ts hI hi hz hzl h3 h6 hl) fun r kp nw h => by
    obtain ⟨a, hv, cn, pbs, nb', e1, e2, e3, e4, e5, e6⟩ := h
    rw [hf] at e3 e5
    cases e5
    exact ⟨a, hv, cn, nb', e1, e2, e3, e6⟩
theorem rises2_ctr (w : World) (l : Addr) (vs : List Value) (zs : List Int) (c : Nat) (hi : IntsAre vs zs) (h3 : 3 ≤ zs.length) (h6 : zs.length ≤ 6) (hr : riseS zs = []) :
   Ctr w 157 [.ref l] [] 3 (fun _ => True) [(l, W.listOf vs.toArray c)]
     (fun r kept new => ∃ a cn, r = .ref a ∧ new = [(a, W.listOf #[] cn)] ∧ kept = [(l, W.listOf vs.toArray c)]) :=
  ctr_post (rises_ctr w l vs zs c hi h3 h6) fun r kp nw h => by
    obtain ⟨a, hv, cn, e1, e2, e3, e4, e5⟩ := h
    rw [hr] at e3
    cases e3
    exact ⟨a, cn, e1, e2, e5⟩
theorem written2_ctr (w : World) (l : Addr) (vs : List Value) (zs : List Int) (c : Nat) (hi : IntsAre vs zs) (h3 : 3 ≤ zs.length) (h6 : zs.length ≤ 6) (hz : ∀ z ∈ zs, 0 ≤ z ∧ z < 100) :
   Ctr w 140 [.ref l] [] 3 (fun _ => True) [(l, W.listOf vs.toArray c)]
     (fun r kept new => ∃ t, r = .str (tickT zs) t ∧ new = [] ∧ kept = [(l, W.listOf vs.toArray c)]) :=
  ctr_post (written_ctr w l vs zs c hi h3 h6 hz) fun r kp nw h => by
    rw [written_tick h3 h6] at h
    exact h
theorem told2_ctr (w : World) (zs ts : List Int) (room : Int) (tt tr : Tok) (h6 : zs.length ≤ 6) (hr : (zs.length : Int) ≤ room) (hr6 : room ≤ 6) (hz : ∀ z ∈ zs, 0 ≤ z ∧ z < 100) (h : toldP room zs = some ts) :
    Ctr w 145 [.str (tickT zs) tt, .int room tr] [] 40 (fun _ => True) [] (fun r kept new => ∃ D hv n, r = .ref D ∧ kept = [] ∧ new = [(D, W.listOf hv.toArray n)] ∧ IntsAre hv ts) :=
  ctr_post (told_ctr w zs ts room tt tr h6 hr hr6 hz h) fun _ _ _ h => h
theorem drawn2_ctr (w : World) (l : Addr) (vs : List Value) (zs other : List Int) (c : Nat) (seats : Int) (ts : Tok) (hi : IntsAre vs zs) (hz6 : zs.length = 6) (h3 : 3 ≤ seats) (h6 : seats ≤ 6) (a1 : l ≠ (147 : Addr)) (ho : (drawS zs (seats - 1).toNat).reverse = other) :
   Ctr w 152 [.ref l, .int seats ts] [] 20 (fun _ => True) [(l, W.listOf vs.toArray c), (147, tabObj #[])]
     (fun r kept new => ∃ a rv rn ps, r = .ref a ∧ new = [(a, W.listOf rv.toArray rn)] ∧ IntsAre rv other ∧ kept = [(l, W.listOf vs.toArray c), (147, tabObj ps)]) :=
  ctr_post (drawn_ctr w l vs zs c seats ts hi hz6 h3 h6 a1 a1.symm) fun r kp nw h => by
    rw [ho] at h
    exact h
theorem desc_uniq : ∀ {a b : List Int}, a.Pairwise (fun x y => y ≤ x) → b.Pairwise (fun x y => y ≤ x) → a.Perm b → a = b
  | [], b, _, _, h => (List.perm_nil.mp h.symm).symm
  | x :: a, [], _, _, h => absurd h.length_eq (by simp)
  | x :: a, y :: b, ha, hb, h => by
    rw [List.pairwise_cons] at ha hb
    have h1 : x ∈ y :: b := h.mem_iff.mp (.head _)
    have h2 : y ∈ x :: a := h.mem_iff.mpr (.head _)
    have e : x = y := by
      rcases List.mem_cons.mp h1 with h1 | h1
      · exact h1
      · rcases List.mem_cons.mp h2 with h2 | h2
        · exact h2.symm
        · have := ha.1 y h2
          have := hb.1 x h1
          omega
    subst e
    rw [desc_uniq ha.2 hb.2 ((List.perm_cons x).mp h)]
theorem desc_pair {l : List Int} (h : Desc l) : l.Pairwise (fun x y => y ≤ x) := by
  rw [List.pairwise_iff_getElem]
  intro i j hi hj hij
  have := h i j (by omega) hj
  rw [List.getD_eq_getElem?_getD, List.getD_eq_getElem?_getD, List.getElem?_eq_getElem hi, List.getElem?_eq_getElem hj] at this
  exact this
end Mine
end
section
open PySem PySem.W PyProof.Rows PySem.Calls
set_option maxRecDepth 100000
namespace Mine
theorem seat_lo (x : Int) : 3 ≤ 3 + x.fmod 4 := by
  have := Int.fmod_nonneg_of_pos x (show (0 : Int) < 4 by decide); omega
theorem seat_hi (x : Int) : 3 + x.fmod 4 ≤ 6 := by
  have := Int.fmod_lt_of_pos x (show (0 : Int) < 4 by decide); omega
theorem page_small {room : Int} {zs : List Int} (h : zs.length = 6) : (txt (pageOf room zs)).length ≤ 1000 := by
  have h1 := pageOf_len room zs
  show (pageOf room zs).toArray.size ≤ _
  rw [List.size_toArray]; omega
theorem at_start {page : Str} {l : List Nat} (h : page = txt l) : At page 0 l := by
  subst h
  refine ⟨Int.le_refl _, ?_, ?_⟩
  · show (0 : Int) + (l.length : Int) = (l.toArray.size : Nat)
    rw [List.size_toArray]; omega
  · show List.drop 0 l.toArray.toList = l
    simp
theorem slice_bnd {cs : List Int} {n k : Nat} (h : ∀ x ∈ cs, 0 ≤ x ∧ x < 2000) : ∀ z ∈ List.take n (List.drop k cs), 0 ≤ z ∧ z < 2000 := fun z hz => h z (List.mem_of_mem_drop (List.mem_of_mem_take hz))
theorem ne_flip {a b : Addr} (h : a ≠ b) : b ≠ a := h.symm
def fnBody : Option Obj → List Stmt
  | some ⟨_, _, .func fd, _⟩ => (match fd.body with | .stmts b => b | _ => [])
  | _ => []
def fnScope : Option Obj → Option Scope
  | some ⟨_, _, .func fd, _⟩ => some fd.scope
  | _ => none
abbrev lxA (I : LX) : List Addr := [I.x, I.dx, I.st, I.ds, I.fn, I.cc, I.cA, I.cP, I.al, I.pb]
def evens : List Int → List Int
  | [] => []
  | [a] => [a]
  | a :: _ :: r => a :: evens r
def odds : List Int → List Int
  | [] => []
  | [_] => []
  | _ :: b :: r => b :: odds r
def SumsOk (hall ri : List Int) : Prop := (evens hall).sum = ri.sum ∧ (odds hall).sum = ri.sum - 6
def LawEnd (g : Heap) (L' : Addr) (s₀ : Shared) (ps1 ps2 : Array Value) : Flow → Shared → Prop := Done g L' s₀ [(147, tabObj #[]), (123, tabObj ps1), (102, tabObj ps2)] (fun r kept new => r = .bool true ∧ ∃ q, kept = [(147, tabObj q), (123, tabObj ps1), (102, tabObj ps2)])
theorem d_le {dp a b lim : Nat} (h : dp + b < lim) (hab : a ≤ b) : dp + a < lim := Nat.lt_of_le_of_lt (Nat.add_le_add_left hab _) h
theorem u_le {un a b lim : Nat} (h : un + 8 * b < lim) (hab : a ≤ b) : un + 8 * a < lim := Nat.lt_of_le_of_lt (Nat.add_le_add_left (Nat.mul_le_mul_left _ hab) _) h
theorem ctr_useL {w : World} {f : Addr} {args : List Value} {kw : List (Str × Value)} {dN : Nat} {pre : Heap → Prop} {news : Led} {post : Value → Led → Led → Prop} (C : Ctr w f args kw dN pre news post)
    {p : Program} {loose : List Str} {mean : ExcName → Option Value} {mg mb : Str → Option Value} {dp un : Nat} {gd : Option (List Code)} {cn : Str} {cs : Scope} {a : Addr} {ccd : Value} {cl : List (Str × Addr)} {outer : List Env} {A₀ : Around} {base h₀ : Heap} {L : Addr} {m : Str → Option Value} {s : Shared}
    {Q E : Value → Shared → Prop} {all rest : Led}
    (h1 : ∀ q ∈ news, q ∈ all) (h2 : Cut (news.map (·.1)) all rest)
    (hret : ∀ r kept new h' tk', Fr h₀ L h' m → News h₀ L h' (kept ++ new ++ rest) → post r kept new → ApartAll new all (Q r { s with heap := h', toks := tk' }))
    (B : Below A₀ base outer h₀ := by k_asm) (F : Fr h₀ L s.heap m := by k_asm) (X : (Mine.hd0.heap_1_1 w.params).In h₀ := by k_asm) (N : News h₀ L s.heap all := by k_asm) (T : Top p loose mean mg mb h₀ := by k_asm) (hcs : cs.kind = .function := by rfl)
    (hd : dp + dN < recursionLimit := by exact d_le (by assumption) (Nat.le_of_ble_eq_true rfl)) (hu : un + 8 * dN < cLine := by exact u_le (by assumption) (Nat.le_of_ble_eq_true rfl)) (hp : pre h₀ := by trivial) :
    wpAny (model PySem.Challenge.rw_to0042_01.row.prog w) (ktrTop dp un gd cn cs L a ccd cl outer) (call (.ref f) args kw) Q E s :=
  ctr_use C B F X N T hcs hd hu hp h1 h2 hret
theorem none_off {ns : List Int} {seats : Int} (h : ∀ z ∈ ns, 1 ≤ z ∧ z ≤ seats) : List.map (fun a => a) (List.filter (fun a => if a < 1 then true else if seats < a then true else false) ns) = [] := by
  rw [List.map_eq_nil_iff, List.filter_eq_nil_iff]
  intro z hz
  obtain ⟨h1, h2⟩ := h z hz
  rw [if_neg (by omega), if_neg (by omega)]
  decide
theorem fr_three {g h : Heap} {L : Addr} {m : Str → Option Value} {a b c : Str} {x y z : Value} (F : Fr g L h m) (h1 : m a = some x) (h2 : m b = some y) (h3 : m c = some z) : Fr g L h (fun t => if t = a then some x else if t = b then some y else if t = c then some z else m t) := by
  have e : m = fun t => if t = a then some x else if t = b then some y else if t = c then some z else m t := by
    funext t
    by_cases q1 : t = a
    · rw [if_pos q1, q1, h1]
    · rw [if_neg q1]
      by_cases q2 : t = b
      · rw [if_pos q2, q2, h2]
      · rw [if_neg q2]
        by_cases q3 : t = c
        · rw [if_pos q3, q3, h3]
        · rw [if_neg q3]
  exact e ▸ F
theorem led_sub {h₀ h : Heap} {L : Addr} {a b : Led} (N : News h₀ L h a) (hs : ∀ q ∈ b, q ∈ a) : News h₀ L h b := fun q hq => N q (hs q hq)
theorem pick_ev {vs : List Value} {ns : List Int} (h : IntsAre vs ns) (h3 : 3 ≤ ns.length) (h6 : ns.length ≤ 6) : IntsAre (slicePick vs.toArray (some 0) none (some 2)).toList (evens ns) := by
  rcases h with _ | ⟨a0, t0, h⟩
  · simp at h3
  rcases h with _ | ⟨a1, t1, h⟩
  · simp at h3
  rcases h with _ | ⟨a2, t2, h⟩
  · simp at h3
  rcases h with _ | ⟨a3, t3, h⟩
  · have e : (slicePick ([Value.int a0 t0, Value.int a1 t1, Value.int a2 t2] : List Value).toArray (some 0) none (some 2)).toList = [Value.int a0 t0, Value.int a2 t2] := by kernel_rfl!
    rw [e]; exact .cons _ _ (.cons _ _ (.nil))
  rcases h with _ | ⟨a4, t4, h⟩
  · have e : (slicePick ([Value.int a0 t0, Value.int a1 t1, Value.int a2 t2, Value.int a3 t3] : List Value).toArray (some 0) none (some 2)).toList = [Value.int a0 t0, Value.int a2 t2] := by kernel_rfl!
    rw [e]; exact .cons _ _ (.cons _ _ (.nil))
  rcases h with _ | ⟨a5, t5, h⟩
  · have e : (slicePick ([Value.int a0 t0, Value.int a1 t1, Value.int a2 t2, Value.int a3 t3, Value.int a4 t4] : List Value).toArray (some 0) none (some 2)).toList = [Value.int a0 t0, Value.int a2 t2, Value.int a4 t4] := by kernel_rfl!
    rw [e]; exact .cons _ _ (.cons _ _ (.cons _ _ (.nil)))
  rcases h with _ | ⟨a6, t6, h⟩
  · have e : (slicePick ([Value.int a0 t0, Value.int a1 t1, Value.int a2 t2, Value.int a3 t3, Value.int a4 t4, Value.int a5 t5] : List Value).toArray (some 0) none (some 2)).toList = [Value.int a0 t0, Value.int a2 t2, Value.int a4 t4] := by kernel_rfl!
    rw [e]; exact .cons _ _ (.cons _ _ (.cons _ _ (.nil)))
  simp at h6
theorem pick_od {vs : List Value} {ns : List Int} (h : IntsAre vs ns) (h3 : 3 ≤ ns.length) (h6 : ns.length ≤ 6) : IntsAre (slicePick vs.toArray (some 1) none (some 2)).toList (odds ns) := by
  rcases h with _ | ⟨a0, t0, h⟩
  · simp at h3
  rcases h with _ | ⟨a1, t1, h⟩
  · simp at h3
  rcases h with _ | ⟨a2, t2, h⟩
  · simp at h3
  rcases h with _ | ⟨a3, t3, h⟩
  · have e : (slicePick ([Value.int a0 t0, Value.int a1 t1, Value.int a2 t2] : List Value).toArray (some 1) none (some 2)).toList = [Value.int a1 t1] := by kernel_rfl!
    rw [e]; exact .cons _ _ (.nil)
  rcases h with _ | ⟨a4, t4, h⟩
  · have e : (slicePick ([Value.int a0 t0, Value.int a1 t1, Value.int a2 t2, Value.int a3 t3] : List Value).toArray (some 1) none (some 2)).toList = [Value.int a1 t1, Value.int a3 t3] := by kernel_rfl!
    rw [e]; exact .cons _ _ (.cons _ _ (.nil))
  rcases h with _ | ⟨a5, t5, h⟩
  · have e : (slicePick ([Value.int a0 t0, Value.int a1 t1, Value.int a2 t2, Value.int a3 t3, Value.int a4 t4] : List Value).toArray (some 1) none (some 2)).toList = [Value.int a1 t1, Value.int a3 t3] := by kernel_rfl!
    rw [e]; exact .cons _ _ (.cons _ _ (.nil))
  rcases h with _ | ⟨a6, t6, h⟩
  · have e : (slicePick ([Value.int a0 t0, Value.int a1 t1, Value.int a2 t2, Value.int a3 t3, Value.int a4 t4, Value.int a5 t5] : List Value).toArray (some 1) none (some 2)).toList = [Value.int a1 t1, Value.int a3 t3, Value.int a5 t5] := by kernel_rfl!
    rw [e]; exact .cons _ _ (.cons _ _ (.cons _ _ (.nil)))
  simp at h6
local macro_rules | `(tactic| k_all) => `(tactic| exact List.forall_mem_nil _)
local macro_rules | `(tactic| k_ne) => `(tactic| first | assumption | exact ne_flip (by assumption) | exact Nat.ne_of_gt (by assumption) | exact Nat.ne_of_lt (by assumption))
local macro_rules | `(tactic| walk_at "call ref") => `(tactic| (k_here; (with_reducible show wpAny _ _ (call (Value.ref 135) _ _) _ _ _); k_dflt (refine' ctr_useL (fill2_ctr _ _ _ _ _ _ _ _ _ _ _ _ _ _ _ ?hI ?hi ?hz ?hzl ?h3 ?h6 ?hl ?hf) ?k1 ?k2 ?_; (case k1 => k_all); (case k2 => k_all); (case hI => assumption); (case hi => assumption); (case hz => assumption); (case hzl => ((try assumption) <;> omega)); (case h3 => assumption); (case h6 => assumption); (case hl => ((repeat' (refine List.forall_mem_cons.mpr ⟨by k_ne, ?_⟩)); exact List.forall_mem_nil _)); (case hf => assumption)); intro r kept new h' tk' F' N' hpost; (obtain ⟨aF, hvF, cnF, nbF, e1, e2, hiF, e3⟩ := hpost); subst e1 e2 e3; (dsimp only [lexL, List.cons_append, List.nil_append] at N'); o_facts N'))
local macro_rules | `(tactic| walk_at "call ref") => `(tactic| (k_here; (with_reducible show wpAny _ _ (call (Value.ref 157) _ _) _ _ _); k_dflt (refine' ctr_useL (rises2_ctr _ _ _ _ _ ?hi ?h3 ?h6 ?hr) ?k1 ?k2 ?_; (case k1 => k_all); (case k2 => k_all); (case hi => assumption); (case h3 => assumption); (case h6 => assumption); (case hr => assumption)); intro r kept new h' tk' F' N' hpost; (obtain ⟨aR, cnR, e1, e2, e3⟩ := hpost); subst e1 e2 e3; o_facts N'))
local macro_rules | `(tactic| walk_at "call ref") => `(tactic| (k_here; (with_reducible show wpAny _ _ (call (Value.ref 140) _ _) _ _ _); k_dflt (refine' ctr_useL (written2_ctr _ _ _ _ _ ?hi ?h3 ?h6 ?hz) ?k1 ?k2 ?_; (case k1 => k_all); (case k2 => k_all); (case hi => assumption); (case h3 => assumption); (case h6 => assumption); (case hz => assumption)); intro r kept new h' tk' F' N' hpost; (obtain ⟨tW, e1, e2, e3⟩ := hpost); subst e1 e2 e3; o_facts N'))
local macro_rules | `(tactic| walk_at "call ref") => `(tactic| (k_here; (with_reducible show wpAny _ _ (call (Value.ref 145) _ _) _ _ _); k_dflt (refine' ctr_useL (told2_ctr _ _ _ _ _ _ ?h6 ?hr ?hr6 ?hz ?ht) ?k1 ?k2 ?_; (case k1 => k_all); (case k2 => k_all); (case ht => assumption); (case h6 => assumption); (case hr => assumption); (case hr6 => assumption); (case hz => assumption)); intro r kept new h' tk' F' N' hpost; (obtain ⟨aT, hvT, nT, e1, e2, e3, hiT⟩ := hpost); subst e1 e2 e3; o_facts N'))
local macro_rules | `(tactic| walk_at "call ref") => `(tactic| (k_here; (with_reducible show wpAny _ _ (call (Value.ref 152) _ _) _ _ _); k_dflt (refine' ctr_useL (drawn2_ctr _ _ _ _ _ _ _ _ ?hi ?h6 ?h3 ?h4 ?a1 ?ho) ?k1 ?k2 ?_; (case k1 => k_all); (case k2 => k_all); (case hi => assumption); (case h6 => (rw [List.length_drop]; omega)); (case h3 => assumption); (case h4 => assumption); (case a1 => k_ne); (case ho => assumption)); intro r kept new h' tk' F' N' hpost; (obtain ⟨aD, rvD, rnD, psD, e1, e2, hiD, e3⟩ := hpost); subst e1 e2 e3; o_facts N'))
local macro_rules | `(tactic| walk_at "call ref") => `(tactic| (k_here; (with_reducible show wpAny _ _ (call (Value.ref 86) _ _) _ _ _); k_dflt (refine' ctr_useL (getl_ctr _ _ _ _ _ _ _ _ _ ?hI ?h1 ?h2 ?h3 ?h4) ?k1 ?k2 ?_; (case k1 => k_all); (case k2 => k_all); (case hI => assumption); (case h1 => assumption); (case h2 => assumption); (case h3 => assumption); (case h4 => exact lex_end (by assumption))); intro r kept new h' tk' F' N' hpost; (obtain ⟨t', k', tl', tk', e1, e2, hat', e3⟩ := hpost); subst e1 e2 e3; o_facts N'))
local macro_rules | `(tactic| walk_at "SeqLeaf") => `(tactic| ((refine SeqLeaf.intro ?_); (refine ⟨(if_neg (by assumption)).symm, ?_⟩); exact ⟨_, _, rfl, fun _ _ e => e⟩))
local macro_rules | `(tactic| walk_at "SeqLeaf") => `(tactic| ((refine SeqLeaf.intro ?_); (refine ⟨(if_pos (by assumption)).symm, ?_⟩); exact ⟨_, _, rfl, fun _ _ e => e⟩))
local macro_rules | `(tactic| walk_at "subscriptTail Name Slice ref ref") => `(tactic| (k_here; (with_reducible show wpAny _ _ (subscriptTail _ (PySem.Expr.Slice _ _ (some _) _) (Value.ref _) (Value.ref _)) _ _ _); k_dflt (refine' kmk_slice3_lit ?F ?N ?l ?p ?q ?k ?o rfl ?_ ?s ?t ?z; (case F => k_asm); (case N => k_asm); (case l => kmk_list); (case p => kmk_part); (case q => kmk_part); (case k => kmk_part); (case o => decide); (case s => with_unfolding_all rfl); (case t => kmk_pure); (case z => (rw [List.size_toArray, PySem.sizeLine_eq]; omega))); intro D' h' F' N' l1; (try k_lt l1); (try k_sweep)))
set_option maxHeartbeats 8000000 in
theorem law_d (w : World) (rest : List Stmt) (scope : Scope) (hrest : (fnBody ((Mine.hd0.heap_1_1 w.params).lookup 162)).drop 13 = rest) (hsc : fnScope ((Mine.hd0.heap_1_1 w.params).lookup 162) = some scope) (f : Addr) (cdv : Value) (seats : Int)
   (I : LX) (hI : LXok w I) (ln k : Int) (tl tkk ts : Tok) (n nb : Nat) (restO : List Nat)
   (hat : At I.page k restO) (hst : LexSt seats [] 7 restO ln) (hln0 : 0 ≤ ln) (hln : ln + restO.length ≤ 1000)
   (s3 : 3 ≤ seats) (s6 : seats ≤ 6) (oS : Obj) (hoS : oS.data = .cell (some (.int seats ts))) (ps1 ps2 : Array Value)
   (other ns : List Int) (hns : ∀ z ∈ ns, 1 ≤ z ∧ z ≤ 6) (hnl : ns.length ≤ 60) (hf2 : fillR 3 seats ns = (other, []))
   (aD aT : Addr) (dv tv : List Value) (dn tn : Nat) (hdv : IntsAre dv other) (htv : IntsAre tv ns) (psD : Array Value)
   (p : Program) (loose : List Str) (mean : ExcName → Option Value) (mg mb : Str → Option Value) (dp un : Nat) (gd : Option (List Code)) (outer : List Env) (A₀ : Around) (base g : Heap) (L' : Addr) (s s₀ : Shared) (hh : Heap) (tk₀ : Nat) (hs : s = { s₀ with heap := hh, toks := tk₀ }) (m₀ : Str → Option Value)
   (x0 : ∀ b ∈ lxA I, aD ≠ b) (x1 : ∀ b ∈ lxA I, aT ≠ b) (x2 : ∀ b ∈ lxA I, L' + 1 ≠ b) (x3 : ∀ b ∈ lxA I, (147 : Addr) ≠ b) (x4 : ∀ b ∈ lxA I, (123 : Addr) ≠ b) (x5 : ∀ b ∈ lxA I, (102 : Addr) ≠ b) (y0 : aD ≠ aT) (y1 : aD ≠ L' + 1) (y2 : aD ≠ (147 : Addr)) (y3 : aD ≠ (123 : Addr)) (y4 : aD ≠ (102 : Addr)) (y5 : aT ≠ L' + 1) (y6 : aT ≠ (147 : Addr)) (y7 : aT ≠ (123 : Addr)) (y8 : aT ≠ (102 : Addr)) (y9 : L' + 1 ≠ (147 : Addr)) (y10 : L' + 1 ≠ (123 : Addr)) (y11 : L' + 1 ≠ (102 : Addr))
   (B : Below A₀ base outer g) (F : Fr g L' s.heap (fun y => if y = Str.ofString "numbers" then some (.ref aT) else if y = Str.ofString "other" then some (.ref aD) else if y = Str.ofString "lexer" then some (.ref I.x) else  m₀ y)) (X : (Mine.hd0.heap_1_1 w.params).In g)
   (N : News g L' s.heap ((aT, W.listOf tv.toArray tn) :: (aD, W.listOf dv.toArray dn) :: (lexL w I ln k tl tkk n [] nb ++ [(L' + 1, oS), (147, tabObj psD), (123, tabObj ps1), (102, tabObj ps2)]))) (T : Top p loose mean mg mb g) (hd : dp + 60 < recursionLimit) (hu : un + 8 * 60 < cLine) :
   wpAny (model PySem.Challenge.rw_to0042_01.row.prog w) (ktrTop dp un gd (Str.ofString "law") scope L' f cdv (cellsFrom (L' + 1) scope.names []) outer) (execs rest (envOfC (Str.ofString "law") scope L' f cdv)) (LawEnd g L' s₀ ps1 ps2) (fun _ _ => False) s := by
  w_top off
  revert w rest scope hrest hsc f cdv seats I hI ln k tl tkk ts n nb restO hat hst hln0 hln s3 s6 oS hoS ps1 ps2 other ns hns hnl hf2 aD aT dv tv dn tn hdv htv psD p loose mean mg mb dp un gd outer A₀ base g L' s s₀ hh tk₀ hs m₀ x0 x1 x2 x3 x4 x5 y0 y1 y2 y3 y4 y5 y6 y7 y8 y9 y10 y11 B F X N T hd hu
  first | ((first | refine no_implicit_lambda% (skol ?_) | refine no_implicit_lambda% (skolW ?_) | refine no_implicit_lambda% (skolL ?_) | refine no_implicit_lambda% (skolS ?_) | refine no_implicit_lambda% (skolA ?_)); generalize @skz _ _ _ = w) | intro w
  first | ((first | refine no_implicit_lambda% (skol ?_) | refine no_implicit_lambda% (skolW ?_) | refine no_implicit_lambda% (skolL ?_) | refine no_implicit_lambda% (skolS ?_) | refine no_implicit_lambda% (skolA ?_)); generalize @skz _ _ _ = rest) | intro rest
  first | ((first | refine no_implicit_lambda% (skol ?_) | refine no_implicit_lambda% (skolW ?_) | refine no_implicit_lambda% (skolL ?_) | refine no_implicit_lambda% (skolS ?_) | refine no_implicit_lambda% (skolA ?_)); generalize @skz _ _ _ = scope) | intro scope
  first | ((first | refine no_implicit_lambda% (skol ?_) | refine no_implicit_lambda% (skolW ?_) | refine no_implicit_lambda% (skolL ?_) | refine no_implicit_lambda% (skolS ?_) | refine no_implicit_lambda% (skolA ?_)); generalize @skz _ _ _ = hrest) | intro hrest
  first | ((first | refine no_implicit_lambda% (skol ?_) | refine no_implicit_lambda% (skolW ?_) | refine no_implicit_lambda% (skolL ?_) | refine no_implicit_lambda% (skolS ?_) | refine no_implicit_lambda% (skolA ?_)); generalize @skz _ _ _ = hsc) | intro hsc
  first | (refine no_implicit_lambda% (skol4 (by first | exact ⟨default⟩ | exact neWorld | exact neShared | exact neAround | exact neLX) (by first | exact ⟨default⟩ | exact neWorld | exact neShared | exact neAround | exact neLX) (by first | exact ⟨default⟩ | exact neWorld | exact neShared | exact neAround | exact neLX) (by first | exact ⟨default⟩ | exact neWorld | exact neShared | exact neAround | exact neLX) ?_); generalize @sk4a _ _ _ _ _ _ _ _ _ = f; generalize @sk4b _ _ _ _ _ _ _ _ _ = cdv; generalize @sk4c _ _ _ _ _ _ _ _ _ = seats; generalize @sk4d _ _ _ _ _ _ _ _ _ = I) | ((first | ((first | refine no_implicit_lambda% (skol ?_) | refine no_implicit_lambda% (skolW ?_) | refine no_implicit_lambda% (skolL ?_) | refine no_implicit_lambda% (skolS ?_) | refine no_implicit_lambda% (skolA ?_)); generalize @skz _ _ _ = f) | intro f); (first | ((first | refine no_implicit_lambda% (skol ?_) | refine no_implicit_lambda% (skolW ?_) | refine no_implicit_lambda% (skolL ?_) | refine no_implicit_lambda% (skolS ?_) | refine no_implicit_lambda% (skolA ?_)); generalize @skz _ _ _ = cdv) | intro cdv); (first | ((first | refine no_implicit_lambda% (skol ?_) | refine no_implicit_lambda% (skolW ?_) | refine no_implicit_lambda% (skolL ?_) | refine no_implicit_lambda% (skolS ?_) | refine no_implicit_lambda% (skolA ?_)); generalize @skz _ _ _ = seats) | intro seats); (first | ((first | refine no_implicit_lambda% (skol ?_) | refine no_implicit_lambda% (skolW ?_) | refine no_implicit_lambda% (skolL ?_) | refine no_implicit_lambda% (skolS ?_) | refine no_implicit_lambda% (skolA ?_)); generalize @skz _ _ _ = I) | intro I))
  first | ((first | refine no_implicit_lambda% (skol ?_) | refine no_implicit_lambda% (skolW ?_) | refine no_implicit_lambda% (skolL ?_) | refine no_implicit_lambda% (skolS ?_) | refine no_implicit_lambda% (skolA ?_)); generalize @skz _ _ _ = hI) | intro hI
  first | (refine no_implicit_lambda% (skol4 (by first | exact ⟨default⟩ | exact neWorld | exact neShared | exact neAround | exact neLX) (by first | exact ⟨default⟩ | exact neWorld | exact neShared | exact neAround | exact neLX) (by first | exact ⟨default⟩ | exact neWorld | exact neShared | exact neAround | exact neLX) (by first | exact ⟨default⟩ | exact neWorld | exact neShared | exact neAround | exact neLX) ?_); generalize @sk4a _ _ _ _ _ _ _ _ _ = ln; generalize @sk4b _ _ _ _ _ _ _ _ _ = k; generalize @sk4c _ _ _ _ _ _ _ _ _ = tl; generalize @sk4d _ _ _ _ _ _ _ _ _ = tkk) | ((first | ((first | refine no_implicit_lambda% (skol ?_) | refine no_implicit_lambda% (skolW ?_) | refine no_implicit_lambda% (skolL ?_) | refine no_implicit_lambda% (skolS ?_) | refine no_implicit_lambda% (skolA ?_)); generalize @skz _ _ _ = ln) | intro ln); (first | ((first | refine no_implicit_lambda% (skol ?_) | refine no_implicit_lambda% (skolW ?_) | refine no_implicit_lambda% (skolL ?_) | refine no_implicit_lambda% (skolS ?_) | refine no_implicit_lambda% (skolA ?_)); generalize @skz _ _ _ = k) | intro k); (first | ((first | refine no_implicit_lambda% (skol ?_) | refine no_implicit_lambda% (skolW ?_) | refine no_implicit_lambda% (skolL ?_) | refine no_implicit_lambda% (skolS ?_) | refine no_implicit_lambda% (skolA ?_)); generalize @skz _ _ _ = tl) | intro tl); (first | ((first | refine no_implicit_lambda% (skol ?_) | refine no_implicit_lambda% (skolW ?_) | refine no_implicit_lambda% (skolL ?_) | refine no_implicit_lambda% (skolS ?_) | refine no_implicit_lambda% (skolA ?_)); generalize @skz _ _ _ = tkk) | intro tkk))
  first | (refine no_implicit_lambda% (skol4 (by first | exact ⟨default⟩ | exact neWorld | exact neShared | exact neAround | exact neLX) (by first | exact ⟨default⟩ | exact neWorld | exact neShared | exact neAround | exact neLX) (by first | exact ⟨default⟩ | exact neWorld | exact neShared | exact neAround | exact neLX) (by first | exact ⟨default⟩ | exact neWorld | exact neShared | exact neAround | exact neLX) ?_); generalize @sk4a _ _ _ _ _ _ _ _ _ = ts; generalize @sk4b _ _ _ _ _ _ _ _ _ = n; generalize @sk4c _ _ _ _ _ _ _ _ _ = nb; generalize @sk4d _ _ _ _ _ _ _ _ _ = restO) | ((first | ((first | refine no_implicit_lambda% (skol ?_) | refine no_implicit_lambda% (skolW ?_) | refine no_implicit_lambda% (skolL ?_) | refine no_implicit_lambda% (skolS ?_) | refine no_implicit_lambda% (skolA ?_)); generalize @skz _ _ _ = ts) | intro ts); (first | ((first | refine no_implicit_lambda% (skol ?_) | refine no_implicit_lambda% (skolW ?_) | refine no_implicit_lambda% (skolL ?_) | refine no_implicit_lambda% (skolS ?_) | refine no_implicit_lambda% (skolA ?_)); generalize @skz _ _ _ = n) | intro n); (first | ((first | refine no_implicit_lambda% (skol ?_) | refine no_implicit_lambda% (skolW ?_) | refine no_implicit_lambda% (skolL ?_) | refine no_implicit_lambda% (skolS ?_) | refine no_implicit_lambda% (skolA ?_)); generalize @skz _ _ _ = nb) | intro nb); (first | ((first | refine no_implicit_lambda% (skol ?_) | refine no_implicit_lambda% (skolW ?_) | refine no_implicit_lambda% (skolL ?_) | refine no_implicit_lambda% (skolS ?_) | refine no_implicit_lambda% (skolA ?_)); generalize @skz _ _ _ = restO) | intro restO))
  first | ((first | refine no_implicit_lambda% (skol ?_) | refine no_implicit_lambda% (skolW ?_) | refine no_implicit_lambda% (skolL ?_) | refine no_implicit_lambda% (skolS ?_) | refine no_implicit_lambda% (skolA ?_)); generalize @skz _ _ _ = hat) | intro hat
  first | ((first | refine no_implicit_lambda% (skol ?_) | refine no_implicit_lambda% (skolW ?_) | refine no_implicit_lambda% (skolL ?_) | refine no_implicit_lambda% (skolS ?_) | refine no_implicit_lambda% (skolA ?_)); generalize @skz _ _ _ = hst) | intro hst
  first | ((first | refine no_implicit_lambda% (skol ?_) | refine no_implicit_lambda% (skolW ?_) | refine no_implicit_lambda% (skolL ?_) | refine no_implicit_lambda% (skolS ?_) | refine no_implicit_lambda% (skolA ?_)); generalize @skz _ _ _ = hln0) | intro hln0
  first | ((first | refine no_implicit_lambda% (skol ?_) | refine no_implicit_lambda% (skolW ?_) | refine no_implicit_lambda% (skolL ?_) | refine no_implicit_lambda% (skolS ?_) | refine no_implicit_lambda% (skolA ?_)); generalize @skz _ _ _ = hln) | intro hln
  first | ((first | refine no_implicit_lambda% (skol ?_) | refine no_implicit_lambda% (skolW ?_) | refine no_implicit_lambda% (skolL ?_) | refine no_implicit_lambda% (skolS ?_) | refine no_implicit_lambda% (skolA ?_)); generalize @skz _ _ _ = s3) | intro s3
  first | ((first | refine no_implicit_lambda% (skol ?_) | refine no_implicit_lambda% (skolW ?_) | refine no_implicit_lambda% (skolL ?_) | refine no_implicit_lambda% (skolS ?_) | refine no_implicit_lambda% (skolA ?_)); generalize @skz _ _ _ = s6) | intro s6
  first | ((first | refine no_implicit_lambda% (skol ?_) | refine no_implicit_lambda% (skolW ?_) | refine no_implicit_lambda% (skolL ?_) | refine no_implicit_lambda% (skolS ?_) | refine no_implicit_lambda% (skolA ?_)); generalize @skz _ _ _ = oS) | intro oS
  first | ((first | refine no_implicit_lambda% (skol ?_) | refine no_implicit_lambda% (skolW ?_) | refine no_implicit_lambda% (skolL ?_) | refine no_implicit_lambda% (skolS ?_) | refine no_implicit_lambda% (skolA ?_)); generalize @skz _ _ _ = hoS) | intro hoS
  first | (refine no_implicit_lambda% (skol4 (by first | exact ⟨default⟩ | exact neWorld | exact neShared | exact neAround | exact neLX) (by first | exact ⟨default⟩ | exact neWorld | exact neShared | exact neAround | exact neLX) (by first | exact ⟨default⟩ | exact neWorld | exact neShared | exact neAround | exact neLX) (by first | exact ⟨default⟩ | exact neWorld | exact neShared | exact neAround | exact neLX) ?_); generalize @sk4a _ _ _ _ _ _ _ _ _ = ps1; generalize @sk4b _ _ _ _ _ _ _ _ _ = ps2; generalize @sk4c _ _ _ _ _ _ _ _ _ = other; generalize @sk4d _ _ _ _ _ _ _ _ _ = ns) | ((first | ((first | refine no_implicit_lambda% (skol ?_) | refine no_implicit_lambda% (skolW ?_) | refine no_implicit_lambda% (skolL ?_) | refine no_implicit_lambda% (skolS ?_) | refine no_implicit_lambda% (skolA ?_)); generalize @skz _ _ _ = ps1) | intro ps1); (first | ((first | refine no_implicit_lambda% (skol ?_) | refine no_implicit_lambda% (skolW ?_) | refine no_implicit_lambda% (skolL ?_) | refine no_implicit_lambda% (skolS ?_) | refine no_implicit_lambda% (skolA ?_)); generalize @skz _ _ _ = ps2) | intro ps2); (first | ((first | refine no_implicit_lambda% (skol ?_) | refine no_implicit_lambda% (skolW ?_) | refine no_implicit_lambda% (skolL ?_) | refine no_implicit_lambda% (skolS ?_) | refine no_implicit_lambda% (skolA ?_)); generalize @skz _ _ _ = other) | intro other); (first | ((first | refine no_implicit_lambda% (skol ?_) | refine no_implicit_lambda% (skolW ?_) | refine no_implicit_lambda% (skolL ?_) | refine no_implicit_lambda% (skolS ?_) | refine no_implicit_lambda% (skolA ?_)); generalize @skz _ _ _ = ns) | intro ns))
  first | ((first | refine no_implicit_lambda% (skol ?_) | refine no_implicit_lambda% (skolW ?_) | refine no_implicit_lambda% (skolL ?_) | refine no_implicit_lambda% (skolS ?_) | refine no_implicit_lambda% (skolA ?_)); generalize @skz _ _ _ = hns) | intro hns
  first | ((first | refine no_implicit_lambda% (skol ?_) | refine no_implicit_lambda% (skolW ?_) | refine no_implicit_lambda% (skolL ?_) | refine no_implicit_lambda% (skolS ?_) | refine no_implicit_lambda% (skolA ?_)); generalize @skz _ _ _ = hnl) | intro hnl
  first | ((first | refine no_implicit_lambda% (skol ?_) | refine no_implicit_lambda% (skolW ?_) | refine no_implicit_lambda% (skolL ?_) | refine no_implicit_lambda% (skolS ?_) | refine no_implicit_lambda% (skolA ?_)); generalize @skz _ _ _ = hf2) | intro hf2
  first | (refine no_implicit_lambda% (skol4 (by first | exact ⟨default⟩ | exact neWorld | exact neShared | exact neAround | exact neLX) (by first | exact ⟨default⟩ | exact neWorld | exact neShared | exact neAround | exact neLX) (by first | exact ⟨default⟩ | exact neWorld | exact neShared | exact neAround | exact neLX) (by first | exact ⟨default⟩ | exact neWorld | exact neShared | exact neAround | exact neLX) ?_); generalize @sk4a _ _ _ _ _ _ _ _ _ = aD; generalize @sk4b _ _ _ _ _ _ _ _ _ = aT; generalize @sk4c _ _ _ _ _ _ _ _ _ = dv; generalize @sk4d _ _ _ _ _ _ _ _ _ = tv) | ((first | ((first | refine no_implicit_lambda% (skol ?_) | refine no_implicit_lambda% (skolW ?_) | refine no_implicit_lambda% (skolL ?_) | refine no_implicit_lambda% (skolS ?_) | refine no_implicit_lambda% (skolA ?_)); generalize @skz _ _ _ = aD) | intro aD); (first | ((first | refine no_implicit_lambda% (skol ?_) | refine no_implicit_lambda% (skolW ?_) | refine no_implicit_lambda% (skolL ?_) | refine no_implicit_lambda% (skolS ?_) | refine no_implicit_lambda% (skolA ?_)); generalize @skz _ _ _ = aT) | intro aT); (first | ((first | refine no_implicit_lambda% (skol ?_) | refine no_implicit_lambda% (skolW ?_) | refine no_implicit_lambda% (skolL ?_) | refine no_implicit_lambda% (skolS ?_) | refine no_implicit_lambda% (skolA ?_)); generalize @skz _ _ _ = dv) | intro dv); (first | ((first | refine no_implicit_lambda% (skol ?_) | refine no_implicit_lambda% (skolW ?_) | refine no_implicit_lambda% (skolL ?_) | refine no_implicit_lambda% (skolS ?_) | refine no_implicit_lambda% (skolA ?_)); generalize @skz _ _ _ = tv) | intro tv))
  first | ((first | refine no_implicit_lambda% (skol ?_) | refine no_implicit_lambda% (skolW ?_) | refine no_implicit_lambda% (skolL ?_) | refine no_implicit_lambda% (skolS ?_) | refine no_implicit_lambda% (skolA ?_)); generalize @skz _ _ _ = dn) | intro dn
  first | ((first | refine no_implicit_lambda% (skol ?_) | refine no_implicit_lambda% (skolW ?_) | refine no_implicit_lambda% (skolL ?_) | refine no_implicit_lambda% (skolS ?_) | refine no_implicit_lambda% (skolA ?_)); generalize @skz _ _ _ = tn) | intro tn
  first | ((first | refine no_implicit_lambda% (skol ?_) | refine no_implicit_lambda% (skolW ?_) | refine no_implicit_lambda% (skolL ?_) | refine no_implicit_lambda% (skolS ?_) | refine no_implicit_lambda% (skolA ?_)); generalize @skz _ _ _ = hdv) | intro hdv
  first | ((first | refine no_implicit_lambda% (skol ?_) | refine no_implicit_lambda% (skolW ?_) | refine no_implicit_lambda% (skolL ?_) | refine no_implicit_lambda% (skolS ?_) | refine no_implicit_lambda% (skolA ?_)); generalize @skz _ _ _ = htv) | intro htv
  first | (refine no_implicit_lambda% (skol4 (by first | exact ⟨default⟩ | exact neWorld | exact neShared | exact neAround | exact neLX) (by first | exact ⟨default⟩ | exact neWorld | exact neShared | exact neAround | exact neLX) (by first | exact ⟨default⟩ | exact neWorld | exact neShared | exact neAround | exact neLX) (by first | exact ⟨default⟩ | exact neWorld | exact neShared | exact neAround | exact neLX) ?_); generalize @sk4a _ _ _ _ _ _ _ _ _ = psD; generalize @sk4b _ _ _ _ _ _ _ _ _ = p; generalize @sk4c _ _ _ _ _ _ _ _ _ = loose; generalize @sk4d _ _ _ _ _ _ _ _ _ = mean) | ((first | ((first | refine no_implicit_lambda% (skol ?_) | refine no_implicit_lambda% (skolW ?_) | refine no_implicit_lambda% (skolL ?_) | refine no_implicit_lambda% (skolS ?_) | refine no_implicit_lambda% (skolA ?_)); generalize @skz _ _ _ = psD) | intro psD); (first | ((first | refine no_implicit_lambda% (skol ?_) | refine no_implicit_lambda% (skolW ?_) | refine no_implicit_lambda% (skolL ?_) | refine no_implicit_lambda% (skolS ?_) | refine no_implicit_lambda% (skolA ?_)); generalize @skz _ _ _ = p) | intro p); (first | ((first | refine no_implicit_lambda% (skol ?_) | refine no_implicit_lambda% (skolW ?_) | refine no_implicit_lambda% (skolL ?_) | refine no_implicit_lambda% (skolS ?_) | refine no_implicit_lambda% (skolA ?_)); generalize @skz _ _ _ = loose) | intro loose); (first | ((first | refine no_implicit_lambda% (skol ?_) | refine no_implicit_lambda% (skolW ?_) | refine no_implicit_lambda% (skolL ?_) | refine no_implicit_lambda% (skolS ?_) | refine no_implicit_lambda% (skolA ?_)); generalize @skz _ _ _ = mean) | intro mean))
  first | (refine no_implicit_lambda% (skol4 (by first | exact ⟨default⟩ | exact neWorld | exact neShared | exact neAround | exact neLX) (by first | exact ⟨default⟩ | exact neWorld | exact neShared | exact neAround | exact neLX) (by first | exact ⟨default⟩ | exact neWorld | exact neShared | exact neAround | exact neLX) (by first | exact ⟨default⟩ | exact neWorld | exact neShared | exact neAround | exact neLX) ?_); generalize @sk4a _ _ _ _ _ _ _ _ _ = mg; generalize @sk4b _ _ _ _ _ _ _ _ _ = mb; generalize @sk4c _ _ _ _ _ _ _ _ _ = dp; generalize @sk4d _ _ _ _ _ _ _ _ _ = un) | ((first | ((first | refine no_implicit_lambda% (skol ?_) | refine no_implicit_lambda% (skolW ?_) | refine no_implicit_lambda% (skolL ?_) | refine no_implicit_lambda% (skolS ?_) | refine no_implicit_lambda% (skolA ?_)); generalize @skz _ _ _ = mg) | intro mg); (first | ((first | refine no_implicit_lambda% (skol ?_) | refine no_implicit_lambda% (skolW ?_) | refine no_implicit_lambda% (skolL ?_) | refine no_implicit_lambda% (skolS ?_) | refine no_implicit_lambda% (skolA ?_)); generalize @skz _ _ _ = mb) | intro mb); (first | ((first | refine no_implicit_lambda% (skol ?_) | refine no_implicit_lambda% (skolW ?_) | refine no_implicit_lambda% (skolL ?_) | refine no_implicit_lambda% (skolS ?_) | refine no_implicit_lambda% (skolA ?_)); generalize @skz _ _ _ = dp) | intro dp); (first | ((first | refine no_implicit_lambda% (skol ?_) | refine no_implicit_lambda% (skolW ?_) | refine no_implicit_lambda% (skolL ?_) | refine no_implicit_lambda% (skolS ?_) | refine no_implicit_lambda% (skolA ?_)); generalize @skz _ _ _ = un) | intro un))
  first | (refine no_implicit_lambda% (skol4 (by first | exact ⟨default⟩ | exact neWorld | exact neShared | exact neAround | exact neLX) (by first | exact ⟨default⟩ | exact neWorld | exact neShared | exact neAround | exact neLX) (by first | exact ⟨default⟩ | exact neWorld | exact neShared | exact neAround | exact neLX) (by first | exact ⟨default⟩ | exact neWorld | exact neShared | exact neAround | exact neLX) ?_); generalize @sk4a _ _ _ _ _ _ _ _ _ = gd; generalize @sk4b _ _ _ _ _ _ _ _ _ = outer; generalize @sk4c _ _ _ _ _ _ _ _ _ = A₀; generalize @sk4d _ _ _ _ _ _ _ _ _ = base) | ((first | ((first | refine no_implicit_lambda% (skol ?_) | refine no_implicit_lambda% (skolW ?_) | refine no_implicit_lambda% (skolL ?_) | refine no_implicit_lambda% (skolS ?_) | refine no_implicit_lambda% (skolA ?_)); generalize @skz _ _ _ = gd) | intro gd); (first | ((first | refine no_implicit_lambda% (skol ?_) | refine no_implicit_lambda% (skolW ?_) | refine no_implicit_lambda% (skolL ?_) | refine no_implicit_lambda% (skolS ?_) | refine no_implicit_lambda% (skolA ?_)); generalize @skz _ _ _ = outer) | intro outer); (first | ((first | refine no_implicit_lambda% (skol ?_) | refine no_implicit_lambda% (skolW ?_) | refine no_implicit_lambda% (skolL ?_) | refine no_implicit_lambda% (skolS ?_) | refine no_implicit_lambda% (skolA ?_)); generalize @skz _ _ _ = A₀) | intro A₀); (first | ((first | refine no_implicit_lambda% (skol ?_) | refine no_implicit_lambda% (skolW ?_) | refine no_implicit_lambda% (skolL ?_) | refine no_implicit_lambda% (skolS ?_) | refine no_implicit_lambda% (skolA ?_)); generalize @skz _ _ _ = base) | intro base))
  first | (refine no_implicit_lambda% (skol4 (by first | exact ⟨default⟩ | exact neWorld | exact neShared | exact neAround | exact neLX) (by first | exact ⟨default⟩ | exact neWorld | exact neShared | exact neAround | exact neLX) (by first | exact ⟨default⟩ | exact neWorld | exact neShared | exact neAround | exact neLX) (by first | exact ⟨default⟩ | exact neWorld | exact neShared | exact neAround | exact neLX) ?_); generalize @sk4a _ _ _ _ _ _ _ _ _ = g; generalize @sk4b _ _ _ _ _ _ _ _ _ = L'; generalize @sk4c _ _ _ _ _ _ _ _ _ = s; generalize @sk4d _ _ _ _ _ _ _ _ _ = s₀) | ((first | ((first | refine no_implicit_lambda% (skol ?_) | refine no_implicit_lambda% (skolW ?_) | refine no_implicit_lambda% (skolL ?_) | refine no_implicit_lambda% (skolS ?_) | refine no_implicit_lambda% (skolA ?_)); generalize @skz _ _ _ = g) | intro g); (first | ((first | refine no_implicit_lambda% (skol ?_) | refine no_implicit_lambda% (skolW ?_) | refine no_implicit_lambda% (skolL ?_) | refine no_implicit_lambda% (skolS ?_) | refine no_implicit_lambda% (skolA ?_)); generalize @skz _ _ _ = L') | intro L'); (first | ((first | refine no_implicit_lambda% (skol ?_) | refine no_implicit_lambda% (skolW ?_) | refine no_implicit_lambda% (skolL ?_) | refine no_implicit_lambda% (skolS ?_) | refine no_implicit_lambda% (skolA ?_)); generalize @skz _ _ _ = s) | intro s); (first | ((first | refine no_implicit_lambda% (skol ?_) | refine no_implicit_lambda% (skolW ?_) | refine no_implicit_lambda% (skolL ?_) | refine no_implicit_lambda% (skolS ?_) | refine no_implicit_lambda% (skolA ?_)); generalize @skz _ _ _ = s₀) | intro s₀))
  first | ((first | refine no_implicit_lambda% (skol ?_) | refine no_implicit_lambda% (skolW ?_) | refine no_implicit_lambda% (skolL ?_) | refine no_implicit_lambda% (skolS ?_) | refine no_implicit_lambda% (skolA ?_)); generalize @skz _ _ _ = hh) | intro hh
  first | ((first | refine no_implicit_lambda% (skol ?_) | refine no_implicit_lambda% (skolW ?_) | refine no_implicit_lambda% (skolL ?_) | refine no_implicit_lambda% (skolS ?_) | refine no_implicit_lambda% (skolA ?_)); generalize @skz _ _ _ = tk₀) | intro tk₀
  first | ((first | refine no_implicit_lambda% (skol ?_) | refine no_implicit_lambda% (skolW ?_) | refine no_implicit_lambda% (skolL ?_) | refine no_implicit_lambda% (skolS ?_) | refine no_implicit_lambda% (skolA ?_)); generalize @skz _ _ _ = hs) | intro hs
  first | ((first | refine no_implicit_lambda% (skol ?_) | refine no_implicit_lambda% (skolW ?_) | refine no_implicit_lambda% (skolL ?_) | refine no_implicit_lambda% (skolS ?_) | refine no_implicit_lambda% (skolA ?_)); generalize @skz _ _ _ = m₀) | intro m₀
  first | ((first | refine no_implicit_lambda% (skol ?_) | refine no_implicit_lambda% (skolW ?_) | refine no_implicit_lambda% (skolL ?_) | refine no_implicit_lambda% (skolS ?_) | refine no_implicit_lambda% (skolA ?_)); generalize @skz _ _ _ = x0) | intro x0
  first | ((first | refine no_implicit_lambda% (skol ?_) | refine no_implicit_lambda% (skolW ?_) | refine no_implicit_lambda% (skolL ?_) | refine no_implicit_lambda% (skolS ?_) | refine no_implicit_lambda% (skolA ?_)); generalize @skz _ _ _ = x1) | intro x1
  first | ((first | refine no_implicit_lambda% (skol ?_) | refine no_implicit_lambda% (skolW ?_) | refine no_implicit_lambda% (skolL ?_) | refine no_implicit_lambda% (skolS ?_) | refine no_implicit_lambda% (skolA ?_)); generalize @skz _ _ _ = x2) | intro x2
  first | ((first | refine no_implicit_lambda% (skol ?_) | refine no_implicit_lambda% (skolW ?_) | refine no_implicit_lambda% (skolL ?_) | refine no_implicit_lambda% (skolS ?_) | refine no_implicit_lambda% (skolA ?_)); generalize @skz _ _ _ = x3) | intro x3
  first | ((first | refine no_implicit_lambda% (skol ?_) | refine no_implicit_lambda% (skolW ?_) | refine no_implicit_lambda% (skolL ?_) | refine no_implicit_lambda% (skolS ?_) | refine no_implicit_lambda% (skolA ?_)); generalize @skz _ _ _ = x4) | intro x4
  first | ((first | refine no_implicit_lambda% (skol ?_) | refine no_implicit_lambda% (skolW ?_) | refine no_implicit_lambda% (skolL ?_) | refine no_implicit_lambda% (skolS ?_) | refine no_implicit_lambda% (skolA ?_)); generalize @skz _ _ _ = x5) | intro x5
  first | ((first | refine no_implicit_lambda% (skol ?_) | refine no_implicit_lambda% (skolW ?_) | refine no_implicit_lambda% (skolL ?_) | refine no_implicit_lambda% (skolS ?_) | refine no_implicit_lambda% (skolA ?_)); generalize @skz _ _ _ = y0) | intro y0
  first | ((first | refine no_implicit_lambda% (skol ?_) | refine no_implicit_lambda% (skolW ?_) | refine no_implicit_lambda% (skolL ?_) | refine no_implicit_lambda% (skolS ?_) | refine no_implicit_lambda% (skolA ?_)); generalize @skz _ _ _ = y1) | intro y1
  first | ((first | refine no_implicit_lambda% (skol ?_) | refine no_implicit_lambda% (skolW ?_) | refine no_implicit_lambda% (skolL ?_) | refine no_implicit_lambda% (skolS ?_) | refine no_implicit_lambda% (skolA ?_)); generalize @skz _ _ _ = y2) | intro y2
  first | ((first | refine no_implicit_lambda% (skol ?_) | refine no_implicit_lambda% (skolW ?_) | refine no_implicit_lambda% (skolL ?_) | refine no_implicit_lambda% (skolS ?_) | refine no_implicit_lambda% (skolA ?_)); generalize @skz _ _ _ = y3) | intro y3
  first | ((first | refine no_implicit_lambda% (skol ?_) | refine no_implicit_lambda% (skolW ?_) | refine no_implicit_lambda% (skolL ?_) | refine no_implicit_lambda% (skolS ?_) | refine no_implicit_lambda% (skolA ?_)); generalize @skz _ _ _ = y4) | intro y4
  first | ((first | refine no_implicit_lambda% (skol ?_) | refine no_implicit_lambda% (skolW ?_) | refine no_implicit_lambda% (skolL ?_) | refine no_implicit_lambda% (skolS ?_) | refine no_implicit_lambda% (skolA ?_)); generalize @skz _ _ _ = y5) | intro y5
  first | ((first | refine no_implicit_lambda% (skol ?_) | refine no_implicit_lambda% (skolW ?_) | refine no_implicit_lambda% (skolL ?_) | refine no_implicit_lambda% (skolS ?_) | refine no_implicit_lambda% (skolA ?_)); generalize @skz _ _ _ = y6) | intro y6
  first | ((first | refine no_implicit_lambda% (skol ?_) | refine no_implicit_lambda% (skolW ?_) | refine no_implicit_lambda% (skolL ?_) | refine no_implicit_lambda% (skolS ?_) | refine no_implicit_lambda% (skolA ?_)); generalize @skz _ _ _ = y7) | intro y7
  first | ((first | refine no_implicit_lambda% (skol ?_) | refine no_implicit_lambda% (skolW ?_) | refine no_implicit_lambda% (skolL ?_) | refine no_implicit_lambda% (skolS ?_) | refine no_implicit_lambda% (skolA ?_)); generalize @skz _ _ _ = y8) | intro y8
  first | ((first | refine no_implicit_lambda% (skol ?_) | refine no_implicit_lambda% (skolW ?_) | refine no_implicit_lambda% (skolL ?_) | refine no_implicit_lambda% (skolS ?_) | refine no_implicit_lambda% (skolA ?_)); generalize @skz _ _ _ = y9) | intro y9
  first | ((first | refine no_implicit_lambda% (skol ?_) | refine no_implicit_lambda% (skolW ?_) | refine no_implicit_lambda% (skolL ?_) | refine no_implicit_lambda% (skolS ?_) | refine no_implicit_lambda% (skolA ?_)); generalize @skz _ _ _ = y10) | intro y10
  first | ((first | refine no_implicit_lambda% (skol ?_) | refine no_implicit_lambda% (skolW ?_) | refine no_implicit_lambda% (skolL ?_) | refine no_implicit_lambda% (skolS ?_) | refine no_implicit_lambda% (skolA ?_)); generalize @skz _ _ _ = y11) | intro y11
  first | ((first | refine no_implicit_lambda% (skol ?_) | refine no_implicit_lambda% (skolW ?_) | refine no_implicit_lambda% (skolL ?_) | refine no_implicit_lambda% (skolS ?_) | refine no_implicit_lambda% (skolA ?_)); generalize @skz _ _ _ = B) | intro B
  first | ((first | refine no_implicit_lambda% (skol ?_) | refine no_implicit_lambda% (skolW ?_) | refine no_implicit_lambda% (skolL ?_) | refine no_implicit_lambda% (skolS ?_) | refine no_implicit_lambda% (skolA ?_)); generalize @skz _ _ _ = F) | intro F
  first | ((first | refine no_implicit_lambda% (skol ?_) | refine no_implicit_lambda% (skolW ?_) | refine no_implicit_lambda% (skolL ?_) | refine no_implicit_lambda% (skolS ?_) | refine no_implicit_lambda% (skolA ?_)); generalize @skz _ _ _ = X) | intro X
  first | ((first | refine no_implicit_lambda% (skol ?_) | refine no_implicit_lambda% (skolW ?_) | refine no_implicit_lambda% (skolL ?_) | refine no_implicit_lambda% (skolS ?_) | refine no_implicit_lambda% (skolA ?_)); generalize @skz _ _ _ = N) | intro N
  first | ((first | refine no_implicit_lambda% (skol ?_) | refine no_implicit_lambda% (skolW ?_) | refine no_implicit_lambda% (skolL ?_) | refine no_implicit_lambda% (skolS ?_) | refine no_implicit_lambda% (skolA ?_)); generalize @skz _ _ _ = T) | intro T
  first | ((first | refine no_implicit_lambda% (skol ?_) | refine no_implicit_lambda% (skolW ?_) | refine no_implicit_lambda% (skolL ?_) | refine no_implicit_lambda% (skolS ?_) | refine no_implicit_lambda% (skolA ?_)); generalize @skz _ _ _ = hd) | intro hd
  first | ((first | refine no_implicit_lambda% (skol ?_) | refine no_implicit_lambda% (skolW ?_) | refine no_implicit_lambda% (skolL ?_) | refine no_implicit_lambda% (skolS ?_) | refine no_implicit_lambda% (skolA ?_)); generalize @skz _ _ _ = hu) | intro hu
  subst hs
  dsimp only at F N
  conv at hrest => (lhs; whnf)
  subst hrest
  conv at hsc => (lhs; whnf)
  cases hsc
  skip -- x0 x1 x2 x3 x4 x5
  obtain ⟨_, _, _, _, _, _, _, _, _, _, _⟩ := ten x0
  obtain ⟨_, _, _, _, _, _, _, _, _, _, _⟩ := ten x1
  obtain ⟨_, _, _, _, _, _, _, _, _, _, _⟩ := ten x2
  obtain ⟨_, _, _, _, _, _, _, _, _, _, _⟩ := ten x3
  obtain ⟨_, _, _, _, _, _, _, _, _, _, _⟩ := ten x4
  obtain ⟨_, _, _, _, _, _, _, _, _, _, _⟩ := ten x5
  dsimp only [lexL, List.cons_append, List.nil_append] at N
  have hK0 : (fun w : World => Mine.hd0.heap_1_1 w.params, PySem.Challenge.rw_to0042_01) = (fun w : World => Mine.hd0.heap_1_1 w.params, PySem.Challenge.rw_to0042_01) := by (k_fill; rfl)
  clear hK0
  k_steps
  rename Fr _ _ _ _ => F'
  rename News _ _ _ _ => N'
  refine Done.intro [(147, tabObj psD), (123, tabObj ps1), (102, tabObj ps2)] [] F' N' (by k_all) (fun _ h => nomatch h) (fun _ h => nomatch h) ⟨?_, psD, rfl⟩
  show Value.bool (_ == _) = _
  rw [beq_self_eq_true]
local macro_rules | `(tactic| walk_at "execs cons") => `(tactic| (k_here; (with_reducible show wpAny _ _ (execs (Stmt.Return _ ⟨264, _, _, _⟩ :: _) _) _ _ _); refine Hold.out ?_))
set_option maxHeartbeats 8000000 in
theorem law_c (w : World) (rest : List Stmt) (scope : Scope) (hrest : (fnBody ((Mine.hd0.heap_1_1 w.params).lookup 162)).drop 10 = rest) (hsc : fnScope ((Mine.hd0.heap_1_1 w.params).lookup 162) = some scope) (f : Addr) (cdv : Value) (seats : Int)
   (I : LX) (hI : LXok w I) (ln k : Int) (tl tkk ts : Tok) (n nb : Nat) (restO : List Nat)
   (hat : At I.page k restO) (hst : LexSt seats [] 7 restO ln) (hln0 : 0 ≤ ln) (hln : ln + restO.length ≤ 1000)
   (hv : List Value) (cs : List Int) (cn : Nat) (ca : Addr) (hcs : IntsAre hv cs) (hcl : cs.length = 13)
   (s3 : 3 ≤ seats) (s6 : seats ≤ 6) (oS : Obj) (hoS : oS.data = .cell (some (.int seats ts))) (ps1 ps2 : Array Value)
   (other ns : List Int) (hot : (drawS (List.drop 7 cs) (seats - 1).toNat).reverse = other) (hol3 : 3 ≤ other.length) (hol6 : other.length ≤ 6) (holr : (other.length : Int) ≤ seats) (hob : ∀ z ∈ other, 0 ≤ z ∧ z < 100) (ht2 : toldP seats other = some ns) (hns : ∀ z ∈ ns, 1 ≤ z ∧ z ≤ 6) (hnl : ns.length ≤ 60) (hnd : ns.Pairwise (fun x y => y ≤ x)) (hnr : ∀ z ∈ ns, 1 ≤ z ∧ z ≤ seats) (hf2 : fillR 3 seats ns = (other, []))
   (aF aO : Addr)
   (p : Program) (loose : List Str) (mean : ExcName → Option Value) (mg mb : Str → Option Value) (dp un : Nat) (gd : Option (List Code)) (outer : List Env) (A₀ : Around) (base g : Heap) (L' : Addr) (s s₀ : Shared) (hh : Heap) (tk₀ : Nat) (hs : s = { s₀ with heap := hh, toks := tk₀ }) (m₀ : Str → Option Value)
   (x0 : ∀ b ∈ lxA I, ca ≠ b) (x1 : ∀ b ∈ lxA I, L' + 1 ≠ b) (x2 : ∀ b ∈ lxA I, (147 : Addr) ≠ b) (x3 : ∀ b ∈ lxA I, (123 : Addr) ≠ b) (x4 : ∀ b ∈ lxA I, (102 : Addr) ≠ b) (y0 : ca ≠ L' + 1) (y1 : ca ≠ (147 : Addr)) (y2 : ca ≠ (123 : Addr)) (y3 : ca ≠ (102 : Addr)) (y4 : L' + 1 ≠ (147 : Addr)) (y5 : L' + 1 ≠ (123 : Addr)) (y6 : L' + 1 ≠ (102 : Addr))
   (B : Below A₀ base outer g) (F : Fr g L' s.heap (fun y => if y = Str.ofString "hall" then some (.ref aF) else if y = Str.ofString "sizes" then some (.ref aO) else if y = Str.ofString "lexer" then some (.ref I.x) else if y = Str.ofString "cells" then some (.ref ca) else  m₀ y)) (X : (Mine.hd0.heap_1_1 w.params).In g)
   (N : News g L' s.heap (lexL w I ln k tl tkk n [] nb ++ [(ca, W.listOf hv.toArray cn), (L' + 1, oS), (147, tabObj #[]), (123, tabObj ps1), (102, tabObj ps2)])) (T : Top p loose mean mg mb g) (hd : dp + 60 < recursionLimit) (hu : un + 8 * 60 < cLine) :
   wpAny (model PySem.Challenge.rw_to0042_01.row.prog w) (ktrTop dp un gd (Str.ofString "law") scope L' f cdv (cellsFrom (L' + 1) scope.names []) outer) (execs rest (envOfC (Str.ofString "law") scope L' f cdv)) (LawEnd g L' s₀ ps1 ps2) (fun _ _ => False) s := by
  w_top off
  revert w rest scope hrest hsc f cdv seats I hI ln k tl tkk ts n nb restO hat hst hln0 hln hv cs cn ca hcs hcl s3 s6 oS hoS ps1 ps2 other ns hot hol3 hol6 holr hob ht2 hns hnl hnd hnr hf2 aF aO p loose mean mg mb dp un gd outer A₀ base g L' s s₀ hh tk₀ hs m₀ x0 x1 x2 x3 x4 y0 y1 y2 y3 y4 y5 y6 B F X N T hd hu
  first | ((first | refine no_implicit_lambda% (skol ?_) | refine no_implicit_lambda% (skolW ?_) | refine no_implicit_lambda% (skolL ?_) | refine no_implicit_lambda% (skolS ?_) | refine no_implicit_lambda% (skolA ?_)); generalize @skz _ _ _ = w) | intro w
  first | ((first | refine no_implicit_lambda% (skol ?_) | refine no_implicit_lambda% (skolW ?_) | refine no_implicit_lambda% (skolL ?_) | refine no_implicit_lambda% (skolS ?_) | refine no_implicit_lambda% (skolA ?_)); generalize @skz _ _ _ = rest) | intro rest
  first | ((first | refine no_implicit_lambda% (skol ?_) | refine no_implicit_lambda% (skolW ?_) | refine no_implicit_lambda% (skolL ?_) | refine no_implicit_lambda% (skolS ?_) | refine no_implicit_lambda% (skolA ?_)); generalize @skz _ _ _ = scope) | intro scope
  first | ((first | refine no_implicit_lambda% (skol ?_) | refine no_implicit_lambda% (skolW ?_) | refine no_implicit_lambda% (skolL ?_) | refine no_implicit_lambda% (skolS ?_) | refine no_implicit_lambda% (skolA ?_)); generalize @skz _ _ _ = hrest) | intro hrest
  first | ((first | refine no_implicit_lambda% (skol ?_) | refine no_implicit_lambda% (skolW ?_) | refine no_implicit_lambda% (skolL ?_) | refine no_implicit_lambda% (skolS ?_) | refine no_implicit_lambda% (skolA ?_)); generalize @skz _ _ _ = hsc) | intro hsc
  first | (refine no_implicit_lambda% (skol4 (by first | exact ⟨default⟩ | exact neWorld | exact neShared | exact neAround | exact neLX) (by first | exact ⟨default⟩ | exact neWorld | exact neShared | exact neAround | exact neLX) (by first | exact ⟨default⟩ | exact neWorld | exact neShared | exact neAround | exact neLX) (by first | exact ⟨default⟩ | exact neWorld | exact neShared | exact neAround | exact neLX) ?_); generalize @sk4a _ _ _ _ _ _ _ _ _ = f; generalize @sk4b _ _ _ _ _ _ _ _ _ = cdv; generalize @sk4c _ _ _ _ _ _ _ _ _ = seats; generalize @sk4d _ _ _ _ _ _ _ _ _ = I) | ((first | ((first | refine no_implicit_lambda% (skol ?_) | refine no_implicit_lambda% (skolW ?_) | refine no_implicit_lambda% (skolL ?_) | refine no_implicit_lambda% (skolS ?_) | refine no_implicit_lambda% (skolA ?_)); generalize @skz _ _ _ = f) | intro f); (first | ((first | refine no_implicit_lambda% (skol ?_) | refine no_implicit_lambda% (skolW ?_) | refine no_implicit_lambda% (skolL ?_) | refine no_implicit_lambda% (skolS ?_) | refine no_implicit_lambda% (skolA ?_)); generalize @skz _ _ _ = cdv) | intro cdv); (first | ((first | refine no_implicit_lambda% (skol ?_) | refine no_implicit_lambda% (skolW ?_) | refine no_implicit_lambda% (skolL ?_) | refine no_implicit_lambda% (skolS ?_) | refine no_implicit_lambda% (skolA ?_)); generalize @skz _ _ _ = seats) | intro seats); (first | ((first | refine no_implicit_lambda% (skol ?_) | refine no_implicit_lambda% (skolW ?_) | refine no_implicit_lambda% (skolL ?_) | refine no_implicit_lambda% (skolS ?_) | refine no_implicit_lambda% (skolA ?_)); generalize @skz _ _ _ = I) | intro I))
  first | ((first | refine no_implicit_lambda% (skol ?_) | refine no_implicit_lambda% (skolW ?_) | refine no_implicit_lambda% (skolL ?_) | refine no_implicit_lambda% (skolS ?_) | refine no_implicit_lambda% (skolA ?_)); generalize @skz _ _ _ = hI) | intro hI
  first | (refine no_implicit_lambda% (skol4 (by first | exact ⟨default⟩ | exact neWorld | exact neShared | exact neAround | exact neLX) (by first | exact ⟨default⟩ | exact neWorld | exact neShared | exact neAround | exact neLX) (by first | exact ⟨default⟩ | exact neWorld | exact neShared | exact neAround | exact neLX) (by first | exact ⟨default⟩ | exact neWorld | exact neShared | exact neAround | exact neLX) ?_); generalize @sk4a _ _ _ _ _ _ _ _ _ = ln; generalize @sk4b _ _ _ _ _ _ _ _ _ = k; generalize @sk4c _ _ _ _ _ _ _ _ _ = tl; generalize @sk4d _ _ _ _ _ _ _ _ _ = tkk) | ((first | ((first | refine no_implicit_lambda% (skol ?_) | refine no_implicit_lambda% (skolW ?_) | refine no_implicit_lambda% (skolL ?_) | refine no_implicit_lambda% (skolS ?_) | refine no_implicit_lambda% (skolA ?_)); generalize @skz _ _ _ = ln) | intro ln); (first | ((first | refine no_implicit_lambda% (skol ?_) | refine no_implicit_lambda% (skolW ?_) | refine no_implicit_lambda% (skolL ?_) | refine no_implicit_lambda% (skolS ?_) | refine no_implicit_lambda% (skolA ?_)); generalize @skz _ _ _ = k) | intro k); (first | ((first | refine no_implicit_lambda% (skol ?_) | refine no_implicit_lambda% (skolW ?_) | refine no_implicit_lambda% (skolL ?_) | refine no_implicit_lambda% (skolS ?_) | refine no_implicit_lambda% (skolA ?_)); generalize @skz _ _ _ = tl) | intro tl); (first | ((first | refine no_implicit_lambda% (skol ?_) | refine no_implicit_lambda% (skolW ?_) | refine no_implicit_lambda% (skolL ?_) | refine no_implicit_lambda% (skolS ?_) | refine no_implicit_lambda% (skolA ?_)); generalize @skz _ _ _ = tkk) | intro tkk))
  first | (refine no_implicit_lambda% (skol4 (by first | exact ⟨default⟩ | exact neWorld | exact neShared | exact neAround | exact neLX) (by first | exact ⟨default⟩ | exact neWorld | exact neShared | exact neAround | exact neLX) (by first | exact ⟨default⟩ | exact neWorld | exact neShared | exact neAround | exact neLX) (by first | exact ⟨default⟩ | exact neWorld | exact neShared | exact neAround | exact neLX) ?_); generalize @sk4a _ _ _ _ _ _ _ _ _ = ts; generalize @sk4b _ _ _ _ _ _ _ _ _ = n; generalize @sk4c _ _ _ _ _ _ _ _ _ = nb; generalize @sk4d _ _ _ _ _ _ _ _ _ = restO) | ((first | ((first | refine no_implicit_lambda% (skol ?_) | refine no_implicit_lambda% (skolW ?_) | refine no_implicit_lambda% (skolL ?_) | refine no_implicit_lambda% (skolS ?_) | refine no_implicit_lambda% (skolA ?_)); generalize @skz _ _ _ = ts) | intro ts); (first | ((first | refine no_implicit_lambda% (skol ?_) | refine no_implicit_lambda% (skolW ?_) | refine no_implicit_lambda% (skolL ?_) | refine no_implicit_lambda% (skolS ?_) | refine no_implicit_lambda% (skolA ?_)); generalize @skz _ _ _ = n) | intro n); (first | ((first | refine no_implicit_lambda% (skol ?_) | refine no_implicit_lambda% (skolW ?_) | refine no_implicit_lambda% (skolL ?_) | refine no_implicit_lambda% (skolS ?_) | refine no_implicit_lambda% (skolA ?_)); generalize @skz _ _ _ = nb) | intro nb); (first | ((first | refine no_implicit_lambda% (skol ?_) | refine no_implicit_lambda% (skolW ?_) | refine no_implicit_lambda% (skolL ?_) | refine no_implicit_lambda% (skolS ?_) | refine no_implicit_lambda% (skolA ?_)); generalize @skz _ _ _ = restO) | intro restO))
  first | ((first | refine no_implicit_lambda% (skol ?_) | refine no_implicit_lambda% (skolW ?_) | refine no_implicit_lambda% (skolL ?_) | refine no_implicit_lambda% (skolS ?_) | refine no_implicit_lambda% (skolA ?_)); generalize @skz _ _ _ = hat) | intro hat
  first | ((first | refine no_implicit_lambda% (skol ?_) | refine no_implicit_lambda% (skolW ?_) | refine no_implicit_lambda% (skolL ?_) | refine no_implicit_lambda% (skolS ?_) | refine no_implicit_lambda% (skolA ?_)); generalize @skz _ _ _ = hst) | intro hst
  first | ((first | refine no_implicit_lambda% (skol ?_) | refine no_implicit_lambda% (skolW ?_) | refine no_implicit_lambda% (skolL ?_) | refine no_implicit_lambda% (skolS ?_) | refine no_implicit_lambda% (skolA ?_)); generalize @skz _ _ _ = hln0) | intro hln0
  first | ((first | refine no_implicit_lambda% (skol ?_) | refine no_implicit_lambda% (skolW ?_) | refine no_implicit_lambda% (skolL ?_) | refine no_implicit_lambda% (skolS ?_) | refine no_implicit_lambda% (skolA ?_)); generalize @skz _ _ _ = hln) | intro hln
  first | (refine no_implicit_lambda% (skol4 (by first | exact ⟨default⟩ | exact neWorld | exact neShared | exact neAround | exact neLX) (by first | exact ⟨default⟩ | exact neWorld | exact neShared | exact neAround | exact neLX) (by first | exact ⟨default⟩ | exact neWorld | exact neShared | exact neAround | exact neLX) (by first | exact ⟨default⟩ | exact neWorld | exact neShared | exact neAround | exact neLX) ?_); generalize @sk4a _ _ _ _ _ _ _ _ _ = hv; generalize @sk4b _ _ _ _ _ _ _ _ _ = cs; generalize @sk4c _ _ _ _ _ _ _ _ _ = cn; generalize @sk4d _ _ _ _ _ _ _ _ _ = ca) | ((first | ((first | refine no_implicit_lambda% (skol ?_) | refine no_implicit_lambda% (skolW ?_) | refine no_implicit_lambda% (skolL ?_) | refine no_implicit_lambda% (skolS ?_) | refine no_implicit_lambda% (skolA ?_)); generalize @skz _ _ _ = hv) | intro hv); (first | ((first | refine no_implicit_lambda% (skol ?_) | refine no_implicit_lambda% (skolW ?_) | refine no_implicit_lambda% (skolL ?_) | refine no_implicit_lambda% (skolS ?_) | refine no_implicit_lambda% (skolA ?_)); generalize @skz _ _ _ = cs) | intro cs); (first | ((first | refine no_implicit_lambda% (skol ?_) | refine no_implicit_lambda% (skolW ?_) | refine no_implicit_lambda% (skolL ?_) | refine no_implicit_lambda% (skolS ?_) | refine no_implicit_lambda% (skolA ?_)); generalize @skz _ _ _ = cn) | intro cn); (first | ((first | refine no_implicit_lambda% (skol ?_) | refine no_implicit_lambda% (skolW ?_) | refine no_implicit_lambda% (skolL ?_) | refine no_implicit_lambda% (skolS ?_) | refine no_implicit_lambda% (skolA ?_)); generalize @skz _ _ _ = ca) | intro ca))
  first | ((first | refine no_implicit_lambda% (skol ?_) | refine no_implicit_lambda% (skolW ?_) | refine no_implicit_lambda% (skolL ?_) | refine no_implicit_lambda% (skolS ?_) | refine no_implicit_lambda% (skolA ?_)); generalize @skz _ _ _ = hcs) | intro hcs
  first | ((first | refine no_implicit_lambda% (skol ?_) | refine no_implicit_lambda% (skolW ?_) | refine no_implicit_lambda% (skolL ?_) | refine no_implicit_lambda% (skolS ?_) | refine no_implicit_lambda% (skolA ?_)); generalize @skz _ _ _ = hcl) | intro hcl
  first | ((first | refine no_implicit_lambda% (skol ?_) | refine no_implicit_lambda% (skolW ?_) | refine no_implicit_lambda% (skolL ?_) | refine no_implicit_lambda% (skolS ?_) | refine no_implicit_lambda% (skolA ?_)); generalize @skz _ _ _ = s3) | intro s3
  first | ((first | refine no_implicit_lambda% (skol ?_) | refine no_implicit_lambda% (skolW ?_) | refine no_implicit_lambda% (skolL ?_) | refine no_implicit_lambda% (skolS ?_) | refine no_implicit_lambda% (skolA ?_)); generalize @skz _ _ _ = s6) | intro s6
  first | ((first | refine no_implicit_lambda% (skol ?_) | refine no_implicit_lambda% (skolW ?_) | refine no_implicit_lambda% (skolL ?_) | refine no_implicit_lambda% (skolS ?_) | refine no_implicit_lambda% (skolA ?_)); generalize @skz _ _ _ = oS) | intro oS
  first | ((first | refine no_implicit_lambda% (skol ?_) | refine no_implicit_lambda% (skolW ?_) | refine no_implicit_lambda% (skolL ?_) | refine no_implicit_lambda% (skolS ?_) | refine no_implicit_lambda% (skolA ?_)); generalize @skz _ _ _ = hoS) | intro hoS
  first | (refine no_implicit_lambda% (skol4 (by first | exact ⟨default⟩ | exact neWorld | exact neShared | exact neAround | exact neLX) (by first | exact ⟨default⟩ | exact neWorld | exact neShared | exact neAround | exact neLX) (by first | exact ⟨default⟩ | exact neWorld | exact neShared | exact neAround | exact neLX) (by first | exact ⟨default⟩ | exact neWorld | exact neShared | exact neAround | exact neLX) ?_); generalize @sk4a _ _ _ _ _ _ _ _ _ = ps1; generalize @sk4b _ _ _ _ _ _ _ _ _ = ps2; generalize @sk4c _ _ _ _ _ _ _ _ _ = other; generalize @sk4d _ _ _ _ _ _ _ _ _ = ns) | ((first | ((first | refine no_implicit_lambda% (skol ?_) | refine no_implicit_lambda% (skolW ?_) | refine no_implicit_lambda% (skolL ?_) | refine no_implicit_lambda% (skolS ?_) | refine no_implicit_lambda% (skolA ?_)); generalize @skz _ _ _ = ps1) | intro ps1); (first | ((first | refine no_implicit_lambda% (skol ?_) | refine no_implicit_lambda% (skolW ?_) | refine no_implicit_lambda% (skolL ?_) | refine no_implicit_lambda% (skolS ?_) | refine no_implicit_lambda% (skolA ?_)); generalize @skz _ _ _ = ps2) | intro ps2); (first | ((first | refine no_implicit_lambda% (skol ?_) | refine no_implicit_lambda% (skolW ?_) | refine no_implicit_lambda% (skolL ?_) | refine no_implicit_lambda% (skolS ?_) | refine no_implicit_lambda% (skolA ?_)); generalize @skz _ _ _ = other) | intro other); (first | ((first | refine no_implicit_lambda% (skol ?_) | refine no_implicit_lambda% (skolW ?_) | refine no_implicit_lambda% (skolL ?_) | refine no_implicit_lambda% (skolS ?_) | refine no_implicit_lambda% (skolA ?_)); generalize @skz _ _ _ = ns) | intro ns))
  first | ((first | refine no_implicit_lambda% (skol ?_) | refine no_implicit_lambda% (skolW ?_) | refine no_implicit_lambda% (skolL ?_) | refine no_implicit_lambda% (skolS ?_) | refine no_implicit_lambda% (skolA ?_)); generalize @skz _ _ _ = hot) | intro hot
  first | ((first | refine no_implicit_lambda% (skol ?_) | refine no_implicit_lambda% (skolW ?_) | refine no_implicit_lambda% (skolL ?_) | refine no_implicit_lambda% (skolS ?_) | refine no_implicit_lambda% (skolA ?_)); generalize @skz _ _ _ = hol3) | intro hol3
  first | ((first | refine no_implicit_lambda% (skol ?_) | refine no_implicit_lambda% (skolW ?_) | refine no_implicit_lambda% (skolL ?_) | refine no_implicit_lambda% (skolS ?_) | refine no_implicit_lambda% (skolA ?_)); generalize @skz _ _ _ = hol6) | intro hol6
  first | ((first | refine no_implicit_lambda% (skol ?_) | refine no_implicit_lambda% (skolW ?_) | refine no_implicit_lambda% (skolL ?_) | refine no_implicit_lambda% (skolS ?_) | refine no_implicit_lambda% (skolA ?_)); generalize @skz _ _ _ = holr) | intro holr
  first | ((first | refine no_implicit_lambda% (skol ?_) | refine no_implicit_lambda% (skolW ?_) | refine no_implicit_lambda% (skolL ?_) | refine no_implicit_lambda% (skolS ?_) | refine no_implicit_lambda% (skolA ?_)); generalize @skz _ _ _ = hob) | intro hob
  first | ((first | refine no_implicit_lambda% (skol ?_) | refine no_implicit_lambda% (skolW ?_) | refine no_implicit_lambda% (skolL ?_) | refine no_implicit_lambda% (skolS ?_) | refine no_implicit_lambda% (skolA ?_)); generalize @skz _ _ _ = ht2) | intro ht2
  first | ((first | refine no_implicit_lambda% (skol ?_) | refine no_implicit_lambda% (skolW ?_) | refine no_implicit_lambda% (skolL ?_) | refine no_implicit_lambda% (skolS ?_) | refine no_implicit_lambda% (skolA ?_)); generalize @skz _ _ _ = hns) | intro hns
  first | ((first | refine no_implicit_lambda% (skol ?_) | refine no_implicit_lambda% (skolW ?_) | refine no_implicit_lambda% (skolL ?_) | refine no_implicit_lambda% (skolS ?_) | refine no_implicit_lambda% (skolA ?_)); generalize @skz _ _ _ = hnl) | intro hnl
  first | ((first | refine no_implicit_lambda% (skol ?_) | refine no_implicit_lambda% (skolW ?_) | refine no_implicit_lambda% (skolL ?_) | refine no_implicit_lambda% (skolS ?_) | refine no_implicit_lambda% (skolA ?_)); generalize @skz _ _ _ = hnd) | intro hnd
  first | ((first | refine no_implicit_lambda% (skol ?_) | refine no_implicit_lambda% (skolW ?_) | refine no_implicit_lambda% (skolL ?_) | refine no_implicit_lambda% (skolS ?_) | refine no_implicit_lambda% (skolA ?_)); generalize @skz _ _ _ = hnr) | intro hnr
  first | ((first | refine no_implicit_lambda% (skol ?_) | refine no_implicit_lambda% (skolW ?_) | refine no_implicit_lambda% (skolL ?_) | refine no_implicit_lambda% (skolS ?_) | refine no_implicit_lambda% (skolA ?_)); generalize @skz _ _ _ = hf2) | intro hf2
  first | (refine no_implicit_lambda% (skol4 (by first | exact ⟨default⟩ | exact neWorld | exact neShared | exact neAround | exact neLX) (by first | exact ⟨default⟩ | exact neWorld | exact neShared | exact neAround | exact neLX) (by first | exact ⟨default⟩ | exact neWorld | exact neShared | exact neAround | exact neLX) (by first | exact ⟨default⟩ | exact neWorld | exact neShared | exact neAround | exact neLX) ?_); generalize @sk4a _ _ _ _ _ _ _ _ _ = aF; generalize @sk4b _ _ _ _ _ _ _ _ _ = aO; generalize @sk4c _ _ _ _ _ _ _ _ _ = p; generalize @sk4d _ _ _ _ _ _ _ _ _ = loose) | ((first | ((first | refine no_implicit_lambda% (skol ?_) | refine no_implicit_lambda% (skolW ?_) | refine no_implicit_lambda% (skolL ?_) | refine no_implicit_lambda% (skolS ?_) | refine no_implicit_lambda% (skolA ?_)); generalize @skz _ _ _ = aF) | intro aF); (first | ((first | refine no_implicit_lambda% (skol ?_) | refine no_implicit_lambda% (skolW ?_) | refine no_implicit_lambda% (skolL ?_) | refine no_implicit_lambda% (skolS ?_) | refine no_implicit_lambda% (skolA ?_)); generalize @skz _ _ _ = aO) | intro aO); (first | ((first | refine no_implicit_lambda% (skol ?_) | refine no_implicit_lambda% (skolW ?_) | refine no_implicit_lambda% (skolL ?_) | refine no_implicit_lambda% (skolS ?_) | refine no_implicit_lambda% (skolA ?_)); generalize @skz _ _ _ = p) | intro p); (first | ((first | refine no_implicit_lambda% (skol ?_) | refine no_implicit_lambda% (skolW ?_) | refine no_implicit_lambda% (skolL ?_) | refine no_implicit_lambda% (skolS ?_) | refine no_implicit_lambda% (skolA ?_)); generalize @skz _ _ _ = loose) | intro loose))
  first | (refine no_implicit_lambda% (skol4 (by first | exact ⟨default⟩ | exact neWorld | exact neShared | exact neAround | exact neLX) (by first | exact ⟨default⟩ | exact neWorld | exact neShared | exact neAround | exact neLX) (by first | exact ⟨default⟩ | exact neWorld | exact neShared | exact neAround | exact neLX) (by first | exact ⟨default⟩ | exact neWorld | exact neShared | exact neAround | exact neLX) ?_); generalize @sk4a _ _ _ _ _ _ _ _ _ = mean; generalize @sk4b _ _ _ _ _ _ _ _ _ = mg; generalize @sk4c _ _ _ _ _ _ _ _ _ = mb; generalize @sk4d _ _ _ _ _ _ _ _ _ = dp) | ((first | ((first | refine no_implicit_lambda% (skol ?_) | refine no_implicit_lambda% (skolW ?_) | refine no_implicit_lambda% (skolL ?_) | refine no_implicit_lambda% (skolS ?_) | refine no_implicit_lambda% (skolA ?_)); generalize @skz _ _ _ = mean) | intro mean); (first | ((first | refine no_implicit_lambda% (skol ?_) | refine no_implicit_lambda% (skolW ?_) | refine no_implicit_lambda% (skolL ?_) | refine no_implicit_lambda% (skolS ?_) | refine no_implicit_lambda% (skolA ?_)); generalize @skz _ _ _ = mg) | intro mg); (first | ((first | refine no_implicit_lambda% (skol ?_) | refine no_implicit_lambda% (skolW ?_) | refine no_implicit_lambda% (skolL ?_) | refine no_implicit_lambda% (skolS ?_) | refine no_implicit_lambda% (skolA ?_)); generalize @skz _ _ _ = mb) | intro mb); (first | ((first | refine no_implicit_lambda% (skol ?_) | refine no_implicit_lambda% (skolW ?_) | refine no_implicit_lambda% (skolL ?_) | refine no_implicit_lambda% (skolS ?_) | refine no_implicit_lambda% (skolA ?_)); generalize @skz _ _ _ = dp) | intro dp))
  first | (refine no_implicit_lambda% (skol4 (by first | exact ⟨default⟩ | exact neWorld | exact neShared | exact neAround | exact neLX) (by first | exact ⟨default⟩ | exact neWorld | exact neShared | exact neAround | exact neLX) (by first | exact ⟨default⟩ | exact neWorld | exact neShared | exact neAround | exact neLX) (by first | exact ⟨default⟩ | exact neWorld | exact neShared | exact neAround | exact neLX) ?_); generalize @sk4a _ _ _ _ _ _ _ _ _ = un; generalize @sk4b _ _ _ _ _ _ _ _ _ = gd; generalize @sk4c _ _ _ _ _ _ _ _ _ = outer; generalize @sk4d _ _ _ _ _ _ _ _ _ = A₀) | ((first | ((first | refine no_implicit_lambda% (skol ?_) | refine no_implicit_lambda% (skolW ?_) | refine no_implicit_lambda% (skolL ?_) | refine no_implicit_lambda% (skolS ?_) | refine no_implicit_lambda% (skolA ?_)); generalize @skz _ _ _ = un) | intro un); (first | ((first | refine no_implicit_lambda% (skol ?_) | refine no_implicit_lambda% (skolW ?_) | refine no_implicit_lambda% (skolL ?_) | refine no_implicit_lambda% (skolS ?_) | refine no_implicit_lambda% (skolA ?_)); generalize @skz _ _ _ = gd) | intro gd); (first | ((first | refine no_implicit_lambda% (skol ?_) | refine no_implicit_lambda% (skolW ?_) | refine no_implicit_lambda% (skolL ?_) | refine no_implicit_lambda% (skolS ?_) | refine no_implicit_lambda% (skolA ?_)); generalize @skz _ _ _ = outer) | intro outer); (first | ((first | refine no_implicit_lambda% (skol ?_) | refine no_implicit_lambda% (skolW ?_) | refine no_implicit_lambda% (skolL ?_) | refine no_implicit_lambda% (skolS ?_) | refine no_implicit_lambda% (skolA ?_)); generalize @skz _ _ _ = A₀) | intro A₀))
  first | (refine no_implicit_lambda% (skol4 (by first | exact ⟨default⟩ | exact neWorld | exact neShared | exact neAround | exact neLX) (by first | exact ⟨default⟩ | exact neWorld | exact neShared | exact neAround | exact neLX) (by first | exact ⟨default⟩ | exact neWorld | exact neShared | exact neAround | exact neLX) (by first | exact ⟨default⟩ | exact neWorld | exact neShared | exact neAround | exact neLX) ?_); generalize @sk4a _ _ _ _ _ _ _ _ _ = base; generalize @sk4b _ _ _ _ _ _ _ _ _ = g; generalize @sk4c _ _ _ _ _ _ _ _ _ = L'; generalize @sk4d _ _ _ _ _ _ _ _ _ = s) | ((first | ((first | refine no_implicit_lambda% (skol ?_) | refine no_implicit_lambda% (skolW ?_) | refine no_implicit_lambda% (skolL ?_) | refine no_implicit_lambda% (skolS ?_) | refine no_implicit_lambda% (skolA ?_)); generalize @skz _ _ _ = base) | intro base); (first | ((first | refine no_implicit_lambda% (skol ?_) | refine no_implicit_lambda% (skolW ?_) | refine no_implicit_lambda% (skolL ?_) | refine no_implicit_lambda% (skolS ?_) | refine no_implicit_lambda% (skolA ?_)); generalize @skz _ _ _ = g) | intro g); (first | ((first | refine no_implicit_lambda% (skol ?_) | refine no_implicit_lambda% (skolW ?_) | refine no_implicit_lambda% (skolL ?_) | refine no_implicit_lambda% (skolS ?_) | refine no_implicit_lambda% (skolA ?_)); generalize @skz _ _ _ = L') | intro L'); (first | ((first | refine no_implicit_lambda% (skol ?_) | refine no_implicit_lambda% (skolW ?_) | refine no_implicit_lambda% (skolL ?_) | refine no_implicit_lambda% (skolS ?_) | refine no_implicit_lambda% (skolA ?_)); generalize @skz _ _ _ = s) | intro s))
  first | ((first | refine no_implicit_lambda% (skol ?_) | refine no_implicit_lambda% (skolW ?_) | refine no_implicit_lambda% (skolL ?_) | refine no_implicit_lambda% (skolS ?_) | refine no_implicit_lambda% (skolA ?_)); generalize @skz _ _ _ = s₀) | intro s₀
  first | ((first | refine no_implicit_lambda% (skol ?_) | refine no_implicit_lambda% (skolW ?_) | refine no_implicit_lambda% (skolL ?_) | refine no_implicit_lambda% (skolS ?_) | refine no_implicit_lambda% (skolA ?_)); generalize @skz _ _ _ = hh) | intro hh
  first | ((first | refine no_implicit_lambda% (skol ?_) | refine no_implicit_lambda% (skolW ?_) | refine no_implicit_lambda% (skolL ?_) | refine no_implicit_lambda% (skolS ?_) | refine no_implicit_lambda% (skolA ?_)); generalize @skz _ _ _ = tk₀) | intro tk₀
  first | ((first | refine no_implicit_lambda% (skol ?_) | refine no_implicit_lambda% (skolW ?_) | refine no_implicit_lambda% (skolL ?_) | refine no_implicit_lambda% (skolS ?_) | refine no_implicit_lambda% (skolA ?_)); generalize @skz _ _ _ = hs) | intro hs
  first | ((first | refine no_implicit_lambda% (skol ?_) | refine no_implicit_lambda% (skolW ?_) | refine no_implicit_lambda% (skolL ?_) | refine no_implicit_lambda% (skolS ?_) | refine no_implicit_lambda% (skolA ?_)); generalize @skz _ _ _ = m₀) | intro m₀
  first | ((first | refine no_implicit_lambda% (skol ?_) | refine no_implicit_lambda% (skolW ?_) | refine no_implicit_lambda% (skolL ?_) | refine no_implicit_lambda% (skolS ?_) | refine no_implicit_lambda% (skolA ?_)); generalize @skz _ _ _ = x0) | intro x0
  first | ((first | refine no_implicit_lambda% (skol ?_) | refine no_implicit_lambda% (skolW ?_) | refine no_implicit_lambda% (skolL ?_) | refine no_implicit_lambda% (skolS ?_) | refine no_implicit_lambda% (skolA ?_)); generalize @skz _ _ _ = x1) | intro x1
  first | ((first | refine no_implicit_lambda% (skol ?_) | refine no_implicit_lambda% (skolW ?_) | refine no_implicit_lambda% (skolL ?_) | refine no_implicit_lambda% (skolS ?_) | refine no_implicit_lambda% (skolA ?_)); generalize @skz _ _ _ = x2) | intro x2
  first | ((first | refine no_implicit_lambda% (skol ?_) | refine no_implicit_lambda% (skolW ?_) | refine no_implicit_lambda% (skolL ?_) | refine no_implicit_lambda% (skolS ?_) | refine no_implicit_lambda% (skolA ?_)); generalize @skz _ _ _ = x3) | intro x3
  first | ((first | refine no_implicit_lambda% (skol ?_) | refine no_implicit_lambda% (skolW ?_) | refine no_implicit_lambda% (skolL ?_) | refine no_implicit_lambda% (skolS ?_) | refine no_implicit_lambda% (skolA ?_)); generalize @skz _ _ _ = x4) | intro x4
  first | ((first | refine no_implicit_lambda% (skol ?_) | refine no_implicit_lambda% (skolW ?_) | refine no_implicit_lambda% (skolL ?_) | refine no_implicit_lambda% (skolS ?_) | refine no_implicit_lambda% (skolA ?_)); generalize @skz _ _ _ = y0) | intro y0
  first | ((first | refine no_implicit_lambda% (skol ?_) | refine no_implicit_lambda% (skolW ?_) | refine no_implicit_lambda% (skolL ?_) | refine no_implicit_lambda% (skolS ?_) | refine no_implicit_lambda% (skolA ?_)); generalize @skz _ _ _ = y1) | intro y1
  first | ((first | refine no_implicit_lambda% (skol ?_) | refine no_implicit_lambda% (skolW ?_) | refine no_implicit_lambda% (skolL ?_) | refine no_implicit_lambda% (skolS ?_) | refine no_implicit_lambda% (skolA ?_)); generalize @skz _ _ _ = y2) | intro y2
  first | ((first | refine no_implicit_lambda% (skol ?_) | refine no_implicit_lambda% (skolW ?_) | refine no_implicit_lambda% (skolL ?_) | refine no_implicit_lambda% (skolS ?_) | refine no_implicit_lambda% (skolA ?_)); generalize @skz _ _ _ = y3) | intro y3
  first | ((first | refine no_implicit_lambda% (skol ?_) | refine no_implicit_lambda% (skolW ?_) | refine no_implicit_lambda% (skolL ?_) | refine no_implicit_lambda% (skolS ?_) | refine no_implicit_lambda% (skolA ?_)); generalize @skz _ _ _ = y4) | intro y4
  first | ((first | refine no_implicit_lambda% (skol ?_) | refine no_implicit_lambda% (skolW ?_) | refine no_implicit_lambda% (skolL ?_) | refine no_implicit_lambda% (skolS ?_) | refine no_implicit_lambda% (skolA ?_)); generalize @skz _ _ _ = y5) | intro y5
  first | ((first | refine no_implicit_lambda% (skol ?_) | refine no_implicit_lambda% (skolW ?_) | refine no_implicit_lambda% (skolL ?_) | refine no_implicit_lambda% (skolS ?_) | refine no_implicit_lambda% (skolA ?_)); generalize @skz _ _ _ = y6) | intro y6
  first | ((first | refine no_implicit_lambda% (skol ?_) | refine no_implicit_lambda% (skolW ?_) | refine no_implicit_lambda% (skolL ?_) | refine no_implicit_lambda% (skolS ?_) | refine no_implicit_lambda% (skolA ?_)); generalize @skz _ _ _ = B) | intro B
  first | ((first | refine no_implicit_lambda% (skol ?_) | refine no_implicit_lambda% (skolW ?_) | refine no_implicit_lambda% (skolL ?_) | refine no_implicit_lambda% (skolS ?_) | refine no_implicit_lambda% (skolA ?_)); generalize @skz _ _ _ = F) | intro F
  first | ((first | refine no_implicit_lambda% (skol ?_) | refine no_implicit_lambda% (skolW ?_) | refine no_implicit_lambda% (skolL ?_) | refine no_implicit_lambda% (skolS ?_) | refine no_implicit_lambda% (skolA ?_)); generalize @skz _ _ _ = X) | intro X
  first | ((first | refine no_implicit_lambda% (skol ?_) | refine no_implicit_lambda% (skolW ?_) | refine no_implicit_lambda% (skolL ?_) | refine no_implicit_lambda% (skolS ?_) | refine no_implicit_lambda% (skolA ?_)); generalize @skz _ _ _ = N) | intro N
  first | ((first | refine no_implicit_lambda% (skol ?_) | refine no_implicit_lambda% (skolW ?_) | refine no_implicit_lambda% (skolL ?_) | refine no_implicit_lambda% (skolS ?_) | refine no_implicit_lambda% (skolA ?_)); generalize @skz _ _ _ = T) | intro T
  first | ((first | refine no_implicit_lambda% (skol ?_) | refine no_implicit_lambda% (skolW ?_) | refine no_implicit_lambda% (skolL ?_) | refine no_implicit_lambda% (skolS ?_) | refine no_implicit_lambda% (skolA ?_)); generalize @skz _ _ _ = hd) | intro hd
  first | ((first | refine no_implicit_lambda% (skol ?_) | refine no_implicit_lambda% (skolW ?_) | refine no_implicit_lambda% (skolL ?_) | refine no_implicit_lambda% (skolS ?_) | refine no_implicit_lambda% (skolA ?_)); generalize @skz _ _ _ = hu) | intro hu
  subst hs
  dsimp only at F N
  conv at hrest => (lhs; whnf)
  subst hrest
  conv at hsc => (lhs; whnf)
  cases hsc
  skip -- x0 x1 x2 x3 x4
  obtain ⟨_, _, _, _, _, _, _, _, _, _, _⟩ := ten x0
  obtain ⟨_, _, _, _, _, _, _, _, _, _, _⟩ := ten x1
  obtain ⟨_, _, _, _, _, _, _, _, _, _, _⟩ := ten x2
  obtain ⟨_, _, _, _, _, _, _, _, _, _, _⟩ := ten x3
  obtain ⟨_, _, _, _, _, _, _, _, _, _, _⟩ := ten x4
  dsimp only [lexL, List.cons_append, List.nil_append] at N
  have hK0 : (fun w : World => Mine.hd0.heap_1_1 w.params, PySem.Challenge.rw_to0042_01) = (fun w : World => Mine.hd0.heap_1_1 w.params, PySem.Challenge.rw_to0042_01) := by (k_fill; rfl)
  clear hK0
  k_steps
  · exact Str.ofString ""
  · exact (0 : Nat)
  · exact Value.none
  · refine Hold.mk ?_
    rename Fr _ _ _ _ => F'
    rename News _ _ _ _ => N'
    rename IntsAre _ other => hD9
    rename IntsAre _ ns => hT9
    have F2 := fr_three (a := Str.ofString "numbers") (b := Str.ofString "other") (c := Str.ofString "lexer") F' rfl rfl rfl
    clear F'
    refine' law_d w _ _ rfl rfl f cdv seats I hI ln k tl tkk ts n _ restO hat hst hln0 hln s3 s6 oS hoS ps1 ps2 other ns hns hnl hf2 _ _ _ _ _ _ hD9 hT9 _ p loose mean mg mb dp un gd outer A₀ base g L' _ s₀ _ _ rfl _ ?x0 ?x1 ?x2 ?x3 ?x4 ?x5 ?y0 ?y1 ?y2 ?y3 ?y4 ?y5 ?y6 ?y7 ?y8 ?y9 ?y10 ?y11 B F2 X (led_sub N' ?sub) T hd hu
    case sub =>
      dsimp only [lexL, List.cons_append, List.nil_append]
      repeat' (first | (refine List.forall_mem_cons.mpr ⟨?_, ?_⟩) | exact List.forall_mem_nil _)
      all_goals (repeat (first | exact List.Mem.head _ | apply List.Mem.tail))
    all_goals first | k_ne | ((repeat' (refine List.forall_mem_cons.mpr ⟨by k_ne, ?_⟩)); exact List.forall_mem_nil _)
  · rename decide _ = false => hq5
    exfalso
    rw [none_off hnr] at hq5
    exact absurd hq5 (by decide)
  · rename List.Pairwise _ _ => hp5
    rename List.Perm _ _ => hq5
    exact absurd (desc_uniq hnd hp5 hq5.symm) (by assumption)
local macro_rules | `(tactic| walk_at "execs cons") => `(tactic| (k_here; (with_reducible show wpAny _ _ (execs (Stmt.Assign _ _ ⟨260, _, _, _⟩ :: _) _) _ _ _); refine Hold.out ?_))
set_option maxHeartbeats 8000000 in
theorem law_b (w : World) (rest : List Stmt) (scope : Scope) (hrest : (fnBody ((Mine.hd0.heap_1_1 w.params).lookup 162)).drop 7 = rest) (hsc : fnScope ((Mine.hd0.heap_1_1 w.params).lookup 162) = some scope) (f : Addr) (cdv : Value) (seats : Int)
   (I : LX) (hI : LXok w I) (ln k : Int) (tl tkk ts : Tok) (n nb : Nat) (restO : List Nat)
   (hat : At I.page k restO) (hst : LexSt seats [] 7 restO ln) (hln0 : 0 ≤ ln) (hln : ln + restO.length ≤ 1000)
   (hv : List Value) (cs : List Int) (cn : Nat) (ca : Addr) (hcs : IntsAre hv cs) (hcl : cs.length = 13)
   (s3 : 3 ≤ seats) (s6 : seats ≤ 6) (oS : Obj) (hoS : oS.data = .cell (some (.int seats ts))) (ps1 ps2 : Array Value)
   (aO : Addr) (rv : List Value) (ri : List Int) (rn : Nat) (hri : IntsAre rv ri)
   (hall : List Int) (hrise : riseS hall = []) (hl3 : 3 ≤ hall.length) (hl6 : hall.length ≤ 6) (hlr : (hall.length : Int) ≤ seats) (hhb : ∀ z ∈ hall, 0 ≤ z ∧ z < 100) (ht1 : toldP seats hall = some ri) (hsums : SumsOk hall ri)
   (other ns : List Int) (hot : (drawS (List.drop 7 cs) (seats - 1).toNat).reverse = other) (hol3 : 3 ≤ other.length) (hol6 : other.length ≤ 6) (holr : (other.length : Int) ≤ seats) (hob : ∀ z ∈ other, 0 ≤ z ∧ z < 100) (ht2 : toldP seats other = some ns) (hns : ∀ z ∈ ns, 1 ≤ z ∧ z ≤ 6) (hnl : ns.length ≤ 60) (hnd : ns.Pairwise (fun x y => y ≤ x)) (hnr : ∀ z ∈ ns, 1 ≤ z ∧ z ≤ seats) (hf2 : fillR 3 seats ns = (other, []))
   (aF : Addr) (fv : List Value) (fn : Nat) (hfv : IntsAre fv hall)
   (p : Program) (loose : List Str) (mean : ExcName → Option Value) (mg mb : Str → Option Value) (dp un : Nat) (gd : Option (List Code)) (outer : List Env) (A₀ : Around) (base g : Heap) (L' : Addr) (s s₀ : Shared) (hh : Heap) (tk₀ : Nat) (hs : s = { s₀ with heap := hh, toks := tk₀ }) (m₀ : Str → Option Value)
   (x0 : ∀ b ∈ lxA I, aF ≠ b) (x1 : ∀ b ∈ lxA I, aO ≠ b) (x2 : ∀ b ∈ lxA I, ca ≠ b) (x3 : ∀ b ∈ lxA I, L' + 1 ≠ b) (x4 : ∀ b ∈ lxA I, (147 : Addr) ≠ b) (x5 : ∀ b ∈ lxA I, (123 : Addr) ≠ b) (x6 : ∀ b ∈ lxA I, (102 : Addr) ≠ b) (y0 : aF ≠ aO) (y1 : aF ≠ ca) (y2 : aF ≠ L' + 1) (y3 : aF ≠ (147 : Addr)) (y4 : aF ≠ (123 : Addr)) (y5 : aF ≠ (102 : Addr)) (y6 : aO ≠ ca) (y7 : aO ≠ L' + 1) (y8 : aO ≠ (147 : Addr)) (y9 : aO ≠ (123 : Addr)) (y10 : aO ≠ (102 : Addr)) (y11 : ca ≠ L' + 1) (y12 : ca ≠ (147 : Addr)) (y13 : ca ≠ (123 : Addr)) (y14 : ca ≠ (102 : Addr)) (y15 : L' + 1 ≠ (147 : Addr)) (y16 : L' + 1 ≠ (123 : Addr)) (y17 : L' + 1 ≠ (102 : Addr))
   (B : Below A₀ base outer g) (F : Fr g L' s.heap (fun y => if y = Str.ofString "hall" then some (.ref aF) else if y = Str.ofString "sizes" then some (.ref aO) else if y = Str.ofString "lexer" then some (.ref I.x) else if y = Str.ofString "cells" then some (.ref ca) else  m₀ y)) (X : (Mine.hd0.heap_1_1 w.params).In g)
   (N : News g L' s.heap ((aF, W.listOf fv.toArray fn) :: (aO, W.listOf rv.toArray rn) :: (lexL w I ln k tl tkk n [] nb ++ [(ca, W.listOf hv.toArray cn), (L' + 1, oS), (147, tabObj #[]), (123, tabObj ps1), (102, tabObj ps2)]))) (T : Top p loose mean mg mb g) (hd : dp + 60 < recursionLimit) (hu : un + 8 * 60 < cLine) :
   wpAny (model PySem.Challenge.rw_to0042_01.row.prog w) (ktrTop dp un gd (Str.ofString "law") scope L' f cdv (cellsFrom (L' + 1) scope.names []) outer) (execs rest (envOfC (Str.ofString "law") scope L' f cdv)) (LawEnd g L' s₀ ps1 ps2) (fun _ _ => False) s := by
  w_top off
  revert w rest scope hrest hsc f cdv seats I hI ln k tl tkk ts n nb restO hat hst hln0 hln hv cs cn ca hcs hcl s3 s6 oS hoS ps1 ps2 aO rv ri rn hri hall hrise hl3 hl6 hlr hhb ht1 hsums other ns hot hol3 hol6 holr hob ht2 hns hnl hnd hnr hf2 aF fv fn hfv p loose mean mg mb dp un gd outer A₀ base g L' s s₀ hh tk₀ hs m₀ x0 x1 x2 x3 x4 x5 x6 y0 y1 y2 y3 y4 y5 y6 y7 y8 y9 y10 y11 y12 y13 y14 y15 y16 y17 B F X N T hd hu
  first | ((first | refine no_implicit_lambda% (skol ?_) | refine no_implicit_lambda% (skolW ?_) | refine no_implicit_lambda% (skolL ?_) | refine no_implicit_lambda% (skolS ?_) | refine no_implicit_lambda% (skolA ?_)); generalize @skz _ _ _ = w) | intro w
  first | ((first | refine no_implicit_lambda% (skol ?_) | refine no_implicit_lambda% (skolW ?_) | refine no_implicit_lambda% (skolL ?_) | refine no_implicit_lambda% (skolS ?_) | refine no_implicit_lambda% (skolA ?_)); generalize @skz _ _ _ = rest) | intro rest
  first | ((first | refine no_implicit_lambda% (skol ?_) | refine no_implicit_lambda% (skolW ?_) | refine no_implicit_lambda% (skolL ?_) | refine no_implicit_lambda% (skolS ?_) | refine no_implicit_lambda% (skolA ?_)); generalize @skz _ _ _ = scope) | intro scope
  first | ((first | refine no_implicit_lambda% (skol ?_) | refine no_implicit_lambda% (skolW ?_) | refine no_implicit_lambda% (skolL ?_) | refine no_implicit_lambda% (skolS ?_) | refine no_implicit_lambda% (skolA ?_)); generalize @skz _ _ _ = hrest) | intro hrest
  first | ((first | refine no_implicit_lambda% (skol ?_) | refine no_implicit_lambda% (skolW ?_) | refine no_implicit_lambda% (skolL ?_) | refine no_implicit_lambda% (skolS ?_) | refine no_implicit_lambda% (skolA ?_)); generalize @skz _ _ _ = hsc) | intro hsc
  first | (refine no_implicit_lambda% (skol4 (by first | exact ⟨default⟩ | exact neWorld | exact neShared | exact neAround | exact neLX) (by first | exact ⟨default⟩ | exact neWorld | exact neShared | exact neAround | exact neLX) (by first | exact ⟨default⟩ | exact neWorld | exact neShared | exact neAround | exact neLX) (by first | exact ⟨default⟩ | exact neWorld | exact neShared | exact neAround | exact neLX) ?_); generalize @sk4a _ _ _ _ _ _ _ _ _ = f; generalize @sk4b _ _ _ _ _ _ _ _ _ = cdv; generalize @sk4c _ _ _ _ _ _ _ _ _ = seats; generalize @sk4d _ _ _ _ _ _ _ _ _ = I) | ((first | ((first | refine no_implicit_lambda% (skol ?_) | refine no_implicit_lambda% (skolW ?_) | refine no_implicit_lambda% (skolL ?_) | refine no_implicit_lambda% (skolS ?_) | refine no_implicit_lambda% (skolA ?_)); generalize @skz _ _ _ = f) | intro f); (first | ((first | refine no_implicit_lambda% (skol ?_) | refine no_implicit_lambda% (skolW ?_) | refine no_implicit_lambda% (skolL ?_) | refine no_implicit_lambda% (skolS ?_) | refine no_implicit_lambda% (skolA ?_)); generalize @skz _ _ _ = cdv) | intro cdv); (first | ((first | refine no_implicit_lambda% (skol ?_) | refine no_implicit_lambda% (skolW ?_) | refine no_implicit_lambda% (skolL ?_) | refine no_implicit_lambda% (skolS ?_) | refine no_implicit_lambda% (skolA ?_)); generalize @skz _ _ _ = seats) | intro seats); (first | ((first | refine no_implicit_lambda% (skol ?_) | refine no_implicit_lambda% (skolW ?_) | refine no_implicit_lambda% (skolL ?_) | refine no_implicit_lambda% (skolS ?_) | refine no_implicit_lambda% (skolA ?_)); generalize @skz _ _ _ = I) | intro I))
  first | ((first | refine no_implicit_lambda% (skol ?_) | refine no_implicit_lambda% (skolW ?_) | refine no_implicit_lambda% (skolL ?_) | refine no_implicit_lambda% (skolS ?_) | refine no_implicit_lambda% (skolA ?_)); generalize @skz _ _ _ = hI) | intro hI
  first | (refine no_implicit_lambda% (skol4 (by first | exact ⟨default⟩ | exact neWorld | exact neShared | exact neAround | exact neLX) (by first | exact ⟨default⟩ | exact neWorld | exact neShared | exact neAround | exact neLX) (by first | exact ⟨default⟩ | exact neWorld | exact neShared | exact neAround | exact neLX) (by first | exact ⟨default⟩ | exact neWorld | exact neShared | exact neAround | exact neLX) ?_); generalize @sk4a _ _ _ _ _ _ _ _ _ = ln; generalize @sk4b _ _ _ _ _ _ _ _ _ = k; generalize @sk4c _ _ _ _ _ _ _ _ _ = tl; generalize @sk4d _ _ _ _ _ _ _ _ _ = tkk) | ((first | ((first | refine no_implicit_lambda% (skol ?_) | refine no_implicit_lambda% (skolW ?_) | refine no_implicit_lambda% (skolL ?_) | refine no_implicit_lambda% (skolS ?_) | refine no_implicit_lambda% (skolA ?_)); generalize @skz _ _ _ = ln) | intro ln); (first | ((first | refine no_implicit_lambda% (skol ?_) | refine no_implicit_lambda% (skolW ?_) | refine no_implicit_lambda% (skolL ?_) | refine no_implicit_lambda% (skolS ?_) | refine no_implicit_lambda% (skolA ?_)); generalize @skz _ _ _ = k) | intro k); (first | ((first | refine no_implicit_lambda% (skol ?_) | refine no_implicit_lambda% (skolW ?_) | refine no_implicit_lambda% (skolL ?_) | refine no_implicit_lambda% (skolS ?_) | refine no_implicit_lambda% (skolA ?_)); generalize @skz _ _ _ = tl) | intro tl); (first | ((first | refine no_implicit_lambda% (skol ?_) | refine no_implicit_lambda% (skolW ?_) | refine no_implicit_lambda% (skolL ?_) | refine no_implicit_lambda% (skolS ?_) | refine no_implicit_lambda% (skolA ?_)); generalize @skz _ _ _ = tkk) | intro tkk))
  first | (refine no_implicit_lambda% (skol4 (by first | exact ⟨default⟩ | exact neWorld | exact neShared | exact neAround | exact neLX) (by first | exact ⟨default⟩ | exact neWorld | exact neShared | exact neAround | exact neLX) (by first | exact ⟨default⟩ | exact neWorld | exact neShared | exact neAround | exact neLX) (by first | exact ⟨default⟩ | exact neWorld | exact neShared | exact neAround | exact neLX) ?_); generalize @sk4a _ _ _ _ _ _ _ _ _ = ts; generalize @sk4b _ _ _ _ _ _ _ _ _ = n; generalize @sk4c _ _ _ _ _ _ _ _ _ = nb; generalize @sk4d _ _ _ _ _ _ _ _ _ = restO) | ((first | ((first | refine no_implicit_lambda% (skol ?_) | refine no_implicit_lambda% (skolW ?_) | refine no_implicit_lambda% (skolL ?_) | refine no_implicit_lambda% (skolS ?_) | refine no_implicit_lambda% (skolA ?_)); generalize @skz _ _ _ = ts) | intro ts); (first | ((first | refine no_implicit_lambda% (skol ?_) | refine no_implicit_lambda% (skolW ?_) | refine no_implicit_lambda% (skolL ?_) | refine no_implicit_lambda% (skolS ?_) | refine no_implicit_lambda% (skolA ?_)); generalize @skz _ _ _ = n) | intro n); (first | ((first | refine no_implicit_lambda% (skol ?_) | refine no_implicit_lambda% (skolW ?_) | refine no_implicit_lambda% (skolL ?_) | refine no_implicit_lambda% (skolS ?_) | refine no_implicit_lambda% (skolA ?_)); generalize @skz _ _ _ = nb) | intro nb); (first | ((first | refine no_implicit_lambda% (skol ?_) | refine no_implicit_lambda% (skolW ?_) | refine no_implicit_lambda% (skolL ?_) | refine no_implicit_lambda% (skolS ?_) | refine no_implicit_lambda% (skolA ?_)); generalize @skz _ _ _ = restO) | intro restO))
  first | ((first | refine no_implicit_lambda% (skol ?_) | refine no_implicit_lambda% (skolW ?_) | refine no_implicit_lambda% (skolL ?_) | refine no_implicit_lambda% (skolS ?_) | refine no_implicit_lambda% (skolA ?_)); generalize @skz _ _ _ = hat) | intro hat
  first | ((first | refine no_implicit_lambda% (skol ?_) | refine no_implicit_lambda% (skolW ?_) | refine no_implicit_lambda% (skolL ?_) | refine no_implicit_lambda% (skolS ?_) | refine no_implicit_lambda% (skolA ?_)); generalize @skz _ _ _ = hst) | intro hst
  first | ((first | refine no_implicit_lambda% (skol ?_) | refine no_implicit_lambda% (skolW ?_) | refine no_implicit_lambda% (skolL ?_) | refine no_implicit_lambda% (skolS ?_) | refine no_implicit_lambda% (skolA ?_)); generalize @skz _ _ _ = hln0) | intro hln0
  first | ((first | refine no_implicit_lambda% (skol ?_) | refine no_implicit_lambda% (skolW ?_) | refine no_implicit_lambda% (skolL ?_) | refine no_implicit_lambda% (skolS ?_) | refine no_implicit_lambda% (skolA ?_)); generalize @skz _ _ _ = hln) | intro hln
  first | (refine no_implicit_lambda% (skol4 (by first | exact ⟨default⟩ | exact neWorld | exact neShared | exact neAround | exact neLX) (by first | exact ⟨default⟩ | exact neWorld | exact neShared | exact neAround | exact neLX) (by first | exact ⟨default⟩ | exact neWorld | exact neShared | exact neAround | exact neLX) (by first | exact ⟨default⟩ | exact neWorld | exact neShared | exact neAround | exact neLX) ?_); generalize @sk4a _ _ _ _ _ _ _ _ _ = hv; generalize @sk4b _ _ _ _ _ _ _ _ _ = cs; generalize @sk4c _ _ _ _ _ _ _ _ _ = cn; generalize @sk4d _ _ _ _ _ _ _ _ _ = ca) | ((first | ((first | refine no_implicit_lambda% (skol ?_) | refine no_implicit_lambda% (skolW ?_) | refine no_implicit_lambda% (skolL ?_) | refine no_implicit_lambda% (skolS ?_) | refine no_implicit_lambda% (skolA ?_)); generalize @skz _ _ _ = hv) | intro hv); (first | ((first | refine no_implicit_lambda% (skol ?_) | refine no_implicit_lambda% (skolW ?_) | refine no_implicit_lambda% (skolL ?_) | refine no_implicit_lambda% (skolS ?_) | refine no_implicit_lambda% (skolA ?_)); generalize @skz _ _ _ = cs) | intro cs); (first | ((first | refine no_implicit_lambda% (skol ?_) | refine no_implicit_lambda% (skolW ?_) | refine no_implicit_lambda% (skolL ?_) | refine no_implicit_lambda% (skolS ?_) | refine no_implicit_lambda% (skolA ?_)); generalize @skz _ _ _ = cn) | intro cn); (first | ((first | refine no_implicit_lambda% (skol ?_) | refine no_implicit_lambda% (skolW ?_) | refine no_implicit_lambda% (skolL ?_) | refine no_implicit_lambda% (skolS ?_) | refine no_implicit_lambda% (skolA ?_)); generalize @skz _ _ _ = ca) | intro ca))
  first | ((first | refine no_implicit_lambda% (skol ?_) | refine no_implicit_lambda% (skolW ?_) | refine no_implicit_lambda% (skolL ?_) | refine no_implicit_lambda% (skolS ?_) | refine no_implicit_lambda% (skolA ?_)); generalize @skz _ _ _ = hcs) | intro hcs
  first | ((first | refine no_implicit_lambda% (skol ?_) | refine no_implicit_lambda% (skolW ?_) | refine no_implicit_lambda% (skolL ?_) | refine no_implicit_lambda% (skolS ?_) | refine no_implicit_lambda% (skolA ?_)); generalize @skz _ _ _ = hcl) | intro hcl
  first | ((first | refine no_implicit_lambda% (skol ?_) | refine no_implicit_lambda% (skolW ?_) | refine no_implicit_lambda% (skolL ?_) | refine no_implicit_lambda% (skolS ?_) | refine no_implicit_lambda% (skolA ?_)); generalize @skz _ _ _ = s3) | intro s3
  first | ((first | refine no_implicit_lambda% (skol ?_) | refine no_implicit_lambda% (skolW ?_) | refine no_implicit_lambda% (skolL ?_) | refine no_implicit_lambda% (skolS ?_) | refine no_implicit_lambda% (skolA ?_)); generalize @skz _ _ _ = s6) | intro s6
  first | ((first | refine no_implicit_lambda% (skol ?_) | refine no_implicit_lambda% (skolW ?_) | refine no_implicit_lambda% (skolL ?_) | refine no_implicit_lambda% (skolS ?_) | refine no_implicit_lambda% (skolA ?_)); generalize @skz _ _ _ = oS) | intro oS
  first | ((first | refine no_implicit_lambda% (skol ?_) | refine no_implicit_lambda% (skolW ?_) | refine no_implicit_lambda% (skolL ?_) | refine no_implicit_lambda% (skolS ?_) | refine no_implicit_lambda% (skolA ?_)); generalize @skz _ _ _ = hoS) | intro hoS
  first | (refine no_implicit_lambda% (skol4 (by first | exact ⟨default⟩ | exact neWorld | exact neShared | exact neAround | exact neLX) (by first | exact ⟨default⟩ | exact neWorld | exact neShared | exact neAround | exact neLX) (by first | exact ⟨default⟩ | exact neWorld | exact neShared | exact neAround | exact neLX) (by first | exact ⟨default⟩ | exact neWorld | exact neShared | exact neAround | exact neLX) ?_); generalize @sk4a _ _ _ _ _ _ _ _ _ = ps1; generalize @sk4b _ _ _ _ _ _ _ _ _ = ps2; generalize @sk4c _ _ _ _ _ _ _ _ _ = aO; generalize @sk4d _ _ _ _ _ _ _ _ _ = rv) | ((first | ((first | refine no_implicit_lambda% (skol ?_) | refine no_implicit_lambda% (skolW ?_) | refine no_implicit_lambda% (skolL ?_) | refine no_implicit_lambda% (skolS ?_) | refine no_implicit_lambda% (skolA ?_)); generalize @skz _ _ _ = ps1) | intro ps1); (first | ((first | refine no_implicit_lambda% (skol ?_) | refine no_implicit_lambda% (skolW ?_) | refine no_implicit_lambda% (skolL ?_) | refine no_implicit_lambda% (skolS ?_) | refine no_implicit_lambda% (skolA ?_)); generalize @skz _ _ _ = ps2) | intro ps2); (first | ((first | refine no_implicit_lambda% (skol ?_) | refine no_implicit_lambda% (skolW ?_) | refine no_implicit_lambda% (skolL ?_) | refine no_implicit_lambda% (skolS ?_) | refine no_implicit_lambda% (skolA ?_)); generalize @skz _ _ _ = aO) | intro aO); (first | ((first | refine no_implicit_lambda% (skol ?_) | refine no_implicit_lambda% (skolW ?_) | refine no_implicit_lambda% (skolL ?_) | refine no_implicit_lambda% (skolS ?_) | refine no_implicit_lambda% (skolA ?_)); generalize @skz _ _ _ = rv) | intro rv))
  first | ((first | refine no_implicit_lambda% (skol ?_) | refine no_implicit_lambda% (skolW ?_) | refine no_implicit_lambda% (skolL ?_) | refine no_implicit_lambda% (skolS ?_) | refine no_implicit_lambda% (skolA ?_)); generalize @skz _ _ _ = ri) | intro ri
  first | ((first | refine no_implicit_lambda% (skol ?_) | refine no_implicit_lambda% (skolW ?_) | refine no_implicit_lambda% (skolL ?_) | refine no_implicit_lambda% (skolS ?_) | refine no_implicit_lambda% (skolA ?_)); generalize @skz _ _ _ = rn) | intro rn
  first | ((first | refine no_implicit_lambda% (skol ?_) | refine no_implicit_lambda% (skolW ?_) | refine no_implicit_lambda% (skolL ?_) | refine no_implicit_lambda% (skolS ?_) | refine no_implicit_lambda% (skolA ?_)); generalize @skz _ _ _ = hri) | intro hri
  first | ((first | refine no_implicit_lambda% (skol ?_) | refine no_implicit_lambda% (skolW ?_) | refine no_implicit_lambda% (skolL ?_) | refine no_implicit_lambda% (skolS ?_) | refine no_implicit_lambda% (skolA ?_)); generalize @skz _ _ _ = hall) | intro hall
  first | ((first | refine no_implicit_lambda% (skol ?_) | refine no_implicit_lambda% (skolW ?_) | refine no_implicit_lambda% (skolL ?_) | refine no_implicit_lambda% (skolS ?_) | refine no_implicit_lambda% (skolA ?_)); generalize @skz _ _ _ = hrise) | intro hrise
  first | ((first | refine no_implicit_lambda% (skol ?_) | refine no_implicit_lambda% (skolW ?_) | refine no_implicit_lambda% (skolL ?_) | refine no_implicit_lambda% (skolS ?_) | refine no_implicit_lambda% (skolA ?_)); generalize @skz _ _ _ = hl3) | intro hl3
  first | ((first | refine no_implicit_lambda% (skol ?_) | refine no_implicit_lambda% (skolW ?_) | refine no_implicit_lambda% (skolL ?_) | refine no_implicit_lambda% (skolS ?_) | refine no_implicit_lambda% (skolA ?_)); generalize @skz _ _ _ = hl6) | intro hl6
  first | ((first | refine no_implicit_lambda% (skol ?_) | refine no_implicit_lambda% (skolW ?_) | refine no_implicit_lambda% (skolL ?_) | refine no_implicit_lambda% (skolS ?_) | refine no_implicit_lambda% (skolA ?_)); generalize @skz _ _ _ = hlr) | intro hlr
  first | ((first | refine no_implicit_lambda% (skol ?_) | refine no_implicit_lambda% (skolW ?_) | refine no_implicit_lambda% (skolL ?_) | refine no_implicit_lambda% (skolS ?_) | refine no_implicit_lambda% (skolA ?_)); generalize @skz _ _ _ = hhb) | intro hhb
  first | ((first | refine no_implicit_lambda% (skol ?_) | refine no_implicit_lambda% (skolW ?_) | refine no_implicit_lambda% (skolL ?_) | refine no_implicit_lambda% (skolS ?_) | refine no_implicit_lambda% (skolA ?_)); generalize @skz _ _ _ = ht1) | intro ht1
  first | ((first | refine no_implicit_lambda% (skol ?_) | refine no_implicit_lambda% (skolW ?_) | refine no_implicit_lambda% (skolL ?_) | refine no_implicit_lambda% (skolS ?_) | refine no_implicit_lambda% (skolA ?_)); generalize @skz _ _ _ = hsums) | intro hsums
  first | ((first | refine no_implicit_lambda% (skol ?_) | refine no_implicit_lambda% (skolW ?_) | refine no_implicit_lambda% (skolL ?_) | refine no_implicit_lambda% (skolS ?_) | refine no_implicit_lambda% (skolA ?_)); generalize @skz _ _ _ = other) | intro other
  first | ((first | refine no_implicit_lambda% (skol ?_) | refine no_implicit_lambda% (skolW ?_) | refine no_implicit_lambda% (skolL ?_) | refine no_implicit_lambda% (skolS ?_) | refine no_implicit_lambda% (skolA ?_)); generalize @skz _ _ _ = ns) | intro ns
  first | ((first | refine no_implicit_lambda% (skol ?_) | refine no_implicit_lambda% (skolW ?_) | refine no_implicit_lambda% (skolL ?_) | refine no_implicit_lambda% (skolS ?_) | refine no_implicit_lambda% (skolA ?_)); generalize @skz _ _ _ = hot) | intro hot
  first | ((first | refine no_implicit_lambda% (skol ?_) | refine no_implicit_lambda% (skolW ?_) | refine no_implicit_lambda% (skolL ?_) | refine no_implicit_lambda% (skolS ?_) | refine no_implicit_lambda% (skolA ?_)); generalize @skz _ _ _ = hol3) | intro hol3
  first | ((first | refine no_implicit_lambda% (skol ?_) | refine no_implicit_lambda% (skolW ?_) | refine no_implicit_lambda% (skolL ?_) | refine no_implicit_lambda% (skolS ?_) | refine no_implicit_lambda% (skolA ?_)); generalize @skz _ _ _ = hol6) | intro hol6
  first | ((first | refine no_implicit_lambda% (skol ?_) | refine no_implicit_lambda% (skolW ?_) | refine no_implicit_lambda% (skolL ?_) | refine no_implicit_lambda% (skolS ?_) | refine no_implicit_lambda% (skolA ?_)); generalize @skz _ _ _ = holr) | intro holr
  first | ((first | refine no_implicit_lambda% (skol ?_) | refine no_implicit_lambda% (skolW ?_) | refine no_implicit_lambda% (skolL ?_) | refine no_implicit_lambda% (skolS ?_) | refine no_implicit_lambda% (skolA ?_)); generalize @skz _ _ _ = hob) | intro hob
  first | ((first | refine no_implicit_lambda% (skol ?_) | refine no_implicit_lambda% (skolW ?_) | refine no_implicit_lambda% (skolL ?_) | refine no_implicit_lambda% (skolS ?_) | refine no_implicit_lambda% (skolA ?_)); generalize @skz _ _ _ = ht2) | intro ht2
  first | ((first | refine no_implicit_lambda% (skol ?_) | refine no_implicit_lambda% (skolW ?_) | refine no_implicit_lambda% (skolL ?_) | refine no_implicit_lambda% (skolS ?_) | refine no_implicit_lambda% (skolA ?_)); generalize @skz _ _ _ = hns) | intro hns
  first | ((first | refine no_implicit_lambda% (skol ?_) | refine no_implicit_lambda% (skolW ?_) | refine no_implicit_lambda% (skolL ?_) | refine no_implicit_lambda% (skolS ?_) | refine no_implicit_lambda% (skolA ?_)); generalize @skz _ _ _ = hnl) | intro hnl
  first | ((first | refine no_implicit_lambda% (skol ?_) | refine no_implicit_lambda% (skolW ?_) | refine no_implicit_lambda% (skolL ?_) | refine no_implicit_lambda% (skolS ?_) | refine no_implicit_lambda% (skolA ?_)); generalize @skz _ _ _ = hnd) | intro hnd
  first | ((first | refine no_implicit_lambda% (skol ?_) | refine no_implicit_lambda% (skolW ?_) | refine no_implicit_lambda% (skolL ?_) | refine no_implicit_lambda% (skolS ?_) | refine no_implicit_lambda% (skolA ?_)); generalize @skz _ _ _ = hnr) | intro hnr
  first | ((first | refine no_implicit_lambda% (skol ?_) | refine no_implicit_lambda% (skolW ?_) | refine no_implicit_lambda% (skolL ?_) | refine no_implicit_lambda% (skolS ?_) | refine no_implicit_lambda% (skolA ?_)); generalize @skz _ _ _ = hf2) | intro hf2
  first | ((first | refine no_implicit_lambda% (skol ?_) | refine no_implicit_lambda% (skolW ?_) | refine no_implicit_lambda% (skolL ?_) | refine no_implicit_lambda% (skolS ?_) | refine no_implicit_lambda% (skolA ?_)); generalize @skz _ _ _ = aF) | intro aF
  first | ((first | refine no_implicit_lambda% (skol ?_) | refine no_implicit_lambda% (skolW ?_) | refine no_implicit_lambda% (skolL ?_) | refine no_implicit_lambda% (skolS ?_) | refine no_implicit_lambda% (skolA ?_)); generalize @skz _ _ _ = fv) | intro fv
  first | ((first | refine no_implicit_lambda% (skol ?_) | refine no_implicit_lambda% (skolW ?_) | refine no_implicit_lambda% (skolL ?_) | refine no_implicit_lambda% (skolS ?_) | refine no_implicit_lambda% (skolA ?_)); generalize @skz _ _ _ = fn) | intro fn
  first | ((first | refine no_implicit_lambda% (skol ?_) | refine no_implicit_lambda% (skolW ?_) | refine no_implicit_lambda% (skolL ?_) | refine no_implicit_lambda% (skolS ?_) | refine no_implicit_lambda% (skolA ?_)); generalize @skz _ _ _ = hfv) | intro hfv
  first | (refine no_implicit_lambda% (skol4 (by first | exact ⟨default⟩ | exact neWorld | exact neShared | exact neAround | exact neLX) (by first | exact ⟨default⟩ | exact neWorld | exact neShared | exact neAround | exact neLX) (by first | exact ⟨default⟩ | exact neWorld | exact neShared | exact neAround | exact neLX) (by first | exact ⟨default⟩ | exact neWorld | exact neShared | exact neAround | exact neLX) ?_); generalize @sk4a _ _ _ _ _ _ _ _ _ = p; generalize @sk4b _ _ _ _ _ _ _ _ _ = loose; generalize @sk4c _ _ _ _ _ _ _ _ _ = mean; generalize @sk4d _ _ _ _ _ _ _ _ _ = mg) | ((first | ((first | refine no_implicit_lambda% (skol ?_) | refine no_implicit_lambda% (skolW ?_) | refine no_implicit_lambda% (skolL ?_) | refine no_implicit_lambda% (skolS ?_) | refine no_implicit_lambda% (skolA ?_)); generalize @skz _ _ _ = p) | intro p); (first | ((first | refine no_implicit_lambda% (skol ?_) | refine no_implicit_lambda% (skolW ?_) | refine no_implicit_lambda% (skolL ?_) | refine no_implicit_lambda% (skolS ?_) | refine no_implicit_lambda% (skolA ?_)); generalize @skz _ _ _ = loose) | intro loose); (first | ((first | refine no_implicit_lambda% (skol ?_) | refine no_implicit_lambda% (skolW ?_) | refine no_implicit_lambda% (skolL ?_) | refine no_implicit_lambda% (skolS ?_) | refine no_implicit_lambda% (skolA ?_)); generalize @skz _ _ _ = mean) | intro mean); (first | ((first | refine no_implicit_lambda% (skol ?_) | refine no_implicit_lambda% (skolW ?_) | refine no_implicit_lambda% (skolL ?_) | refine no_implicit_lambda% (skolS ?_) | refine no_implicit_lambda% (skolA ?_)); generalize @skz _ _ _ = mg) | intro mg))
  first | (refine no_implicit_lambda% (skol4 (by first | exact ⟨default⟩ | exact neWorld | exact neShared | exact neAround | exact neLX) (by first | exact ⟨default⟩ | exact neWorld | exact neShared | exact neAround | exact neLX) (by first | exact ⟨default⟩ | exact neWorld | exact neShared | exact neAround | exact neLX) (by first | exact ⟨default⟩ | exact neWorld | exact neShared | exact neAround | exact neLX) ?_); generalize @sk4a _ _ _ _ _ _ _ _ _ = mb; generalize @sk4b _ _ _ _ _ _ _ _ _ = dp; generalize @sk4c _ _ _ _ _ _ _ _ _ = un; generalize @sk4d _ _ _ _ _ _ _ _ _ = gd) | ((first | ((first | refine no_implicit_lambda% (skol ?_) | refine no_implicit_lambda% (skolW ?_) | refine no_implicit_lambda% (skolL ?_) | refine no_implicit_lambda% (skolS ?_) | refine no_implicit_lambda% (skolA ?_)); generalize @skz _ _ _ = mb) | intro mb); (first | ((first | refine no_implicit_lambda% (skol ?_) | refine no_implicit_lambda% (skolW ?_) | refine no_implicit_lambda% (skolL ?_) | refine no_implicit_lambda% (skolS ?_) | refine no_implicit_lambda% (skolA ?_)); generalize @skz _ _ _ = dp) | intro dp); (first | ((first | refine no_implicit_lambda% (skol ?_) | refine no_implicit_lambda% (skolW ?_) | refine no_implicit_lambda% (skolL ?_) | refine no_implicit_lambda% (skolS ?_) | refine no_implicit_lambda% (skolA ?_)); generalize @skz _ _ _ = un) | intro un); (first | ((first | refine no_implicit_lambda% (skol ?_) | refine no_implicit_lambda% (skolW ?_) | refine no_implicit_lambda% (skolL ?_) | refine no_implicit_lambda% (skolS ?_) | refine no_implicit_lambda% (skolA ?_)); generalize @skz _ _ _ = gd) | intro gd))
  first | (refine no_implicit_lambda% (skol4 (by first | exact ⟨default⟩ | exact neWorld | exact neShared | exact neAround | exact neLX) (by first | exact ⟨default⟩ | exact neWorld | exact neShared | exact neAround | exact neLX) (by first | exact ⟨default⟩ | exact neWorld | exact neShared | exact neAround | exact neLX) (by first | exact ⟨default⟩ | exact neWorld | exact neShared | exact neAround | exact neLX) ?_); generalize @sk4a _ _ _ _ _ _ _ _ _ = outer; generalize @sk4b _ _ _ _ _ _ _ _ _ = A₀; generalize @sk4c _ _ _ _ _ _ _ _ _ = base; generalize @sk4d _ _ _ _ _ _ _ _ _ = g) | ((first | ((first | refine no_implicit_lambda% (skol ?_) | refine no_implicit_lambda% (skolW ?_) | refine no_implicit_lambda% (skolL ?_) | refine no_implicit_lambda% (skolS ?_) | refine no_implicit_lambda% (skolA ?_)); generalize @skz _ _ _ = outer) | intro outer); (first | ((first | refine no_implicit_lambda% (skol ?_) | refine no_implicit_lambda% (skolW ?_) | refine no_implicit_lambda% (skolL ?_) | refine no_implicit_lambda% (skolS ?_) | refine no_implicit_lambda% (skolA ?_)); generalize @skz _ _ _ = A₀) | intro A₀); (first | ((first | refine no_implicit_lambda% (skol ?_) | refine no_implicit_lambda% (skolW ?_) | refine no_implicit_lambda% (skolL ?_) | refine no_implicit_lambda% (skolS ?_) | refine no_implicit_lambda% (skolA ?_)); generalize @skz _ _ _ = base) | intro base); (first | ((first | refine no_implicit_lambda% (skol ?_) | refine no_implicit_lambda% (skolW ?_) | refine no_implicit_lambda% (skolL ?_) | refine no_implicit_lambda% (skolS ?_) | refine no_implicit_lambda% (skolA ?_)); generalize @skz _ _ _ = g) | intro g))
  first | (refine no_implicit_lambda% (skol4 (by first | exact ⟨default⟩ | exact neWorld | exact neShared | exact neAround | exact neLX) (by first | exact ⟨default⟩ | exact neWorld | exact neShared | exact neAround | exact neLX) (by first | exact ⟨default⟩ | exact neWorld | exact neShared | exact neAround | exact neLX) (by first | exact ⟨default⟩ | exact neWorld | exact neShared | exact neAround | exact neLX) ?_); generalize @sk4a _ _ _ _ _ _ _ _ _ = L'; generalize @sk4b _ _ _ _ _ _ _ _ _ = s; generalize @sk4c _ _ _ _ _ _ _ _ _ = s₀; generalize @sk4d _ _ _ _ _ _ _ _ _ = hh) | ((first | ((first | refine no_implicit_lambda% (skol ?_) | refine no_implicit_lambda% (skolW ?_) | refine no_implicit_lambda% (skolL ?_) | refine no_implicit_lambda% (skolS ?_) | refine no_implicit_lambda% (skolA ?_)); generalize @skz _ _ _ = L') | intro L'); (first | ((first | refine no_implicit_lambda% (skol ?_) | refine no_implicit_lambda% (skolW ?_) | refine no_implicit_lambda% (skolL ?_) | refine no_implicit_lambda% (skolS ?_) | refine no_implicit_lambda% (skolA ?_)); generalize @skz _ _ _ = s) | intro s); (first | ((first | refine no_implicit_lambda% (skol ?_) | refine no_implicit_lambda% (skolW ?_) | refine no_implicit_lambda% (skolL ?_) | refine no_implicit_lambda% (skolS ?_) | refine no_implicit_lambda% (skolA ?_)); generalize @skz _ _ _ = s₀) | intro s₀); (first | ((first | refine no_implicit_lambda% (skol ?_) | refine no_implicit_lambda% (skolW ?_) | refine no_implicit_lambda% (skolL ?_) | refine no_implicit_lambda% (skolS ?_) | refine no_implicit_lambda% (skolA ?_)); generalize @skz _ _ _ = hh) | intro hh))
  first | ((first | refine no_implicit_lambda% (skol ?_) | refine no_implicit_lambda% (skolW ?_) | refine no_implicit_lambda% (skolL ?_) | refine no_implicit_lambda% (skolS ?_) | refine no_implicit_lambda% (skolA ?_)); generalize @skz _ _ _ = tk₀) | intro tk₀
  first | ((first | refine no_implicit_lambda% (skol ?_) | refine no_implicit_lambda% (skolW ?_) | refine no_implicit_lambda% (skolL ?_) | refine no_implicit_lambda% (skolS ?_) | refine no_implicit_lambda% (skolA ?_)); generalize @skz _ _ _ = hs) | intro hs
  first | ((first | refine no_implicit_lambda% (skol ?_) | refine no_implicit_lambda% (skolW ?_) | refine no_implicit_lambda% (skolL ?_) | refine no_implicit_lambda% (skolS ?_) | refine no_implicit_lambda% (skolA ?_)); generalize @skz _ _ _ = m₀) | intro m₀
  first | ((first | refine no_implicit_lambda% (skol ?_) | refine no_implicit_lambda% (skolW ?_) | refine no_implicit_lambda% (skolL ?_) | refine no_implicit_lambda% (skolS ?_) | refine no_implicit_lambda% (skolA ?_)); generalize @skz _ _ _ = x0) | intro x0
  first | ((first | refine no_implicit_lambda% (skol ?_) | refine no_implicit_lambda% (skolW ?_) | refine no_implicit_lambda% (skolL ?_) | refine no_implicit_lambda% (skolS ?_) | refine no_implicit_lambda% (skolA ?_)); generalize @skz _ _ _ = x1) | intro x1
  first | ((first | refine no_implicit_lambda% (skol ?_) | refine no_implicit_lambda% (skolW ?_) | refine no_implicit_lambda% (skolL ?_) | refine no_implicit_lambda% (skolS ?_) | refine no_implicit_lambda% (skolA ?_)); generalize @skz _ _ _ = x2) | intro x2
  first | ((first | refine no_implicit_lambda% (skol ?_) | refine no_implicit_lambda% (skolW ?_) | refine no_implicit_lambda% (skolL ?_) | refine no_implicit_lambda% (skolS ?_) | refine no_implicit_lambda% (skolA ?_)); generalize @skz _ _ _ = x3) | intro x3
  first | ((first | refine no_implicit_lambda% (skol ?_) | refine no_implicit_lambda% (skolW ?_) | refine no_implicit_lambda% (skolL ?_) | refine no_implicit_lambda% (skolS ?_) | refine no_implicit_lambda% (skolA ?_)); generalize @skz _ _ _ = x4) | intro x4
  first | ((first | refine no_implicit_lambda% (skol ?_) | refine no_implicit_lambda% (skolW ?_) | refine no_implicit_lambda% (skolL ?_) | refine no_implicit_lambda% (skolS ?_) | refine no_implicit_lambda% (skolA ?_)); generalize @skz _ _ _ = x5) | intro x5
  first | ((first | refine no_implicit_lambda% (skol ?_) | refine no_implicit_lambda% (skolW ?_) | refine no_implicit_lambda% (skolL ?_) | refine no_implicit_lambda% (skolS ?_) | refine no_implicit_lambda% (skolA ?_)); generalize @skz _ _ _ = x6) | intro x6
  first | ((first | refine no_implicit_lambda% (skol ?_) | refine no_implicit_lambda% (skolW ?_) | refine no_implicit_lambda% (skolL ?_) | refine no_implicit_lambda% (skolS ?_) | refine no_implicit_lambda% (skolA ?_)); generalize @skz _ _ _ = y0) | intro y0
  first | ((first | refine no_implicit_lambda% (skol ?_) | refine no_implicit_lambda% (skolW ?_) | refine no_implicit_lambda% (skolL ?_) | refine no_implicit_lambda% (skolS ?_) | refine no_implicit_lambda% (skolA ?_)); generalize @skz _ _ _ = y1) | intro y1
  first | ((first | refine no_implicit_lambda% (skol ?_) | refine no_implicit_lambda% (skolW ?_) | refine no_implicit_lambda% (skolL ?_) | refine no_implicit_lambda% (skolS ?_) | refine no_implicit_lambda% (skolA ?_)); generalize @skz _ _ _ = y2) | intro y2
  first | ((first | refine no_implicit_lambda% (skol ?_) | refine no_implicit_lambda% (skolW ?_) | refine no_implicit_lambda% (skolL ?_) | refine no_implicit_lambda% (skolS ?_) | refine no_implicit_lambda% (skolA ?_)); generalize @skz _ _ _ = y3) | intro y3
  first | ((first | refine no_implicit_lambda% (skol ?_) | refine no_implicit_lambda% (skolW ?_) | refine no_implicit_lambda% (skolL ?_) | refine no_implicit_lambda% (skolS ?_) | refine no_implicit_lambda% (skolA ?_)); generalize @skz _ _ _ = y4) | intro y4
  first | ((first | refine no_implicit_lambda% (skol ?_) | refine no_implicit_lambda% (skolW ?_) | refine no_implicit_lambda% (skolL ?_) | refine no_implicit_lambda% (skolS ?_) | refine no_implicit_lambda% (skolA ?_)); generalize @skz _ _ _ = y5) | intro y5
  first | ((first | refine no_implicit_lambda% (skol ?_) | refine no_implicit_lambda% (skolW ?_) | refine no_implicit_lambda% (skolL ?_) | refine no_implicit_lambda% (skolS ?_) | refine no_implicit_lambda% (skolA ?_)); generalize @skz _ _ _ = y6) | intro y6
  first | ((first | refine no_implicit_lambda% (skol ?_) | refine no_implicit_lambda% (skolW ?_) | refine no_implicit_lambda% (skolL ?_) | refine no_implicit_lambda% (skolS ?_) | refine no_implicit_lambda% (skolA ?_)); generalize @skz _ _ _ = y7) | intro y7
  first | ((first | refine no_implicit_lambda% (skol ?_) | refine no_implicit_lambda% (skolW ?_) | refine no_implicit_lambda% (skolL ?_) | refine no_implicit_lambda% (skolS ?_) | refine no_implicit_lambda% (skolA ?_)); generalize @skz _ _ _ = y8) | intro y8
  first | ((first | refine no_implicit_lambda% (skol ?_) | refine no_implicit_lambda% (skolW ?_) | refine no_implicit_lambda% (skolL ?_) | refine no_implicit_lambda% (skolS ?_) | refine no_implicit_lambda% (skolA ?_)); generalize @skz _ _ _ = y9) | intro y9
  first | ((first | refine no_implicit_lambda% (skol ?_) | refine no_implicit_lambda% (skolW ?_) | refine no_implicit_lambda% (skolL ?_) | refine no_implicit_lambda% (skolS ?_) | refine no_implicit_lambda% (skolA ?_)); generalize @skz _ _ _ = y10) | intro y10
  first | ((first | refine no_implicit_lambda% (skol ?_) | refine no_implicit_lambda% (skolW ?_) | refine no_implicit_lambda% (skolL ?_) | refine no_implicit_lambda% (skolS ?_) | refine no_implicit_lambda% (skolA ?_)); generalize @skz _ _ _ = y11) | intro y11
  first | ((first | refine no_implicit_lambda% (skol ?_) | refine no_implicit_lambda% (skolW ?_) | refine no_implicit_lambda% (skolL ?_) | refine no_implicit_lambda% (skolS ?_) | refine no_implicit_lambda% (skolA ?_)); generalize @skz _ _ _ = y12) | intro y12
  first | ((first | refine no_implicit_lambda% (skol ?_) | refine no_implicit_lambda% (skolW ?_) | refine no_implicit_lambda% (skolL ?_) | refine no_implicit_lambda% (skolS ?_) | refine no_implicit_lambda% (skolA ?_)); generalize @skz _ _ _ = y13) | intro y13
  first | ((first | refine no_implicit_lambda% (skol ?_) | refine no_implicit_lambda% (skolW ?_) | refine no_implicit_lambda% (skolL ?_) | refine no_implicit_lambda% (skolS ?_) | refine no_implicit_lambda% (skolA ?_)); generalize @skz _ _ _ = y14) | intro y14
  first | ((first | refine no_implicit_lambda% (skol ?_) | refine no_implicit_lambda% (skolW ?_) | refine no_implicit_lambda% (skolL ?_) | refine no_implicit_lambda% (skolS ?_) | refine no_implicit_lambda% (skolA ?_)); generalize @skz _ _ _ = y15) | intro y15
  first | ((first | refine no_implicit_lambda% (skol ?_) | refine no_implicit_lambda% (skolW ?_) | refine no_implicit_lambda% (skolL ?_) | refine no_implicit_lambda% (skolS ?_) | refine no_implicit_lambda% (skolA ?_)); generalize @skz _ _ _ = y16) | intro y16
  first | ((first | refine no_implicit_lambda% (skol ?_) | refine no_implicit_lambda% (skolW ?_) | refine no_implicit_lambda% (skolL ?_) | refine no_implicit_lambda% (skolS ?_) | refine no_implicit_lambda% (skolA ?_)); generalize @skz _ _ _ = y17) | intro y17
  first | ((first | refine no_implicit_lambda% (skol ?_) | refine no_implicit_lambda% (skolW ?_) | refine no_implicit_lambda% (skolL ?_) | refine no_implicit_lambda% (skolS ?_) | refine no_implicit_lambda% (skolA ?_)); generalize @skz _ _ _ = B) | intro B
  first | ((first | refine no_implicit_lambda% (skol ?_) | refine no_implicit_lambda% (skolW ?_) | refine no_implicit_lambda% (skolL ?_) | refine no_implicit_lambda% (skolS ?_) | refine no_implicit_lambda% (skolA ?_)); generalize @skz _ _ _ = F) | intro F
  first | ((first | refine no_implicit_lambda% (skol ?_) | refine no_implicit_lambda% (skolW ?_) | refine no_implicit_lambda% (skolL ?_) | refine no_implicit_lambda% (skolS ?_) | refine no_implicit_lambda% (skolA ?_)); generalize @skz _ _ _ = X) | intro X
  first | ((first | refine no_implicit_lambda% (skol ?_) | refine no_implicit_lambda% (skolW ?_) | refine no_implicit_lambda% (skolL ?_) | refine no_implicit_lambda% (skolS ?_) | refine no_implicit_lambda% (skolA ?_)); generalize @skz _ _ _ = N) | intro N
  first | ((first | refine no_implicit_lambda% (skol ?_) | refine no_implicit_lambda% (skolW ?_) | refine no_implicit_lambda% (skolL ?_) | refine no_implicit_lambda% (skolS ?_) | refine no_implicit_lambda% (skolA ?_)); generalize @skz _ _ _ = T) | intro T
  first | ((first | refine no_implicit_lambda% (skol ?_) | refine no_implicit_lambda% (skolW ?_) | refine no_implicit_lambda% (skolL ?_) | refine no_implicit_lambda% (skolS ?_) | refine no_implicit_lambda% (skolA ?_)); generalize @skz _ _ _ = hd) | intro hd
  first | ((first | refine no_implicit_lambda% (skol ?_) | refine no_implicit_lambda% (skolW ?_) | refine no_implicit_lambda% (skolL ?_) | refine no_implicit_lambda% (skolS ?_) | refine no_implicit_lambda% (skolA ?_)); generalize @skz _ _ _ = hu) | intro hu
  subst hs
  dsimp only at F N
  conv at hrest => (lhs; whnf)
  subst hrest
  conv at hsc => (lhs; whnf)
  cases hsc
  skip -- x0 x1 x2 x3 x4 x5 x6
  obtain ⟨_, _, _, _, _, _, _, _, _, _, _⟩ := ten x0
  obtain ⟨_, _, _, _, _, _, _, _, _, _, _⟩ := ten x1
  obtain ⟨_, _, _, _, _, _, _, _, _, _, _⟩ := ten x2
  obtain ⟨_, _, _, _, _, _, _, _, _, _, _⟩ := ten x3
  obtain ⟨_, _, _, _, _, _, _, _, _, _, _⟩ := ten x4
  obtain ⟨_, _, _, _, _, _, _, _, _, _, _⟩ := ten x5
  obtain ⟨_, _, _, _, _, _, _, _, _, _, _⟩ := ten x6
  dsimp only [lexL, List.cons_append, List.nil_append] at N
  have hK0 : (fun w : World => Mine.hd0.heap_1_1 w.params, PySem.Challenge.rw_to0042_01) = (fun w : World => Mine.hd0.heap_1_1 w.params, PySem.Challenge.rw_to0042_01) := by (k_fill; rfl)
  clear hK0
  have hev := pick_ev hfv hl3 hl6
  have hod := pick_od hfv hl3 hl6
  obtain ⟨hsu1, hsu2⟩ := hsums
  have hfl := hfv.length
  k_steps
  all_goals (try (first | exact absurd hsu1 (by assumption) | exact absurd hsu2 (by assumption)))
  refine Hold.mk ?_
  rename Fr _ _ _ _ => F'
  rename News _ _ _ _ => N'
  refine' law_c w _ _ rfl rfl f cdv seats I hI ln k tl tkk ts n _ restO hat hst hln0 hln hv cs cn ca hcs hcl s3 s6 oS hoS ps1 ps2 other ns hot hol3 hol6 holr hob ht2 hns hnl hnd hnr hf2 aF aO p loose mean mg mb dp un gd outer A₀ base g L' _ s₀ _ _ rfl m₀ ?x0 ?x1 ?x2 ?x3 ?x4 ?y0 ?y1 ?y2 ?y3 ?y4 ?y5 ?y6 B F' X (led_sub N' ?sub) T hd hu
  case sub =>
    dsimp only [lexL, List.cons_append, List.nil_append]
    repeat' (first | (refine List.forall_mem_cons.mpr ⟨?_, ?_⟩) | exact List.forall_mem_nil _)
    all_goals (repeat (first | exact List.Mem.head _ | apply List.Mem.tail))
  all_goals first | k_ne | ((repeat' (refine List.forall_mem_cons.mpr ⟨by k_ne, ?_⟩)); exact List.forall_mem_nil _)
local macro_rules | `(tactic| walk_at "call ref") => `(tactic| (k_here; (with_reducible show wpAny _ _ (call (Value.ref 86) _ _) _ _ _); refine Hold.out ?_))
local macro_rules | `(tactic| walk_at "execs cons") => `(tactic| (k_here; (with_reducible show wpAny _ _ (execs (Stmt.If _ _ _ ⟨254, _, _, _⟩ :: _) _) _ _ _); refine Hold.out ?_))
set_option maxHeartbeats 8000000 in
theorem law_a (w : World) (rest : List Stmt) (scope : Scope) (hrest : (fnBody ((Mine.hd0.heap_1_1 w.params).lookup 162)).drop 4 = rest) (hsc : fnScope ((Mine.hd0.heap_1_1 w.params).lookup 162) = some scope) (f : Addr) (cdv : Value) (seats : Int)
   (I : LX) (hI : LXok w I) (ln k : Int) (tl tkk ts : Tok) (n nb : Nat) (restO : List Nat)
   (hat : At I.page k restO) (hst : LexSt seats [] 7 restO ln) (hln0 : 0 ≤ ln) (hln : ln + restO.length ≤ 1000)
   (hv : List Value) (cs : List Int) (cn : Nat) (ca : Addr) (hcs : IntsAre hv cs) (hcl : cs.length = 13)
   (s3 : 3 ≤ seats) (s6 : seats ≤ 6) (oS : Obj) (hoS : oS.data = .cell (some (.int seats ts))) (ps1 ps2 : Array Value)
   (aO : Addr) (rv : List Value) (ri : List Int) (rn : Nat) (hri : IntsAre rv ri)
   (hall : List Int) (hrise : riseS hall = []) (hl3 : 3 ≤ hall.length) (hl6 : hall.length ≤ 6) (hlr : (hall.length : Int) ≤ seats) (hhb : ∀ z ∈ hall, 0 ≤ z ∧ z < 100) (ht1 : toldP seats hall = some ri) (hsums : SumsOk hall ri)
   (hrl : ri.length = 6) (hrb : ∀ z ∈ ri, 1 ≤ z ∧ z ≤ 6) (hf1 : fillR 3 seats ri = (hall, [])) (hsrt : ∀ l : List Int, l.Perm (List.map (fun k' => 1 + k'.fmod seats) (List.take (min 7 cs.length - 1) (List.drop 1 cs))) → l.Pairwise (fun x y => y ≤ x) → ri = l)
   (other ns : List Int) (hot : (drawS (List.drop 7 cs) (seats - 1).toNat).reverse = other) (hol3 : 3 ≤ other.length) (hol6 : other.length ≤ 6) (holr : (other.length : Int) ≤ seats) (hob : ∀ z ∈ other, 0 ≤ z ∧ z < 100) (ht2 : toldP seats other = some ns) (hns : ∀ z ∈ ns, 1 ≤ z ∧ z ≤ 6) (hnl : ns.length ≤ 60) (hnd : ns.Pairwise (fun x y => y ≤ x)) (hnr : ∀ z ∈ ns, 1 ≤ z ∧ z ≤ seats) (hf2 : fillR 3 seats ns = (other, []))
   (p : Program) (loose : List Str) (mean : ExcName → Option Value) (mg mb : Str → Option Value) (dp un : Nat) (gd : Option (List Code)) (outer : List Env) (A₀ : Around) (base g : Heap) (L' : Addr) (s s₀ : Shared) (hh : Heap) (tk₀ : Nat) (hs : s = { s₀ with heap := hh, toks := tk₀ }) (m₀ : Str → Option Value)
   (x0 : ∀ b ∈ lxA I, aO ≠ b) (x1 : ∀ b ∈ lxA I, ca ≠ b) (x2 : ∀ b ∈ lxA I, L' + 1 ≠ b) (x3 : ∀ b ∈ lxA I, (147 : Addr) ≠ b) (x4 : ∀ b ∈ lxA I, (123 : Addr) ≠ b) (x5 : ∀ b ∈ lxA I, (102 : Addr) ≠ b) (y0 : aO ≠ ca) (y1 : aO ≠ L' + 1) (y2 : aO ≠ (147 : Addr)) (y3 : aO ≠ (123 : Addr)) (y4 : aO ≠ (102 : Addr)) (y5 : ca ≠ L' + 1) (y6 : ca ≠ (147 : Addr)) (y7 : ca ≠ (123 : Addr)) (y8 : ca ≠ (102 : Addr)) (y9 : L' + 1 ≠ (147 : Addr)) (y10 : L' + 1 ≠ (123 : Addr)) (y11 : L' + 1 ≠ (102 : Addr))
   (B : Below A₀ base outer g) (F : Fr g L' s.heap (fun y => if y = Str.ofString "sizes" then some (.ref aO) else if y = Str.ofString "lexer" then some (.ref I.x) else if y = Str.ofString "cells" then some (.ref ca) else  m₀ y)) (X : (Mine.hd0.heap_1_1 w.params).In g)
   (N : News g L' s.heap ((aO, W.listOf rv.toArray rn) :: (lexL w I ln k tl tkk n [] nb ++ [(ca, W.listOf hv.toArray cn), (L' + 1, oS), (147, tabObj #[]), (123, tabObj ps1), (102, tabObj ps2)]))) (T : Top p loose mean mg mb g) (hd : dp + 60 < recursionLimit) (hu : un + 8 * 60 < cLine) :
   wpAny (model PySem.Challenge.rw_to0042_01.row.prog w) (ktrTop dp un gd (Str.ofString "law") scope L' f cdv (cellsFrom (L' + 1) scope.names []) outer) (execs rest (envOfC (Str.ofString "law") scope L' f cdv)) (LawEnd g L' s₀ ps1 ps2) (fun _ _ => False) s := by
  w_top off
  revert w rest scope hrest hsc f cdv seats I hI ln k tl tkk ts n nb restO hat hst hln0 hln hv cs cn ca hcs hcl s3 s6 oS hoS ps1 ps2 aO rv ri rn hri hall hrise hl3 hl6 hlr hhb ht1 hsums hrl hrb hf1 hsrt other ns hot hol3 hol6 holr hob ht2 hns hnl hnd hnr hf2 p loose mean mg mb dp un gd outer A₀ base g L' s s₀ hh tk₀ hs m₀ x0 x1 x2 x3 x4 x5 y0 y1 y2 y3 y4 y5 y6 y7 y8 y9 y10 y11 B F X N T hd hu
  first | ((first | refine no_implicit_lambda% (skol ?_) | refine no_implicit_lambda% (skolW ?_) | refine no_implicit_lambda% (skolL ?_) | refine no_implicit_lambda% (skolS ?_) | refine no_implicit_lambda% (skolA ?_)); generalize @skz _ _ _ = w) | intro w
  first | ((first | refine no_implicit_lambda% (skol ?_) | refine no_implicit_lambda% (skolW ?_) | refine no_implicit_lambda% (skolL ?_) | refine no_implicit_lambda% (skolS ?_) | refine no_implicit_lambda% (skolA ?_)); generalize @skz _ _ _ = rest) | intro rest
  first | ((first | refine no_implicit_lambda% (skol ?_) | refine no_implicit_lambda% (skolW ?_) | refine no_implicit_lambda% (skolL ?_) | refine no_implicit_lambda% (skolS ?_) | refine no_implicit_lambda% (skolA ?_)); generalize @skz _ _ _ = scope) | intro scope
  first | ((first | refine no_implicit_lambda% (skol ?_) | refine no_implicit_lambda% (skolW ?_) | refine no_implicit_lambda% (skolL ?_) | refine no_implicit_lambda% (skolS ?_) | refine no_implicit_lambda% (skolA ?_)); generalize @skz _ _ _ = hrest) | intro hrest
  first | ((first | refine no_implicit_lambda% (skol ?_) | refine no_implicit_lambda% (skolW ?_) | refine no_implicit_lambda% (skolL ?_) | refine no_implicit_lambda% (skolS ?_) | refine no_implicit_lambda% (skolA ?_)); generalize @skz _ _ _ = hsc) | intro hsc
  first | (refine no_implicit_lambda% (skol4 (by first | exact ⟨default⟩ | exact neWorld | exact neShared | exact neAround | exact neLX) (by first | exact ⟨default⟩ | exact neWorld | exact neShared | exact neAround | exact neLX) (by first | exact ⟨default⟩ | exact neWorld | exact neShared | exact neAround | exact neLX) (by first | exact ⟨default⟩ | exact neWorld | exact neShared | exact neAround | exact neLX) ?_); generalize @sk4a _ _ _ _ _ _ _ _ _ = f; generalize @sk4b _ _ _ _ _ _ _ _ _ = cdv; generalize @sk4c _ _ _ _ _ _ _ _ _ = seats; generalize @sk4d _ _ _ _ _ _ _ _ _ = I) | ((first | ((first | refine no_implicit_lambda% (skol ?_) | refine no_implicit_lambda% (skolW ?_) | refine no_implicit_lambda% (skolL ?_) | refine no_implicit_lambda% (skolS ?_) | refine no_implicit_lambda% (skolA ?_)); generalize @skz _ _ _ = f) | intro f); (first | ((first | refine no_implicit_lambda% (skol ?_) | refine no_implicit_lambda% (skolW ?_) | refine no_implicit_lambda% (skolL ?_) | refine no_implicit_lambda% (skolS ?_) | refine no_implicit_lambda% (skolA ?_)); generalize @skz _ _ _ = cdv) | intro cdv); (first | ((first | refine no_implicit_lambda% (skol ?_) | refine no_implicit_lambda% (skolW ?_) | refine no_implicit_lambda% (skolL ?_) | refine no_implicit_lambda% (skolS ?_) | refine no_implicit_lambda% (skolA ?_)); generalize @skz _ _ _ = seats) | intro seats); (first | ((first | refine no_implicit_lambda% (skol ?_) | refine no_implicit_lambda% (skolW ?_) | refine no_implicit_lambda% (skolL ?_) | refine no_implicit_lambda% (skolS ?_) | refine no_implicit_lambda% (skolA ?_)); generalize @skz _ _ _ = I) | intro I))
  first | ((first | refine no_implicit_lambda% (skol ?_) | refine no_implicit_lambda% (skolW ?_) | refine no_implicit_lambda% (skolL ?_) | refine no_implicit_lambda% (skolS ?_) | refine no_implicit_lambda% (skolA ?_)); generalize @skz _ _ _ = hI) | intro hI
  first | (refine no_implicit_lambda% (skol4 (by first | exact ⟨default⟩ | exact neWorld | exact neShared | exact neAround | exact neLX) (by first | exact ⟨default⟩ | exact neWorld | exact neShared | exact neAround | exact neLX) (by first | exact ⟨default⟩ | exact neWorld | exact neShared | exact neAround | exact neLX) (by first | exact ⟨default⟩ | exact neWorld | exact neShared | exact neAround | exact neLX) ?_); generalize @sk4a _ _ _ _ _ _ _ _ _ = ln; generalize @sk4b _ _ _ _ _ _ _ _ _ = k; generalize @sk4c _ _ _ _ _ _ _ _ _ = tl; generalize @sk4d _ _ _ _ _ _ _ _ _ = tkk) | ((first | ((first | refine no_implicit_lambda% (skol ?_) | refine no_implicit_lambda% (skolW ?_) | refine no_implicit_lambda% (skolL ?_) | refine no_implicit_lambda% (skolS ?_) | refine no_implicit_lambda% (skolA ?_)); generalize @skz _ _ _ = ln) | intro ln); (first | ((first | refine no_implicit_lambda% (skol ?_) | refine no_implicit_lambda% (skolW ?_) | refine no_implicit_lambda% (skolL ?_) | refine no_implicit_lambda% (skolS ?_) | refine no_implicit_lambda% (skolA ?_)); generalize @skz _ _ _ = k) | intro k); (first | ((first | refine no_implicit_lambda% (skol ?_) | refine no_implicit_lambda% (skolW ?_) | refine no_implicit_lambda% (skolL ?_) | refine no_implicit_lambda% (skolS ?_) | refine no_implicit_lambda% (skolA ?_)); generalize @skz _ _ _ = tl) | intro tl); (first | ((first | refine no_implicit_lambda% (skol ?_) | refine no_implicit_lambda% (skolW ?_) | refine no_implicit_lambda% (skolL ?_) | refine no_implicit_lambda% (skolS ?_) | refine no_implicit_lambda% (skolA ?_)); generalize @skz _ _ _ = tkk) | intro tkk))
  first | (refine no_implicit_lambda% (skol4 (by first | exact ⟨default⟩ | exact neWorld | exact neShared | exact neAround | exact neLX) (by first | exact ⟨default⟩ | exact neWorld | exact neShared | exact neAround | exact neLX) (by first | exact ⟨default⟩ | exact neWorld | exact neShared | exact neAround | exact neLX) (by first | exact ⟨default⟩ | exact neWorld | exact neShared | exact neAround | exact neLX) ?_); generalize @sk4a _ _ _ _ _ _ _ _ _ = ts; generalize @sk4b _ _ _ _ _ _ _ _ _ = n; generalize @sk4c _ _ _ _ _ _ _ _ _ = nb; generalize @sk4d _ _ _ _ _ _ _ _ _ = restO) | ((first | ((first | refine no_implicit_lambda% (skol ?_) | refine no_implicit_lambda% (skolW ?_) | refine no_implicit_lambda% (skolL ?_) | refine no_implicit_lambda% (skolS ?_) | refine no_implicit_lambda% (skolA ?_)); generalize @skz _ _ _ = ts) | intro ts); (first | ((first | refine no_implicit_lambda% (skol ?_) | refine no_implicit_lambda% (skolW ?_) | refine no_implicit_lambda% (skolL ?_) | refine no_implicit_lambda% (skolS ?_) | refine no_implicit_lambda% (skolA ?_)); generalize @skz _ _ _ = n) | intro n); (first | ((first | refine no_implicit_lambda% (skol ?_) | refine no_implicit_lambda% (skolW ?_) | refine no_implicit_lambda% (skolL ?_) | refine no_implicit_lambda% (skolS ?_) | refine no_implicit_lambda% (skolA ?_)); generalize @skz _ _ _ = nb) | intro nb); (first | ((first | refine no_implicit_lambda% (skol ?_) | refine no_implicit_lambda% (skolW ?_) | refine no_implicit_lambda% (skolL ?_) | refine no_implicit_lambda% (skolS ?_) | refine no_implicit_lambda% (skolA ?_)); generalize @skz _ _ _ = restO) | intro restO))
  first | ((first | refine no_implicit_lambda% (skol ?_) | refine no_implicit_lambda% (skolW ?_) | refine no_implicit_lambda% (skolL ?_) | refine no_implicit_lambda% (skolS ?_) | refine no_implicit_lambda% (skolA ?_)); generalize @skz _ _ _ = hat) | intro hat
  first | ((first | refine no_implicit_lambda% (skol ?_) | refine no_implicit_lambda% (skolW ?_) | refine no_implicit_lambda% (skolL ?_) | refine no_implicit_lambda% (skolS ?_) | refine no_implicit_lambda% (skolA ?_)); generalize @skz _ _ _ = hst) | intro hst
  first | ((first | refine no_implicit_lambda% (skol ?_) | refine no_implicit_lambda% (skolW ?_) | refine no_implicit_lambda% (skolL ?_) | refine no_implicit_lambda% (skolS ?_) | refine no_implicit_lambda% (skolA ?_)); generalize @skz _ _ _ = hln0) | intro hln0
  first | ((first | refine no_implicit_lambda% (skol ?_) | refine no_implicit_lambda% (skolW ?_) | refine no_implicit_lambda% (skolL ?_) | refine no_implicit_lambda% (skolS ?_) | refine no_implicit_lambda% (skolA ?_)); generalize @skz _ _ _ = hln) | intro hln
  first | (refine no_implicit_lambda% (skol4 (by first | exact ⟨default⟩ | exact neWorld | exact neShared | exact neAround | exact neLX) (by first | exact ⟨default⟩ | exact neWorld | exact neShared | exact neAround | exact neLX) (by first | exact ⟨default⟩ | exact neWorld | exact neShared | exact neAround | exact neLX) (by first | exact ⟨default⟩ | exact neWorld | exact neShared | exact neAround | exact neLX) ?_); generalize @sk4a _ _ _ _ _ _ _ _ _ = hv; generalize @sk4b _ _ _ _ _ _ _ _ _ = cs; generalize @sk4c _ _ _ _ _ _ _ _ _ = cn; generalize @sk4d _ _ _ _ _ _ _ _ _ = ca) | ((first | ((first | refine no_implicit_lambda% (skol ?_) | refine no_implicit_lambda% (skolW ?_) | refine no_implicit_lambda% (skolL ?_) | refine no_implicit_lambda% (skolS ?_) | refine no_implicit_lambda% (skolA ?_)); generalize @skz _ _ _ = hv) | intro hv); (first | ((first | refine no_implicit_lambda% (skol ?_) | refine no_implicit_lambda% (skolW ?_) | refine no_implicit_lambda% (skolL ?_) | refine no_implicit_lambda% (skolS ?_) | refine no_implicit_lambda% (skolA ?_)); generalize @skz _ _ _ = cs) | intro cs); (first | ((first | refine no_implicit_lambda% (skol ?_) | refine no_implicit_lambda% (skolW ?_) | refine no_implicit_lambda% (skolL ?_) | refine no_implicit_lambda% (skolS ?_) | refine no_implicit_lambda% (skolA ?_)); generalize @skz _ _ _ = cn) | intro cn); (first | ((first | refine no_implicit_lambda% (skol ?_) | refine no_implicit_lambda% (skolW ?_) | refine no_implicit_lambda% (skolL ?_) | refine no_implicit_lambda% (skolS ?_) | refine no_implicit_lambda% (skolA ?_)); generalize @skz _ _ _ = ca) | intro ca))
  first | ((first | refine no_implicit_lambda% (skol ?_) | refine no_implicit_lambda% (skolW ?_) | refine no_implicit_lambda% (skolL ?_) | refine no_implicit_lambda% (skolS ?_) | refine no_implicit_lambda% (skolA ?_)); generalize @skz _ _ _ = hcs) | intro hcs
  first | ((first | refine no_implicit_lambda% (skol ?_) | refine no_implicit_lambda% (skolW ?_) | refine no_implicit_lambda% (skolL ?_) | refine no_implicit_lambda% (skolS ?_) | refine no_implicit_lambda% (skolA ?_)); generalize @skz _ _ _ = hcl) | intro hcl
  first | ((first | refine no_implicit_lambda% (skol ?_) | refine no_implicit_lambda% (skolW ?_) | refine no_implicit_lambda% (skolL ?_) | refine no_implicit_lambda% (skolS ?_) | refine no_implicit_lambda% (skolA ?_)); generalize @skz _ _ _ = s3) | intro s3
  first | ((first | refine no_implicit_lambda% (skol ?_) | refine no_implicit_lambda% (skolW ?_) | refine no_implicit_lambda% (skolL ?_) | refine no_implicit_lambda% (skolS ?_) | refine no_implicit_lambda% (skolA ?_)); generalize @skz _ _ _ = s6) | intro s6
  first | ((first | refine no_implicit_lambda% (skol ?_) | refine no_implicit_lambda% (skolW ?_) | refine no_implicit_lambda% (skolL ?_) | refine no_implicit_lambda% (skolS ?_) | refine no_implicit_lambda% (skolA ?_)); generalize @skz _ _ _ = oS) | intro oS
  first | ((first | refine no_implicit_lambda% (skol ?_) | refine no_implicit_lambda% (skolW ?_) | refine no_implicit_lambda% (skolL ?_) | refine no_implicit_lambda% (skolS ?_) | refine no_implicit_lambda% (skolA ?_)); generalize @skz _ _ _ = hoS) | intro hoS
  first | (refine no_implicit_lambda% (skol4 (by first | exact ⟨default⟩ | exact neWorld | exact neShared | exact neAround | exact neLX) (by first | exact ⟨default⟩ | exact neWorld | exact neShared | exact neAround | exact neLX) (by first | exact ⟨default⟩ | exact neWorld | exact neShared | exact neAround | exact neLX) (by first | exact ⟨default⟩ | exact neWorld | exact neShared | exact neAround | exact neLX) ?_); generalize @sk4a _ _ _ _ _ _ _ _ _ = ps1; generalize @sk4b _ _ _ _ _ _ _ _ _ = ps2; generalize @sk4c _ _ _ _ _ _ _ _ _ = aO; generalize @sk4d _ _ _ _ _ _ _ _ _ = rv) | ((first | ((first | refine no_implicit_lambda% (skol ?_) | refine no_implicit_lambda% (skolW ?_) | refine no_implicit_lambda% (skolL ?_) | refine no_implicit_lambda% (skolS ?_) | refine no_implicit_lambda% (skolA ?_)); generalize @skz _ _ _ = ps1) | intro ps1); (first | ((first | refine no_implicit_lambda% (skol ?_) | refine no_implicit_lambda% (skolW ?_) | refine no_implicit_lambda% (skolL ?_) | refine no_implicit_lambda% (skolS ?_) | refine no_implicit_lambda% (skolA ?_)); generalize @skz _ _ _ = ps2) | intro ps2); (first | ((first | refine no_implicit_lambda% (skol ?_) | refine no_implicit_lambda% (skolW ?_) | refine no_implicit_lambda% (skolL ?_) | refine no_implicit_lambda% (skolS ?_) | refine no_implicit_lambda% (skolA ?_)); generalize @skz _ _ _ = aO) | intro aO); (first | ((first | refine no_implicit_lambda% (skol ?_) | refine no_implicit_lambda% (skolW ?_) | refine no_implicit_lambda% (skolL ?_) | refine no_implicit_lambda% (skolS ?_) | refine no_implicit_lambda% (skolA ?_)); generalize @skz _ _ _ = rv) | intro rv))
  first | ((first | refine no_implicit_lambda% (skol ?_) | refine no_implicit_lambda% (skolW ?_) | refine no_implicit_lambda% (skolL ?_) | refine no_implicit_lambda% (skolS ?_) | refine no_implicit_lambda% (skolA ?_)); generalize @skz _ _ _ = ri) | intro ri
  first | ((first | refine no_implicit_lambda% (skol ?_) | refine no_implicit_lambda% (skolW ?_) | refine no_implicit_lambda% (skolL ?_) | refine no_implicit_lambda% (skolS ?_) | refine no_implicit_lambda% (skolA ?_)); generalize @skz _ _ _ = rn) | intro rn
  first | ((first | refine no_implicit_lambda% (skol ?_) | refine no_implicit_lambda% (skolW ?_) | refine no_implicit_lambda% (skolL ?_) | refine no_implicit_lambda% (skolS ?_) | refine no_implicit_lambda% (skolA ?_)); generalize @skz _ _ _ = hri) | intro hri
  first | ((first | refine no_implicit_lambda% (skol ?_) | refine no_implicit_lambda% (skolW ?_) | refine no_implicit_lambda% (skolL ?_) | refine no_implicit_lambda% (skolS ?_) | refine no_implicit_lambda% (skolA ?_)); generalize @skz _ _ _ = hall) | intro hall
  first | ((first | refine no_implicit_lambda% (skol ?_) | refine no_implicit_lambda% (skolW ?_) | refine no_implicit_lambda% (skolL ?_) | refine no_implicit_lambda% (skolS ?_) | refine no_implicit_lambda% (skolA ?_)); generalize @skz _ _ _ = hrise) | intro hrise
  first | ((first | refine no_implicit_lambda% (skol ?_) | refine no_implicit_lambda% (skolW ?_) | refine no_implicit_lambda% (skolL ?_) | refine no_implicit_lambda% (skolS ?_) | refine no_implicit_lambda% (skolA ?_)); generalize @skz _ _ _ = hl3) | intro hl3
  first | ((first | refine no_implicit_lambda% (skol ?_) | refine no_implicit_lambda% (skolW ?_) | refine no_implicit_lambda% (skolL ?_) | refine no_implicit_lambda% (skolS ?_) | refine no_implicit_lambda% (skolA ?_)); generalize @skz _ _ _ = hl6) | intro hl6
  first | ((first | refine no_implicit_lambda% (skol ?_) | refine no_implicit_lambda% (skolW ?_) | refine no_implicit_lambda% (skolL ?_) | refine no_implicit_lambda% (skolS ?_) | refine no_implicit_lambda% (skolA ?_)); generalize @skz _ _ _ = hlr) | intro hlr
  first | ((first | refine no_implicit_lambda% (skol ?_) | refine no_implicit_lambda% (skolW ?_) | refine no_implicit_lambda% (skolL ?_) | refine no_implicit_lambda% (skolS ?_) | refine no_implicit_lambda% (skolA ?_)); generalize @skz _ _ _ = hhb) | intro hhb
  first | ((first | refine no_implicit_lambda% (skol ?_) | refine no_implicit_lambda% (skolW ?_) | refine no_implicit_lambda% (skolL ?_) | refine no_implicit_lambda% (skolS ?_) | refine no_implicit_lambda% (skolA ?_)); generalize @skz _ _ _ = ht1) | intro ht1
  first | ((first | refine no_implicit_lambda% (skol ?_) | refine no_implicit_lambda% (skolW ?_) | refine no_implicit_lambda% (skolL ?_) | refine no_implicit_lambda% (skolS ?_) | refine no_implicit_lambda% (skolA ?_)); generalize @skz _ _ _ = hsums) | intro hsums
  first | ((first | refine no_implicit_lambda% (skol ?_) | refine no_implicit_lambda% (skolW ?_) | refine no_implicit_lambda% (skolL ?_) | refine no_implicit_lambda% (skolS ?_) | refine no_implicit_lambda% (skolA ?_)); generalize @skz _ _ _ = hrl) | intro hrl
  first | ((first | refine no_implicit_lambda% (skol ?_) | refine no_implicit_lambda% (skolW ?_) | refine no_implicit_lambda% (skolL ?_) | refine no_implicit_lambda% (skolS ?_) | refine no_implicit_lambda% (skolA ?_)); generalize @skz _ _ _ = hrb) | intro hrb
  first | ((first | refine no_implicit_lambda% (skol ?_) | refine no_implicit_lambda% (skolW ?_) | refine no_implicit_lambda% (skolL ?_) | refine no_implicit_lambda% (skolS ?_) | refine no_implicit_lambda% (skolA ?_)); generalize @skz _ _ _ = hf1) | intro hf1
  first | ((first | refine no_implicit_lambda% (skol ?_) | refine no_implicit_lambda% (skolW ?_) | refine no_implicit_lambda% (skolL ?_) | refine no_implicit_lambda% (skolS ?_) | refine no_implicit_lambda% (skolA ?_)); generalize @skz _ _ _ = hsrt) | intro hsrt
  first | ((first | refine no_implicit_lambda% (skol ?_) | refine no_implicit_lambda% (skolW ?_) | refine no_implicit_lambda% (skolL ?_) | refine no_implicit_lambda% (skolS ?_) | refine no_implicit_lambda% (skolA ?_)); generalize @skz _ _ _ = other) | intro other
  first | ((first | refine no_implicit_lambda% (skol ?_) | refine no_implicit_lambda% (skolW ?_) | refine no_implicit_lambda% (skolL ?_) | refine no_implicit_lambda% (skolS ?_) | refine no_implicit_lambda% (skolA ?_)); generalize @skz _ _ _ = ns) | intro ns
  first | ((first | refine no_implicit_lambda% (skol ?_) | refine no_implicit_lambda% (skolW ?_) | refine no_implicit_lambda% (skolL ?_) | refine no_implicit_lambda% (skolS ?_) | refine no_implicit_lambda% (skolA ?_)); generalize @skz _ _ _ = hot) | intro hot
  first | ((first | refine no_implicit_lambda% (skol ?_) | refine no_implicit_lambda% (skolW ?_) | refine no_implicit_lambda% (skolL ?_) | refine no_implicit_lambda% (skolS ?_) | refine no_implicit_lambda% (skolA ?_)); generalize @skz _ _ _ = hol3) | intro hol3
  first | ((first | refine no_implicit_lambda% (skol ?_) | refine no_implicit_lambda% (skolW ?_) | refine no_implicit_lambda% (skolL ?_) | refine no_implicit_lambda% (skolS ?_) | refine no_implicit_lambda% (skolA ?_)); generalize @skz _ _ _ = hol6) | intro hol6
  first | ((first | refine no_implicit_lambda% (skol ?_) | refine no_implicit_lambda% (skolW ?_) | refine no_implicit_lambda% (skolL ?_) | refine no_implicit_lambda% (skolS ?_) | refine no_implicit_lambda% (skolA ?_)); generalize @skz _ _ _ = holr) | intro holr
  first | ((first | refine no_implicit_lambda% (skol ?_) | refine no_implicit_lambda% (skolW ?_) | refine no_implicit_lambda% (skolL ?_) | refine no_implicit_lambda% (skolS ?_) | refine no_implicit_lambda% (skolA ?_)); generalize @skz _ _ _ = hob) | intro hob
  first | ((first | refine no_implicit_lambda% (skol ?_) | refine no_implicit_lambda% (skolW ?_) | refine no_implicit_lambda% (skolL ?_) | refine no_implicit_lambda% (skolS ?_) | refine no_implicit_lambda% (skolA ?_)); generalize @skz _ _ _ = ht2) | intro ht2
  first | ((first | refine no_implicit_lambda% (skol ?_) | refine no_implicit_lambda% (skolW ?_) | refine no_implicit_lambda% (skolL ?_) | refine no_implicit_lambda% (skolS ?_) | refine no_implicit_lambda% (skolA ?_)); generalize @skz _ _ _ = hns) | intro hns
  first | ((first | refine no_implicit_lambda% (skol ?_) | refine no_implicit_lambda% (skolW ?_) | refine no_implicit_lambda% (skolL ?_) | refine no_implicit_lambda% (skolS ?_) | refine no_implicit_lambda% (skolA ?_)); generalize @skz _ _ _ = hnl) | intro hnl
  first | ((first | refine no_implicit_lambda% (skol ?_) | refine no_implicit_lambda% (skolW ?_) | refine no_implicit_lambda% (skolL ?_) | refine no_implicit_lambda% (skolS ?_) | refine no_implicit_lambda% (skolA ?_)); generalize @skz _ _ _ = hnd) | intro hnd
  first | ((first | refine no_implicit_lambda% (skol ?_) | refine no_implicit_lambda% (skolW ?_) | refine no_implicit_lambda% (skolL ?_) | refine no_implicit_lambda% (skolS ?_) | refine no_implicit_lambda% (skolA ?_)); generalize @skz _ _ _ = hnr) | intro hnr
  first | ((first | refine no_implicit_lambda% (skol ?_) | refine no_implicit_lambda% (skolW ?_) | refine no_implicit_lambda% (skolL ?_) | refine no_implicit_lambda% (skolS ?_) | refine no_implicit_lambda% (skolA ?_)); generalize @skz _ _ _ = hf2) | intro hf2
  first | (refine no_implicit_lambda% (skol4 (by first | exact ⟨default⟩ | exact neWorld | exact neShared | exact neAround | exact neLX) (by first | exact ⟨default⟩ | exact neWorld | exact neShared | exact neAround | exact neLX) (by first | exact ⟨default⟩ | exact neWorld | exact neShared | exact neAround | exact neLX) (by first | exact ⟨default⟩ | exact neWorld | exact neShared | exact neAround | exact neLX) ?_); generalize @sk4a _ _ _ _ _ _ _ _ _ = p; generalize @sk4b _ _ _ _ _ _ _ _ _ = loose; generalize @sk4c _ _ _ _ _ _ _ _ _ = mean; generalize @sk4d _ _ _ _ _ _ _ _ _ = mg) | ((first | ((first | refine no_implicit_lambda% (skol ?_) | refine no_implicit_lambda% (skolW ?_) | refine no_implicit_lambda% (skolL ?_) | refine no_implicit_lambda% (skolS ?_) | refine no_implicit_lambda% (skolA ?_)); generalize @skz _ _ _ = p) | intro p); (first | ((first | refine no_implicit_lambda% (skol ?_) | refine no_implicit_lambda% (skolW ?_) | refine no_implicit_lambda% (skolL ?_) | refine no_implicit_lambda% (skolS ?_) | refine no_implicit_lambda% (skolA ?_)); generalize @skz _ _ _ = loose) | intro loose); (first | ((first | refine no_implicit_lambda% (skol ?_) | refine no_implicit_lambda% (skolW ?_) | refine no_implicit_lambda% (skolL ?_) | refine no_implicit_lambda% (skolS ?_) | refine no_implicit_lambda% (skolA ?_)); generalize @skz _ _ _ = mean) | intro mean); (first | ((first | refine no_implicit_lambda% (skol ?_) | refine no_implicit_lambda% (skolW ?_) | refine no_implicit_lambda% (skolL ?_) | refine no_implicit_lambda% (skolS ?_) | refine no_implicit_lambda% (skolA ?_)); generalize @skz _ _ _ = mg) | intro mg))
  first | (refine no_implicit_lambda% (skol4 (by first | exact ⟨default⟩ | exact neWorld | exact neShared | exact neAround | exact neLX) (by first | exact ⟨default⟩ | exact neWorld | exact neShared | exact neAround | exact neLX) (by first | exact ⟨default⟩ | exact neWorld | exact neShared | exact neAround | exact neLX) (by first | exact ⟨default⟩ | exact neWorld | exact neShared | exact neAround | exact neLX) ?_); generalize @sk4a _ _ _ _ _ _ _ _ _ = mb; generalize @sk4b _ _ _ _ _ _ _ _ _ = dp; generalize @sk4c _ _ _ _ _ _ _ _ _ = un; generalize @sk4d _ _ _ _ _ _ _ _ _ = gd) | ((first | ((first | refine no_implicit_lambda% (skol ?_) | refine no_implicit_lambda% (skolW ?_) | refine no_implicit_lambda% (skolL ?_) | refine no_implicit_lambda% (skolS ?_) | refine no_implicit_lambda% (skolA ?_)); generalize @skz _ _ _ = mb) | intro mb); (first | ((first | refine no_implicit_lambda% (skol ?_) | refine no_implicit_lambda% (skolW ?_) | refine no_implicit_lambda% (skolL ?_) | refine no_implicit_lambda% (skolS ?_) | refine no_implicit_lambda% (skolA ?_)); generalize @skz _ _ _ = dp) | intro dp); (first | ((first | refine no_implicit_lambda% (skol ?_) | refine no_implicit_lambda% (skolW ?_) | refine no_implicit_lambda% (skolL ?_) | refine no_implicit_lambda% (skolS ?_) | refine no_implicit_lambda% (skolA ?_)); generalize @skz _ _ _ = un) | intro un); (first | ((first | refine no_implicit_lambda% (skol ?_) | refine no_implicit_lambda% (skolW ?_) | refine no_implicit_lambda% (skolL ?_) | refine no_implicit_lambda% (skolS ?_) | refine no_implicit_lambda% (skolA ?_)); generalize @skz _ _ _ = gd) | intro gd))
  first | (refine no_implicit_lambda% (skol4 (by first | exact ⟨default⟩ | exact neWorld | exact neShared | exact neAround | exact neLX) (by first | exact ⟨default⟩ | exact neWorld | exact neShared | exact neAround | exact neLX) (by first | exact ⟨default⟩ | exact neWorld | exact neShared | exact neAround | exact neLX) (by first | exact ⟨default⟩ | exact neWorld | exact neShared | exact neAround | exact neLX) ?_); generalize @sk4a _ _ _ _ _ _ _ _ _ = outer; generalize @sk4b _ _ _ _ _ _ _ _ _ = A₀; generalize @sk4c _ _ _ _ _ _ _ _ _ = base; generalize @sk4d _ _ _ _ _ _ _ _ _ = g) | ((first | ((first | refine no_implicit_lambda% (skol ?_) | refine no_implicit_lambda% (skolW ?_) | refine no_implicit_lambda% (skolL ?_) | refine no_implicit_lambda% (skolS ?_) | refine no_implicit_lambda% (skolA ?_)); generalize @skz _ _ _ = outer) | intro outer); (first | ((first | refine no_implicit_lambda% (skol ?_) | refine no_implicit_lambda% (skolW ?_) | refine no_implicit_lambda% (skolL ?_) | refine no_implicit_lambda% (skolS ?_) | refine no_implicit_lambda% (skolA ?_)); generalize @skz _ _ _ = A₀) | intro A₀); (first | ((first | refine no_implicit_lambda% (skol ?_) | refine no_implicit_lambda% (skolW ?_) | refine no_implicit_lambda% (skolL ?_) | refine no_implicit_lambda% (skolS ?_) | refine no_implicit_lambda% (skolA ?_)); generalize @skz _ _ _ = base) | intro base); (first | ((first | refine no_implicit_lambda% (skol ?_) | refine no_implicit_lambda% (skolW ?_) | refine no_implicit_lambda% (skolL ?_) | refine no_implicit_lambda% (skolS ?_) | refine no_implicit_lambda% (skolA ?_)); generalize @skz _ _ _ = g) | intro g))
  first | (refine no_implicit_lambda% (skol4 (by first | exact ⟨default⟩ | exact neWorld | exact neShared | exact neAround | exact neLX) (by first | exact ⟨default⟩ | exact neWorld | exact neShared | exact neAround | exact neLX) (by first | exact ⟨default⟩ | exact neWorld | exact neShared | exact neAround | exact neLX) (by first | exact ⟨default⟩ | exact neWorld | exact neShared | exact neAround | exact neLX) ?_); generalize @sk4a _ _ _ _ _ _ _ _ _ = L'; generalize @sk4b _ _ _ _ _ _ _ _ _ = s; generalize @sk4c _ _ _ _ _ _ _ _ _ = s₀; generalize @sk4d _ _ _ _ _ _ _ _ _ = hh) | ((first | ((first | refine no_implicit_lambda% (skol ?_) | refine no_implicit_lambda% (skolW ?_) | refine no_implicit_lambda% (skolL ?_) | refine no_implicit_lambda% (skolS ?_) | refine no_implicit_lambda% (skolA ?_)); generalize @skz _ _ _ = L') | intro L'); (first | ((first | refine no_implicit_lambda% (skol ?_) | refine no_implicit_lambda% (skolW ?_) | refine no_implicit_lambda% (skolL ?_) | refine no_implicit_lambda% (skolS ?_) | refine no_implicit_lambda% (skolA ?_)); generalize @skz _ _ _ = s) | intro s); (first | ((first | refine no_implicit_lambda% (skol ?_) | refine no_implicit_lambda% (skolW ?_) | refine no_implicit_lambda% (skolL ?_) | refine no_implicit_lambda% (skolS ?_) | refine no_implicit_lambda% (skolA ?_)); generalize @skz _ _ _ = s₀) | intro s₀); (first | ((first | refine no_implicit_lambda% (skol ?_) | refine no_implicit_lambda% (skolW ?_) | refine no_implicit_lambda% (skolL ?_) | refine no_implicit_lambda% (skolS ?_) | refine no_implicit_lambda% (skolA ?_)); generalize @skz _ _ _ = hh) | intro hh))
  first | ((first | refine no_implicit_lambda% (skol ?_) | refine no_implicit_lambda% (skolW ?_) | refine no_implicit_lambda% (skolL ?_) | refine no_implicit_lambda% (skolS ?_) | refine no_implicit_lambda% (skolA ?_)); generalize @skz _ _ _ = tk₀) | intro tk₀
  first | ((first | refine no_implicit_lambda% (skol ?_) | refine no_implicit_lambda% (skolW ?_) | refine no_implicit_lambda% (skolL ?_) | refine no_implicit_lambda% (skolS ?_) | refine no_implicit_lambda% (skolA ?_)); generalize @skz _ _ _ = hs) | intro hs
  first | ((first | refine no_implicit_lambda% (skol ?_) | refine no_implicit_lambda% (skolW ?_) | refine no_implicit_lambda% (skolL ?_) | refine no_implicit_lambda% (skolS ?_) | refine no_implicit_lambda% (skolA ?_)); generalize @skz _ _ _ = m₀) | intro m₀
  first | ((first | refine no_implicit_lambda% (skol ?_) | refine no_implicit_lambda% (skolW ?_) | refine no_implicit_lambda% (skolL ?_) | refine no_implicit_lambda% (skolS ?_) | refine no_implicit_lambda% (skolA ?_)); generalize @skz _ _ _ = x0) | intro x0
  first | ((first | refine no_implicit_lambda% (skol ?_) | refine no_implicit_lambda% (skolW ?_) | refine no_implicit_lambda% (skolL ?_) | refine no_implicit_lambda% (skolS ?_) | refine no_implicit_lambda% (skolA ?_)); generalize @skz _ _ _ = x1) | intro x1
  first | ((first | refine no_implicit_lambda% (skol ?_) | refine no_implicit_lambda% (skolW ?_) | refine no_implicit_lambda% (skolL ?_) | refine no_implicit_lambda% (skolS ?_) | refine no_implicit_lambda% (skolA ?_)); generalize @skz _ _ _ = x2) | intro x2
  first | ((first | refine no_implicit_lambda% (skol ?_) | refine no_implicit_lambda% (skolW ?_) | refine no_implicit_lambda% (skolL ?_) | refine no_implicit_lambda% (skolS ?_) | refine no_implicit_lambda% (skolA ?_)); generalize @skz _ _ _ = x3) | intro x3
  first | ((first | refine no_implicit_lambda% (skol ?_) | refine no_implicit_lambda% (skolW ?_) | refine no_implicit_lambda% (skolL ?_) | refine no_implicit_lambda% (skolS ?_) | refine no_implicit_lambda% (skolA ?_)); generalize @skz _ _ _ = x4) | intro x4
  first | ((first | refine no_implicit_lambda% (skol ?_) | refine no_implicit_lambda% (skolW ?_) | refine no_implicit_lambda% (skolL ?_) | refine no_implicit_lambda% (skolS ?_) | refine no_implicit_lambda% (skolA ?_)); generalize @skz _ _ _ = x5) | intro x5
  first | ((first | refine no_implicit_lambda% (skol ?_) | refine no_implicit_lambda% (skolW ?_) | refine no_implicit_lambda% (skolL ?_) | refine no_implicit_lambda% (skolS ?_) | refine no_implicit_lambda% (skolA ?_)); generalize @skz _ _ _ = y0) | intro y0
  first | ((first | refine no_implicit_lambda% (skol ?_) | refine no_implicit_lambda% (skolW ?_) | refine no_implicit_lambda% (skolL ?_) | refine no_implicit_lambda% (skolS ?_) | refine no_implicit_lambda% (skolA ?_)); generalize @skz _ _ _ = y1) | intro y1
  first | ((first | refine no_implicit_lambda% (skol ?_) | refine no_implicit_lambda% (skolW ?_) | refine no_implicit_lambda% (skolL ?_) | refine no_implicit_lambda% (skolS ?_) | refine no_implicit_lambda% (skolA ?_)); generalize @skz _ _ _ = y2) | intro y2
  first | ((first | refine no_implicit_lambda% (skol ?_) | refine no_implicit_lambda% (skolW ?_) | refine no_implicit_lambda% (skolL ?_) | refine no_implicit_lambda% (skolS ?_) | refine no_implicit_lambda% (skolA ?_)); generalize @skz _ _ _ = y3) | intro y3
  first | ((first | refine no_implicit_lambda% (skol ?_) | refine no_implicit_lambda% (skolW ?_) | refine no_implicit_lambda% (skolL ?_) | refine no_implicit_lambda% (skolS ?_) | refine no_implicit_lambda% (skolA ?_)); generalize @skz _ _ _ = y4) | intro y4
  first | ((first | refine no_implicit_lambda% (skol ?_) | refine no_implicit_lambda% (skolW ?_) | refine no_implicit_lambda% (skolL ?_) | refine no_implicit_lambda% (skolS ?_) | refine no_implicit_lambda% (skolA ?_)); generalize @skz _ _ _ = y5) | intro y5
  first | ((first | refine no_implicit_lambda% (skol ?_) | refine no_implicit_lambda% (skolW ?_) | refine no_implicit_lambda% (skolL ?_) | refine no_implicit_lambda% (skolS ?_) | refine no_implicit_lambda% (skolA ?_)); generalize @skz _ _ _ = y6) | intro y6
  first | ((first | refine no_implicit_lambda% (skol ?_) | refine no_implicit_lambda% (skolW ?_) | refine no_implicit_lambda% (skolL ?_) | refine no_implicit_lambda% (skolS ?_) | refine no_implicit_lambda% (skolA ?_)); generalize @skz _ _ _ = y7) | intro y7
  first | ((first | refine no_implicit_lambda% (skol ?_) | refine no_implicit_lambda% (skolW ?_) | refine no_implicit_lambda% (skolL ?_) | refine no_implicit_lambda% (skolS ?_) | refine no_implicit_lambda% (skolA ?_)); generalize @skz _ _ _ = y8) | intro y8
  first | ((first | refine no_implicit_lambda% (skol ?_) | refine no_implicit_lambda% (skolW ?_) | refine no_implicit_lambda% (skolL ?_) | refine no_implicit_lambda% (skolS ?_) | refine no_implicit_lambda% (skolA ?_)); generalize @skz _ _ _ = y9) | intro y9
  first | ((first | refine no_implicit_lambda% (skol ?_) | refine no_implicit_lambda% (skolW ?_) | refine no_implicit_lambda% (skolL ?_) | refine no_implicit_lambda% (skolS ?_) | refine no_implicit_lambda% (skolA ?_)); generalize @skz _ _ _ = y10) | intro y10
  first | ((first | refine no_implicit_lambda% (skol ?_) | refine no_implicit_lambda% (skolW ?_) | refine no_implicit_lambda% (skolL ?_) | refine no_implicit_lambda% (skolS ?_) | refine no_implicit_lambda% (skolA ?_)); generalize @skz _ _ _ = y11) | intro y11
  first | ((first | refine no_implicit_lambda% (skol ?_) | refine no_implicit_lambda% (skolW ?_) | refine no_implicit_lambda% (skolL ?_) | refine no_implicit_lambda% (skolS ?_) | refine no_implicit_lambda% (skolA ?_)); generalize @skz _ _ _ = B) | intro B
  first | ((first | refine no_implicit_lambda% (skol ?_) | refine no_implicit_lambda% (skolW ?_) | refine no_implicit_lambda% (skolL ?_) | refine no_implicit_lambda% (skolS ?_) | refine no_implicit_lambda% (skolA ?_)); generalize @skz _ _ _ = F) | intro F
  first | ((first | refine no_implicit_lambda% (skol ?_) | refine no_implicit_lambda% (skolW ?_) | refine no_implicit_lambda% (skolL ?_) | refine no_implicit_lambda% (skolS ?_) | refine no_implicit_lambda% (skolA ?_)); generalize @skz _ _ _ = X) | intro X
  first | ((first | refine no_implicit_lambda% (skol ?_) | refine no_implicit_lambda% (skolW ?_) | refine no_implicit_lambda% (skolL ?_) | refine no_implicit_lambda% (skolS ?_) | refine no_implicit_lambda% (skolA ?_)); generalize @skz _ _ _ = N) | intro N
  first | ((first | refine no_implicit_lambda% (skol ?_) | refine no_implicit_lambda% (skolW ?_) | refine no_implicit_lambda% (skolL ?_) | refine no_implicit_lambda% (skolS ?_) | refine no_implicit_lambda% (skolA ?_)); generalize @skz _ _ _ = T) | intro T
  first | ((first | refine no_implicit_lambda% (skol ?_) | refine no_implicit_lambda% (skolW ?_) | refine no_implicit_lambda% (skolL ?_) | refine no_implicit_lambda% (skolS ?_) | refine no_implicit_lambda% (skolA ?_)); generalize @skz _ _ _ = hd) | intro hd
  first | ((first | refine no_implicit_lambda% (skol ?_) | refine no_implicit_lambda% (skolW ?_) | refine no_implicit_lambda% (skolL ?_) | refine no_implicit_lambda% (skolS ?_) | refine no_implicit_lambda% (skolA ?_)); generalize @skz _ _ _ = hu) | intro hu
  subst hs
  dsimp only at F N
  conv at hrest => (lhs; whnf)
  subst hrest
  conv at hsc => (lhs; whnf)
  cases hsc
  skip -- x0 x1 x2 x3 x4 x5
  obtain ⟨_, _, _, _, _, _, _, _, _, _, _⟩ := ten x0
  obtain ⟨_, _, _, _, _, _, _, _, _, _, _⟩ := ten x1
  obtain ⟨_, _, _, _, _, _, _, _, _, _, _⟩ := ten x2
  obtain ⟨_, _, _, _, _, _, _, _, _, _, _⟩ := ten x3
  obtain ⟨_, _, _, _, _, _, _, _, _, _, _⟩ := ten x4
  obtain ⟨_, _, _, _, _, _, _, _, _, _, _⟩ := ten x5
  dsimp only [lexL, List.cons_append, List.nil_append] at N
  have hK0 : (fun w : World => Mine.hd0.heap_1_1 w.params, PySem.Challenge.rw_to0042_01) = (fun w : World => Mine.hd0.heap_1_1 w.params, PySem.Challenge.rw_to0042_01) := by (k_fill; rfl)
  clear hK0
  k_steps
  refine Hold.mk ?_
  rename Fr _ _ _ _ => F'
  rename News _ _ _ _ => N'
  have N2 := led_sub (b := (aO, W.listOf rv.toArray rn) :: (lexL w I ln k tl tkk n [] nb ++ [(ca, W.listOf hv.toArray cn), (L' + 1, oS), (147, tabObj #[]), (123, tabObj ps1), (102, tabObj ps2)])) N' (by
    dsimp only [lexL, List.cons_append, List.nil_append]
    repeat' (first | (refine List.forall_mem_cons.mpr ⟨?_, ?_⟩) | exact List.forall_mem_nil _)
    all_goals (repeat (first | exact List.Mem.head _ | apply List.Mem.tail)))
  clear N'
  dsimp only [lexL, List.cons_append, List.nil_append] at N2
  refine' ctr_use (getl_ctr w I restO ln k tl tkk n nb hI hat hln0 hln (lex_end hst)) ?kB ?kF ?kX ?kN ?kT ?kcs ?kd ?ku ?kp ?k1 ?k2 ?_
  case kB => k_asm
  case kF => k_asm
  case kX => k_asm
  case kN => k_asm
  case kT => k_asm
  case kcs => rfl
  case kd => exact d_le hd (Nat.le_of_ble_eq_true rfl)
  case ku => exact u_le hu (Nat.le_of_ble_eq_true rfl)
  case kp => trivial
  case k1 => first | k_all | fail "k1"
  case k2 => first | k_all | fail "k2"
  intro r kept new h' tk' F' N' hpost
  obtain ⟨t', k', tl', tk', e1, e2, hat', e3⟩ := hpost
  subst e1 e2 e3
  dsimp only [ApartAll, Apart1]
  dsimp only [lexL, List.append_nil, List.nil_append, List.cons_append] at N'
  clear N2
  k_steps
  · refine Hold.mk ?_
    rename Fr _ _ _ _ => F'
    rename News _ _ _ _ => N'
    rename IntsAre _ hall => hF9
    refine' law_b w _ _ rfl rfl f cdv seats I hI 7 _ _ _ ts _ _ [] hat' (.inl ⟨rfl, rfl⟩) (by decide) (by decide) hv cs cn ca hcs hcl s3 s6 oS hoS ps1 ps2 aO rv ri rn hri hall hrise hl3 hl6 hlr hhb ht1 hsums other ns hot hol3 hol6 holr hob ht2 hns hnl hnd hnr hf2 _ _ _ hF9 p loose mean mg mb dp un gd outer A₀ base g L' _ s₀ _ _ rfl m₀ ?x0 ?x1 ?x2 ?x3 ?x4 ?x5 ?x6 ?y0 ?y1 ?y2 ?y3 ?y4 ?y5 ?y6 ?y7 ?y8 ?y9 ?y10 ?y11 ?y12 ?y13 ?y14 ?y15 ?y16 ?y17 B F' X (led_sub N' ?sub) T hd hu
    case sub =>
      dsimp only [lexL, List.cons_append, List.nil_append]
      repeat' (first | (refine List.forall_mem_cons.mpr ⟨?_, ?_⟩) | exact List.forall_mem_nil _)
      all_goals (repeat (first | exact List.Mem.head _ | apply List.Mem.tail))
    all_goals first | k_ne | ((repeat' (refine List.forall_mem_cons.mpr ⟨by k_ne, ?_⟩)); exact List.forall_mem_nil _)
  · rename List.Pairwise _ _ => hp5
    rename List.Perm _ _ => hq5
    exact absurd (hsrt _ hq5 hp5) (by assumption)
end Mine
end
section
open PySem PySem.W PyProof.Rows PySem.Calls
set_option maxRecDepth 100000
namespace Mine
def descL : Nat → Nat → List (List Int)
  | 0, _ => [[]]
  | n + 1, m => (List.range m).flatMap fun i => (descL n (i + 1)).map fun r => ((i + 1 : Nat) : Int) :: r
def resL : Nat → List (List Int)
  | 0 => [[]]
  | n + 1 => [0, 1, 2].flatMap fun i => (resL n).map fun r => (i : Int) :: r
def chkH (seats : Int) (ri : List Int) : Bool :=
  match fillR 3 seats ri with
  | (hall, pb) => decide (pb = []) && decide (riseS hall = []) && decide (3 ≤ hall.length) && decide (hall.length ≤ 6) && decide ((hall.length : Int) ≤ seats) && hall.all (fun z => decide (0 ≤ z) && decide (z < 100)) && decide (toldP seats hall = some ri) && decide ((evens hall).sum = ri.sum) && decide ((odds hall).sum = ri.sum - 6)
def descB : List Int → Bool
  | [] => true
  | [_] => true
  | a :: b :: r => decide (b ≤ a) && descB (b :: r)
def chkO (seats : Int) (zs : List Int) : Bool :=
  match (drawS zs (seats - 1).toNat).reverse with
  | other => match toldP seats other with
    | none => false
    | some ns => decide (3 ≤ other.length) && decide (other.length ≤ 6) && decide ((other.length : Int) ≤ seats) && other.all (fun z => decide (0 ≤ z) && decide (z < 100)) && ns.all (fun z => decide (1 ≤ z) && decide (z ≤ seats)) && decide (ns.length ≤ 60) && descB ns && decide (fillR 3 seats ns = (other, []))
theorem chk_h3 : (descL 6 3).all (chkH 3) = true := by decide +kernel
theorem chk_h4 : (descL 6 4).all (chkH 4) = true := by decide +kernel
theorem chk_h5 : (descL 6 5).all (chkH 5) = true := by decide +kernel
theorem chk_h6a : ((List.range 5).flatMap fun i => (descL 5 (i + 1)).map fun r => ((i + 1 : Nat) : Int) :: r).all (chkH 6) = true := by decide +kernel
theorem chk_h6b : ((descL 5 6).map fun r => ((5 + 1 : Nat) : Int) :: r).all (chkH 6) = true := by decide +kernel
theorem chk_o3 : (resL 3).all (chkO 3) = true := by decide +kernel
theorem chk_o4 : (resL 4).all (chkO 4) = true := by decide +kernel
theorem chk_o5 : (resL 5).all (chkO 5) = true := by decide +kernel
theorem chk_o60 : ((resL 5).map fun r => (0 : Int) :: r).all (chkO 6) = true := by decide +kernel
theorem chk_o61 : ((resL 5).map fun r => (1 : Int) :: r).all (chkO 6) = true := by decide +kernel
theorem chk_o62 : ((resL 5).map fun r => (2 : Int) :: r).all (chkO 6) = true := by decide +kernel
theorem chk_h6 : (descL 6 6).all (chkH 6) = true := by
  rw [descL, show List.range 6 = List.range 5 ++ [5] from rfl, List.flatMap_append, List.all_append, chk_h6a, Bool.true_and]
  rw [List.flatMap_cons, List.flatMap_nil, List.append_nil]
  exact chk_h6b
theorem chk_o6 : (resL 6).all (chkO 6) = true := by
  rw [resL, List.flatMap_cons, List.flatMap_cons, List.flatMap_cons, List.flatMap_nil, List.append_nil, List.all_append, List.all_append, chk_o60, chk_o61, chk_o62]
  rfl
theorem descL_mem : ∀ (n m : Nat) (ri : List Int), ri.length = n → ri.Pairwise (fun x y => y ≤ x) → (∀ z ∈ ri, 1 ≤ z ∧ z ≤ (m : Int)) → ri ∈ descL n m
  | 0, m, [], _, _, _ => List.mem_singleton.mpr rfl
  | n + 1, m, a :: r, hl, hp, hb => by
    rw [List.pairwise_cons] at hp
    obtain ⟨h1, h2⟩ := hb a (.head _)
    obtain ⟨i, hi⟩ : ∃ i : Nat, a = ((i + 1 : Nat) : Int) := ⟨(a - 1).toNat, by omega⟩
    subst hi
    rw [descL, List.mem_flatMap]
    refine ⟨i, List.mem_range.mpr (by omega), List.mem_map.mpr ⟨r, descL_mem n (i + 1) r (by simpa using hl) hp.2 (fun z hz => ⟨(hb z (.tail _ hz)).1, hp.1 z hz⟩), rfl⟩⟩
theorem resL_mem : ∀ (n : Nat) (zs : List Int), zs.length = n → (∀ z ∈ zs, 0 ≤ z ∧ z < 3) → zs ∈ resL n
  | 0, [], _, _ => List.mem_singleton.mpr rfl
  | n + 1, z :: r, hl, hb => by
    obtain ⟨h1, h2⟩ := hb z (.head _)
    rw [resL, List.mem_flatMap]
    refine ⟨z, ?_, List.mem_map.mpr ⟨r, resL_mem n r (by simpa using hl) (fun y hy => hb y (.tail _ hy)), rfl⟩⟩
    have : z = 0 ∨ z = 1 ∨ z = 2 := by omega
    rcases this with rfl | rfl | rfl <;> simp
theorem draw_congr {zs ws : List Int} : ∀ (n : Nat), (∀ i, i ≤ n → (zs.getD i 0).fmod 3 = (ws.getD i 0).fmod 3) → drawS zs n = drawS ws n
  | 0, h => by rw [drawS, drawS, h 0 (Nat.le_refl _)]
  | n + 1, h => by rw [drawS, drawS, draw_congr n (fun i hi => h i (by omega)), h (n + 1) (Nat.le_refl _)]
theorem descB_pair : ∀ {l : List Int}, descB l = true → l.Pairwise (fun x y => y ≤ x)
  | [], _ => .nil
  | [_], _ => List.pairwise_singleton _ _
  | a :: b :: r, h => by
    rw [descB, Bool.and_eq_true, decide_eq_true_eq] at h
    have ih := descB_pair h.2
    refine List.pairwise_cons.mpr ⟨fun y hy => ?_, ih⟩
    rcases List.mem_cons.mp hy with rfl | hy
    · exact h.1
    · have := (List.pairwise_cons.mp ih).1 y hy
      omega
theorem chkO_ok {seats : Int} {zs : List Int} (s6 : seats ≤ 6) (h : chkO seats zs = true) : ∃ ns, 3 ≤ (drawS zs (seats - 1).toNat).reverse.length ∧ (drawS zs (seats - 1).toNat).reverse.length ≤ 6 ∧ ((drawS zs (seats - 1).toNat).reverse.length : Int) ≤ seats ∧ (∀ z ∈ (drawS zs (seats - 1).toNat).reverse, 0 ≤ z ∧ z < 100) ∧ toldP seats (drawS zs (seats - 1).toNat).reverse = some ns ∧ (∀ z ∈ ns, 1 ≤ z ∧ z ≤ 6) ∧ ns.length ≤ 60 ∧ ns.Pairwise (fun x y => y ≤ x) ∧ (∀ z ∈ ns, 1 ≤ z ∧ z ≤ seats) ∧ fillR 3 seats ns = ((drawS zs (seats - 1).toNat).reverse, []) := by
  unfold chkO at h
  generalize (drawS zs (seats - 1).toNat).reverse = other at h ⊢
  dsimp only at h
  cases ht : toldP seats other with
  | none => rw [ht] at h; cases h
  | some ns =>
    rw [ht] at h
    simp only [Bool.and_eq_true, decide_eq_true_eq, List.all_eq_true] at h
    obtain ⟨⟨⟨⟨⟨⟨⟨a1, a2⟩, a3⟩, a4⟩, a5⟩, a6⟩, a7⟩, a8⟩ := h
    exact ⟨ns, a1, a2, a3, a4, rfl, fun z hz => ⟨(a5 z hz).1, by have := (a5 z hz).2; omega⟩, a6, descB_pair a7, a5, a8⟩
theorem chkH_ok {seats : Int} {ri : List Int} (h : chkH seats ri = true) : ∃ hall, fillR 3 seats ri = (hall, []) ∧ riseS hall = [] ∧ 3 ≤ hall.length ∧ hall.length ≤ 6 ∧ (hall.length : Int) ≤ seats ∧ (∀ z ∈ hall, 0 ≤ z ∧ z < 100) ∧ toldP seats hall = some ri ∧ SumsOk hall ri := by
  unfold chkH at h
  cases hf : fillR 3 seats ri with
  | mk hall pb =>
    rw [hf] at h
    simp only [Bool.and_eq_true, decide_eq_true_eq, List.all_eq_true] at h
    obtain ⟨⟨⟨⟨⟨⟨⟨⟨a0, a1⟩, a2⟩, a3⟩, a4⟩, a5⟩, a6⟩, a7⟩, a8⟩ := h
    subst a0
    exact ⟨hall, rfl, a1, a2, a3, a4, a5, a6, a7, a8⟩
theorem all_h {seats : Int} (s3 : 3 ≤ seats) (s6 : seats ≤ 6) {ri : List Int} (hl : ri.length = 6) (hp : ri.Pairwise (fun x y => y ≤ x)) (hb : ∀ z ∈ ri, 1 ≤ z ∧ z ≤ seats) : chkH seats ri = true := by
  have h9 : seats = 3 ∨ seats = 4 ∨ seats = 5 ∨ seats = 6 := by omega
  rcases h9 with rfl | rfl | rfl | rfl
  · exact List.all_eq_true.mp chk_h3 _ (descL_mem 6 3 ri hl hp hb)
  · exact List.all_eq_true.mp chk_h4 _ (descL_mem 6 4 ri hl hp hb)
  · exact List.all_eq_true.mp chk_h5 _ (descL_mem 6 5 ri hl hp hb)
  · exact List.all_eq_true.mp chk_h6 _ (descL_mem 6 6 ri hl hp hb)
theorem all_o {seats : Int} (s3 : 3 ≤ seats) (s6 : seats ≤ 6) (zs : List Int) : chkO seats zs = true := by
  have hw : ∀ n : Nat, ((List.range n).map fun i => (zs.getD i 0).fmod 3) ∈ resL n := fun n => resL_mem n _ (by simp) (fun z hz => by
    obtain ⟨i, _, rfl⟩ := List.mem_map.mp hz
    exact ⟨Int.fmod_nonneg_of_pos _ (by decide), Int.fmod_lt_of_pos _ (by decide)⟩)
  have hc : ∀ n : Nat, drawS zs n = drawS ((List.range (n + 1)).map fun i => (zs.getD i 0).fmod 3) n := fun n => draw_congr n fun i hi => by
    have e : (((List.range (n + 1)).map fun i => (zs.getD i 0).fmod 3).getD i 0) = (zs.getD i 0).fmod 3 := by
      rw [List.getD_eq_getElem?_getD, List.getElem?_map, List.getElem?_range (by omega)]
      rfl
    rw [e, Int.fmod_eq_emod_of_nonneg _ (by decide), Int.fmod_eq_emod_of_nonneg _ (by decide), Int.emod_emod_of_dvd _ (Int.dvd_refl 3)]
  have h9 : seats = 3 ∨ seats = 4 ∨ seats = 5 ∨ seats = 6 := by omega
  rcases h9 with rfl | rfl | rfl | rfl
  · have := List.all_eq_true.mp chk_o3 _ (hw 3)
    unfold chkO at this ⊢
    rw [show ((3 : Int) - 1).toNat = 2 from rfl] at this ⊢
    rw [hc 2]; exact this
  · have := List.all_eq_true.mp chk_o4 _ (hw 4)
    unfold chkO at this ⊢
    rw [show ((4 : Int) - 1).toNat = 3 from rfl] at this ⊢
    rw [hc 3]; exact this
  · have := List.all_eq_true.mp chk_o5 _ (hw 5)
    unfold chkO at this ⊢
    rw [show ((5 : Int) - 1).toNat = 4 from rfl] at this ⊢
    rw [hc 4]; exact this
  · have := List.all_eq_true.mp chk_o6 _ (hw 6)
    unfold chkO at this ⊢
    rw [show ((6 : Int) - 1).toNat = 5 from rfl] at this ⊢
    rw [hc 5]; exact this
def PureOk (seats : Int) (cs ri hall other ns : List Int) : Prop :=
  (ri.length = 6 ∧ (∀ z ∈ ri, 1 ≤ z ∧ z ≤ 6) ∧ fillR 3 seats ri = (hall, []) ∧ ∀ l : List Int, l.Perm (List.map (fun k' => 1 + k'.fmod seats) (List.take (min 7 cs.length - 1) (List.drop 1 cs))) → l.Pairwise (fun x y => y ≤ x) → ri = l) ∧
  (riseS hall = [] ∧ 3 ≤ hall.length ∧ hall.length ≤ 6 ∧ (hall.length : Int) ≤ seats ∧ (∀ z ∈ hall, 0 ≤ z ∧ z < 100) ∧ toldP seats hall = some ri ∧ SumsOk hall ri) ∧
  ((drawS (List.drop 7 cs) (seats - 1).toNat).reverse = other ∧ 3 ≤ other.length ∧ other.length ≤ 6 ∧ (other.length : Int) ≤ seats ∧ (∀ z ∈ other, 0 ≤ z ∧ z < 100) ∧ toldP seats other = some ns ∧ (∀ z ∈ ns, 1 ≤ z ∧ z ≤ 6) ∧ ns.length ≤ 60 ∧ ns.Pairwise (fun x y => y ≤ x) ∧ (∀ z ∈ ns, 1 ≤ z ∧ z ≤ seats) ∧ fillR 3 seats ns = (other, []))
theorem pure_all {seats : Int} {cs ri : List Int} (s3 : 3 ≤ seats) (s6 : seats ≤ 6) (hcl : cs.length = 13) (hb : ∀ x ∈ cs, 0 ≤ x ∧ x < 2000) (hd : Desc ri) (hp : ri.Perm ((List.take (min 7 cs.length - 1) (List.drop 1 cs)).map fun c => 14 + c.fmod seats - 13)) : ∃ hall other ns, PureOk seats cs ri hall other ns := by
  have e12 : (List.take (min 7 cs.length - 1) (List.drop 1 cs)).map (fun c => 14 + c.fmod seats - 13) = List.map (fun k' => 1 + k'.fmod seats) (List.take (min 7 cs.length - 1) (List.drop 1 cs)) := List.map_congr_left fun c _ => by omega
  have hl6 : ri.length = 6 := by
    rw [hp.length_eq, List.length_map, List.length_take, List.length_drop]; omega
  have hb1 : ∀ z ∈ ri, 1 ≤ z ∧ z ≤ seats := fun z hz => by
    obtain ⟨c, _, rfl⟩ := List.mem_map.mp (hp.mem_iff.mp hz)
    have h1 := Int.fmod_nonneg_of_pos c (show 0 < seats by omega)
    have h2 := Int.fmod_lt_of_pos c (show 0 < seats by omega)
    omega
  obtain ⟨hall, c1, c2, c3, c4, c5, c6, c7, c8⟩ := chkH_ok (all_h s3 s6 hl6 (desc_pair hd) hb1)
  obtain ⟨ns, d1, d2, d3, d4, d5, d6, d7, d8, d9, d10⟩ := chkO_ok s6 (all_o s3 s6 (List.drop 7 cs))
  refine ⟨hall, _, ns, ⟨hl6, fun z hz => ⟨(hb1 z hz).1, by have := (hb1 z hz).2; omega⟩, c1, fun l hl hlp => ?_⟩, ⟨c2, c3, c4, c5, c6, c7, c8⟩, ⟨rfl, d1, d2, d3, d4, d5, d6, d7, d8, d9, d10⟩⟩
  rw [e12] at hp
  exact desc_uniq (desc_pair hd) hlp (hp.trans hl.symm)
end Mine
end
section
open PySem PySem.W PyProof.Rows PySem.Calls
set_option maxRecDepth 100000
namespace Mine
local macro_rules | `(tactic| k_ne) => `(tactic| first | assumption | exact ne_flip (by assumption) | exact Nat.ne_of_gt (by assumption) | exact Nat.ne_of_lt (by assumption))
local macro_rules | `(tactic| walk_at "call ref") => `(tactic| (k_here; (with_reducible show wpAny _ _ (call (Value.ref _) _ _) _ _ _); refine Hold.out ?_))
local macro_rules | `(tactic| walk_at "execs cons") => `(tactic| (k_here; (with_reducible show wpAny _ _ (execs (Stmt.If _ _ _ ⟨249, _, _, _⟩ :: _) _) _ _ _); refine Hold.out ?_))
namespace hd
def tw10111801491309104144 : Nat := 0
def tw1011335219593555734 : Nat := 0
def tw10170382586518783626 : Nat := 0
def tw10246146449241189800 : Nat := 0
def tw10258999931320997221 : Nat := 0
def tw10403243965636340961 : Nat := 0
def tw10458740792067480800 : Nat := 0
def tw10601615944963115059 : Nat := 0
def tw11032806212648032379 : Nat := 0
def tw11117797201346649052 : Nat := 0
def tw11136197038861592535 : Nat := 0
def tw11210553801493137410 : Nat := 0
def tw11319097763535126812 : Nat := 0
def tw11465210709893060100 : Nat := 0
def tw11631947586910100387 : Nat := 0
def tw11652457597714270106 : Nat := 0
def tw11669539578447061892 : Nat := 0
def tw11917015161858427179 : Nat := 0
def tw11953376511379268794 : Nat := 0
def tw12023040214023829324 : Nat := 0
def tw12029232840203039309 : Nat := 0
def tw1222794163293265305 : Nat := 0
def tw12271959270614036898 : Nat := 0
def tw12487502673411948298 : Nat := 0
def tw12588582704262371052 : Nat := 0
def tw12801095385675086049 : Nat := 0
def tw13330244855972007585 : Nat := 0
def tw13518370688599389936 : Nat := 0
def tw13770079208771991547 : Nat := 0
def tw13828106393651249627 : Nat := 0
def tw1382963296337349011 : Nat := 0
def tw13855881374063213867 : Nat := 0
def tw14052039701678915610 : Nat := 0
def tw1413172679324656950 : Nat := 0
def tw14168552714766633299 : Nat := 0
def tw14246236162039180721 : Nat := 0
def tw1452929260906041252 : Nat := 0
def tw14727110085682223627 : Nat := 0
def tw1506431575118746342 : Nat := 0
def tw15089522573102190283 : Nat := 0
def tw15102090666084957471 : Nat := 0
def tw15103106377680225435 : Nat := 0
def tw15368132723985388332 : Nat := 0
def tw15527848837575444561 : Nat := 0
def tw15595854959937240912 : Nat := 0
def tw15616948245753086127 : Nat := 0
def tw15759970867653108152 : Nat := 0
def tw15790720579355451973 : Nat := 0
def tw1580110805410547442 : Nat := 0
def tw15833661619300960221 : Nat := 0
def tw15837987909243819085 : Nat := 0
def tw15967140613478806237 : Nat := 0
def tw1600037746751723098 : Nat := 0
def tw16007149819294483003 : Nat := 0
def tw16037735763661986305 : Nat := 0
def tw16056359734778111409 : Nat := 0
def tw16064382804478563927 : Nat := 0
def tw16091413853298234908 : Nat := 0
def tw1610231985418273788 : Nat := 0
def tw16259696140248634718 : Nat := 0
def tw16345102440705955213 : Nat := 0
def tw16432713993328977331 : Nat := 0
def tw16477043939570097188 : Nat := 0
def tw16828841361933241965 : Nat := 0
def tw16868993833207775613 : Nat := 0
def tw17054507655720011243 : Nat := 0
def tw17062030032774818151 : Nat := 0
def tw17087091549796120035 : Nat := 0
def tw17177331786930743035 : Nat := 0
def tw17183224562656869120 : Nat := 0
def tw17252143746492648416 : Nat := 0
def tw17447410573909459338 : Nat := 0
def tw17574625026820762457 : Nat := 0
def tw17650839729002327288 : Nat := 0
def tw17673860158736603733 : Nat := 0
def tw17893044597097874663 : Nat := 0
def tw17950676927832955104 : Nat := 0
def tw1800889605409440832 : Nat := 0
def tw18264374347568628810 : Nat := 0
def tw18300207936620678264 : Nat := 0
def tw18322514126500204803 : Nat := 0
def tw18343703819029505601 : Nat := 0
def tw189712035060473897 : Nat := 0
def tw2068664650715991707 : Nat := 0
def tw2114630138375439770 : Nat := 0
def tw2167537188350426706 : Nat := 0
def tw2195365466389143174 : Nat := 0
def tw22551697357593593 : Nat := 0
def tw2274498078352570744 : Nat := 0
def tw2386827423013361158 : Nat := 0
def tw2641799114124571417 : Nat := 0
def tw2708950531961675432 : Nat := 0
def tw2780625817919758106 : Nat := 0
def tw2887051446865420828 : Nat := 0
def tw3039998526598829958 : Nat := 0
def tw3219085151875037572 : Nat := 0
def tw3229955645248102723 : Nat := 0
def tw3259873300814134281 : Nat := 0
def tw3451239065008710300 : Nat := 0
def tw3493717111155160527 : Nat := 0
def tw3646829019195819677 : Nat := 0
def tw3673089383077640791 : Nat := 0
def tw3759623122121258479 : Nat := 0
def tw3817797698339224179 : Nat := 0
def tw4014540891139286612 : Nat := 0
def tw4015398097383911347 : Nat := 0
def tw4086058157674990017 : Nat := 0
def tw4115565904173853331 : Nat := 0
def tw4225703048834024713 : Nat := 0
def tw4360684699965382250 : Nat := 0
def tw4402725079659364252 : Nat := 0
def tw4478166936697009375 : Nat := 0
def tw4494801613693538912 : Nat := 0
def tw5130813555471234732 : Nat := 0
def tw5190246844813560578 : Nat := 0
def tw5193626691418679909 : Nat := 0
def tw5373601922739893978 : Nat := 0
def tw5511420028821071320 : Nat := 0
def tw5567388512258382067 : Nat := 0
def tw5961118342813265553 : Nat := 0
def tw5978321128707920903 : Nat := 0
def tw6019021122589006684 : Nat := 0
def tw6060742912462422084 : Nat := 0
def tw6082411064634330575 : Nat := 0
def tw6196171512934965099 : Nat := 0
def tw6291416237084387574 : Nat := 0
def tw6411954120941647267 : Nat := 0
def tw6442067068224118133 : Nat := 0
def tw6555240042291301478 : Nat := 0
def tw6767318904944593275 : Nat := 0
def tw6785817131721698500 : Nat := 0
def tw6820862383352777685 : Nat := 0
def tw701787995468756871 : Nat := 0
def tw7023726343779634624 : Nat := 0
def tw7028611270464810887 : Nat := 0
def tw7296583596125217682 : Nat := 0
def tw7540655947842036084 : Nat := 0
def tw7752767780024739350 : Nat := 0
def tw7754304195085646258 : Nat := 0
def tw7914949630228597729 : Nat := 0
def tw8226494294326810461 : Nat := 0
def tw8268277133935991078 : Nat := 0
def tw8343274005884668182 : Nat := 0
def tw8458067239894703972 : Nat := 0
def tw8735263284916673568 : Nat := 0
def tw8849046942124927877 : Nat := 0
def tw8959176491354863721 : Nat := 0
def tw8960069828448710407 : Nat := 0
def tw922143313871775805 : Nat := 0
def tw9277588360372424766 : Nat := 0
def tw9421340871869096474 : Nat := 0
def tw9582238327629474750 : Nat := 0
def tw9641152695372364146 : Nat := 0
def tw9673543361469618366 : Nat := 0
def tw9719896912496429819 : Nat := 0
def tw991500863812532542 : Nat := 0
def tw1964151592259241686 : Nat := 0
end hd
set_option Elab.async true
set_option maxRecDepth 100000 in
set_option maxHeartbeats 16000000 in
theorem hd : PySem.Challenge.rw_to0042_01.Holds := by
  w_on
  o_law
  o_head (kmHook Mine.hd0.heap_1_1 [2, 3, 15, 18, 20, 21, 23, 24, 25, 26, 27, 29, 30, 32, 33, 34, 35, 36, 38, 39, 41, 42, 43, 44, 45, 47, 48, 50, 51, 52, 54, 55, 57, 58, 66, 68, 69, 71, 72, 73, 75, 76, 78, 79, 80, 82, 83, 85, 86, 87, 89, 90, 92, 93, 94, 95, 96, 97, 98, 101, 103, 104, 106, 107, 108, 110, 111, 113, 114, 115, 117, 118, 120, 121, 122, 124, 125, 127, 128, 129, 131, 132, 134, 135, 136, 139, 140, 141, 144, 145, 146, 148, 149, 151, 152, 153, 156, 157, 158, 161, 162] (fun _ => by kernel_rfl) [147, 123, 102])
  (case hw => w_witness2)
  w_top off
  k_go0
  all_goals (try k_fold)
  rename_i wW s0 s1 mgg mbb zG zY faa oo pmm cdd docc zho zhcd zhg zX zV zT zB zTE zTW wI zhs zhlay zhL1 zhr1 zhl2 w5 w4 w3 w2 w1 zhL zra zw1 zr0 zhI zhr zhc1 zhc zhD h1 tk1 wO zright zX0 zX9 zT9 zK9 zF9 codeHd1 codeHd2 zN9 zl0
  revert wW s0 s1 mgg mbb faa oo pmm cdd docc wI w5 w4 w3 w2 w1 h1 tk1 wO
  first | (refine no_implicit_lambda% (skol4 (by first | exact ⟨default⟩ | exact neWorld | exact neShared | exact neAround | exact neLX) (by first | exact ⟨default⟩ | exact neWorld | exact neShared | exact neAround | exact neLX) (by first | exact ⟨default⟩ | exact neWorld | exact neShared | exact neAround | exact neLX) (by first | exact ⟨default⟩ | exact neWorld | exact neShared | exact neAround | exact neLX) ?_); generalize @sk4a _ _ _ _ _ _ _ _ _ = wW; generalize @sk4b _ _ _ _ _ _ _ _ _ = s0; generalize @sk4c _ _ _ _ _ _ _ _ _ = s1; generalize @sk4d _ _ _ _ _ _ _ _ _ = mgg) | ((first | ((first | refine no_implicit_lambda% (skol ?_) | refine no_implicit_lambda% (skolW ?_) | refine no_implicit_lambda% (skolL ?_) | refine no_implicit_lambda% (skolS ?_) | refine no_implicit_lambda% (skolA ?_)); generalize @skz _ _ _ = wW) | intro wW); (first | ((first | refine no_implicit_lambda% (skol ?_) | refine no_implicit_lambda% (skolW ?_) | refine no_implicit_lambda% (skolL ?_) | refine no_implicit_lambda% (skolS ?_) | refine no_implicit_lambda% (skolA ?_)); generalize @skz _ _ _ = s0) | intro s0); (first | ((first | refine no_implicit_lambda% (skol ?_) | refine no_implicit_lambda% (skolW ?_) | refine no_implicit_lambda% (skolL ?_) | refine no_implicit_lambda% (skolS ?_) | refine no_implicit_lambda% (skolA ?_)); generalize @skz _ _ _ = s1) | intro s1); (first | ((first | refine no_implicit_lambda% (skol ?_) | refine no_implicit_lambda% (skolW ?_) | refine no_implicit_lambda% (skolL ?_) | refine no_implicit_lambda% (skolS ?_) | refine no_implicit_lambda% (skolA ?_)); generalize @skz _ _ _ = mgg) | intro mgg))
  first | ((first | refine no_implicit_lambda% (skol ?_) | refine no_implicit_lambda% (skolW ?_) | refine no_implicit_lambda% (skolL ?_) | refine no_implicit_lambda% (skolS ?_) | refine no_implicit_lambda% (skolA ?_)); generalize @skz _ _ _ = mbb) | intro mbb
  intro zG
  intro zY
  first | (refine no_implicit_lambda% (skol4 (by first | exact ⟨default⟩ | exact neWorld | exact neShared | exact neAround | exact neLX) (by first | exact ⟨default⟩ | exact neWorld | exact neShared | exact neAround | exact neLX) (by first | exact ⟨default⟩ | exact neWorld | exact neShared | exact neAround | exact neLX) (by first | exact ⟨default⟩ | exact neWorld | exact neShared | exact neAround | exact neLX) ?_); generalize @sk4a _ _ _ _ _ _ _ _ _ = faa; generalize @sk4b _ _ _ _ _ _ _ _ _ = oo; generalize @sk4c _ _ _ _ _ _ _ _ _ = pmm; generalize @sk4d _ _ _ _ _ _ _ _ _ = cdd) | ((first | ((first | refine no_implicit_lambda% (skol ?_) | refine no_implicit_lambda% (skolW ?_) | refine no_implicit_lambda% (skolL ?_) | refine no_implicit_lambda% (skolS ?_) | refine no_implicit_lambda% (skolA ?_)); generalize @skz _ _ _ = faa) | intro faa); (first | ((first | refine no_implicit_lambda% (skol ?_) | refine no_implicit_lambda% (skolW ?_) | refine no_implicit_lambda% (skolL ?_) | refine no_implicit_lambda% (skolS ?_) | refine no_implicit_lambda% (skolA ?_)); generalize @skz _ _ _ = oo) | intro oo); (first | ((first | refine no_implicit_lambda% (skol ?_) | refine no_implicit_lambda% (skolW ?_) | refine no_implicit_lambda% (skolL ?_) | refine no_implicit_lambda% (skolS ?_) | refine no_implicit_lambda% (skolA ?_)); generalize @skz _ _ _ = pmm) | intro pmm); (first | ((first | refine no_implicit_lambda% (skol ?_) | refine no_implicit_lambda% (skolW ?_) | refine no_implicit_lambda% (skolL ?_) | refine no_implicit_lambda% (skolS ?_) | refine no_implicit_lambda% (skolA ?_)); generalize @skz _ _ _ = cdd) | intro cdd))
  first | ((first | refine no_implicit_lambda% (skol ?_) | refine no_implicit_lambda% (skolW ?_) | refine no_implicit_lambda% (skolL ?_) | refine no_implicit_lambda% (skolS ?_) | refine no_implicit_lambda% (skolA ?_)); generalize @skz _ _ _ = docc) | intro docc
  intro zho
  intro zhcd
  intro zhg
  intro hT8
  intro zX
  intro zV
  intro zT
  intro zB
  intro zTE
  intro zTW
  intro hT9
  first | ((first | refine no_implicit_lambda% (skol ?_) | refine no_implicit_lambda% (skolW ?_) | refine no_implicit_lambda% (skolL ?_) | refine no_implicit_lambda% (skolS ?_) | refine no_implicit_lambda% (skolA ?_)); generalize @skz _ _ _ = wI) | intro wI
  intro zhs
  intro zhL1
  first | (refine no_implicit_lambda% (skol4 (by first | exact ⟨default⟩ | exact neWorld | exact neShared | exact neAround | exact neLX) (by first | exact ⟨default⟩ | exact neWorld | exact neShared | exact neAround | exact neLX) (by first | exact ⟨default⟩ | exact neWorld | exact neShared | exact neAround | exact neLX) (by first | exact ⟨default⟩ | exact neWorld | exact neShared | exact neAround | exact neLX) ?_); generalize @sk4a _ _ _ _ _ _ _ _ _ = w5; generalize @sk4b _ _ _ _ _ _ _ _ _ = w4; generalize @sk4c _ _ _ _ _ _ _ _ _ = w3; generalize @sk4d _ _ _ _ _ _ _ _ _ = w2) | ((first | ((first | refine no_implicit_lambda% (skol ?_) | refine no_implicit_lambda% (skolW ?_) | refine no_implicit_lambda% (skolL ?_) | refine no_implicit_lambda% (skolS ?_) | refine no_implicit_lambda% (skolA ?_)); generalize @skz _ _ _ = w5) | intro w5); (first | ((first | refine no_implicit_lambda% (skol ?_) | refine no_implicit_lambda% (skolW ?_) | refine no_implicit_lambda% (skolL ?_) | refine no_implicit_lambda% (skolS ?_) | refine no_implicit_lambda% (skolA ?_)); generalize @skz _ _ _ = w4) | intro w4); (first | ((first | refine no_implicit_lambda% (skol ?_) | refine no_implicit_lambda% (skolW ?_) | refine no_implicit_lambda% (skolL ?_) | refine no_implicit_lambda% (skolS ?_) | refine no_implicit_lambda% (skolA ?_)); generalize @skz _ _ _ = w3) | intro w3); (first | ((first | refine no_implicit_lambda% (skol ?_) | refine no_implicit_lambda% (skolW ?_) | refine no_implicit_lambda% (skolL ?_) | refine no_implicit_lambda% (skolS ?_) | refine no_implicit_lambda% (skolA ?_)); generalize @skz _ _ _ = w2) | intro w2))
  first | ((first | refine no_implicit_lambda% (skol ?_) | refine no_implicit_lambda% (skolW ?_) | refine no_implicit_lambda% (skolL ?_) | refine no_implicit_lambda% (skolS ?_) | refine no_implicit_lambda% (skolA ?_)); generalize @skz _ _ _ = w1) | intro w1
  intro zhL
  intro zra
  intro zw1
  intro zr0
  intro zhI
  intro zhr
  intro zhc1
  intro zhD
  first | ((first | refine no_implicit_lambda% (skol ?_) | refine no_implicit_lambda% (skolW ?_) | refine no_implicit_lambda% (skolL ?_) | refine no_implicit_lambda% (skolS ?_) | refine no_implicit_lambda% (skolA ?_)); generalize @skz _ _ _ = h1) | intro h1
  first | ((first | refine no_implicit_lambda% (skol ?_) | refine no_implicit_lambda% (skolW ?_) | refine no_implicit_lambda% (skolL ?_) | refine no_implicit_lambda% (skolS ?_) | refine no_implicit_lambda% (skolA ?_)); generalize @skz _ _ _ = tk1) | intro tk1
  first | ((first | refine no_implicit_lambda% (skol ?_) | refine no_implicit_lambda% (skolW ?_) | refine no_implicit_lambda% (skolL ?_) | refine no_implicit_lambda% (skolS ?_) | refine no_implicit_lambda% (skolA ?_)); generalize @skz _ _ _ = wO) | intro wO
  intro zright
  intro zX0
  intro zX9
  intro zT9
  intro zK9
  intro zF9
  intro lifted
  intro codeHd1
  intro codeHd2
  intro codeHd
  intro zN9
  intro zl0
  k_steps
  refine Hold.mk ?_
  refine' ctr_useA (cells_ctr _ _ _ _ _ [2, 4, 6, 13, 1, 5, 12, 1, 0, 2, 1, 1, 0] _ _ ?achi ?ach6 ?achs ?achl) ?ack1 ?ack2 ?_ (hp := ?ackp)
  case ack1 => first | k_all | fail "k"
  case ack2 => first | k_all | fail "k"
  case ackp => ((try dsimp only); assumption)
  (case achi => l_ints); (case ach6 => exact ⟨rfl, by decide⟩); (case achs => assumption); (case achl => omega)
  intro r kept new h' tk' F' N' hpost
  (obtain ⟨c', hv', cs, cn', e1, e2, hci, hcl, hcb, e3⟩ := hpost); subst e1 e2 e3
  o_facts N'
  k_steps
  refine Hold.mk ?_
  refine' ctr_useA (page_ctr _ _ _ _ _ _ _ ?bphi ?bphl ?bphz ?bph3 ?bph6) ?bpk1 ?bpk2 ?_
  case bpk1 => first | k_all | fail "k"
  case bpk2 => first | k_all | fail "k"
  (case bphi => assumption); (case bphl => (rw [List.length_take, List.length_drop]; omega)); (case bphz => exact slice_bnd (by assumption)); (case bph3 => exact seat_lo _); (case bph6 => exact seat_hi _)
  intro r kept new h' tk' F' N' hpost
  (obtain ⟨t', e1, e2, e3⟩ := hpost); subst e1 e2 e3
  o_facts N'
  k_steps
  refine Hold.mk ?_
  refine' ctr_useA (lexer_ctr _ _ _ ?dxhp) ?dxk1 ?dxk2 ?_
  case dxk1 => first | k_all | fail "k"
  case dxk2 => first | k_all | fail "k"
  (case dxhp => exact page_small (by rw [List.length_take, List.length_drop]; omega))
  intro r kept new h' tk' F' N' hpost
  (obtain ⟨IX, psX, tlX, tkX, nX, nbX, e1, e2, hIX, hpgX, e3⟩ := hpost); subst e1 e2 e3; (dsimp only [lexL, ApartAll, Apart1]); (dsimp only [lexL, List.cons_append, List.nil_append] at N')
  o_facts N'
  k_steps
  refine Hold.mk ?_
  rename LXok _ _ => hIX
  rename _ = txt _ => hpgX
  rename List.length _ = 13 => hcl
  rename ∀ (x : Int), x ∈ _ → 0 ≤ x ∧ x < 2000 => hcb
  have hatX := at_start hpgX
  refine' ctr_use (order_ctr _ _ (3 + _) _ _ 1 0 _ _ _ _ hIX hatX (.inl ⟨rfl, rfl⟩) ?hcz (seat_lo _) (seat_hi _) ?h1 _) ?kB ?kF ?kX ?kN ?kT ?kcs ?kd ?ku ?kp ?k1 ?k2 ?_
  case kB => k_asm
  case kF => k_asm
  case kX => k_asm
  case kN => k_asm
  case kT => k_asm
  case kcs => rfl
  case kd => ktr_room
  case ku => ktr_units
  case kp => trivial
  case k1 =>
    dsimp only [lexL, List.cons_append, List.nil_append]
    repeat' (first | (refine List.forall_mem_cons.mpr ⟨?_, ?_⟩) | exact List.forall_mem_nil _)
    all_goals (repeat (first | exact List.Mem.head _ | apply List.Mem.tail))
  case k2 => first | k_all | fail "k2"
  case hcz => (rw [List.length_take, List.length_drop]; omega)
  case h1 => ((repeat' (refine List.forall_mem_cons.mpr ⟨by k_ne, ?_⟩)); exact List.forall_mem_nil _)
  intro r kept new h' tk' F' N' hpost
  obtain ⟨aO, rvO, riO, rnO, restO, lnO, kO, tlO, tkO, psO, e1, e2, hriO, hdsO, hpmO, hatO, hstO, e3⟩ := hpost
  subst e1 e2 e3
  dsimp only [ApartAll, Apart1]
  dsimp only [lexL, List.append_nil, List.nil_append, List.cons_append] at N'
  intros
  k_steps
  refine Hold.mk ?_
  obtain ⟨hall, other, ns, ⟨hrl, hrb, hf1, hsrt⟩, ⟨hrise, hl3, hl6, hlr, hhb, ht1, hsums⟩, ⟨hot, hol3, hol6, holr, hob, ht2, hns, hnl, hnd, hnr, hf2⟩⟩ := pure_all (seat_lo _) (seat_hi _) hcl hcb hdsO hpmO
  have hen := st_len hstO
  rename Fr _ _ _ _ => F2
  rename News _ _ _ _ => N2
  rename IntsAre _ riO => hri2
  simp only [List.length_nil] at hen
  refine' wpAny_mono (law_a _ _ _ rfl rfl _ _ _ _ hIX lnO kO tlO tkO _ _ _ restO hatO hstO ?ln0 ?ln1 _ _ _ _ ?hcs hcl (seat_lo _) (seat_hi _) _ ?hoS _ _ _ rvO riO _ hri2 hall hrise hl3 hl6 hlr hhb ht1 hsums hrl hrb hf1 hsrt other ns hot hol3 hol6 holr hob ht2 hns hnl hnd hnr hf2 _ _ _ _ _ _ _ _ _ _ _ _ _ _ _ _ _ rfl _ ?x0 ?x1 ?x2 ?x3 ?x4 ?x5 ?y0 ?y1 ?y2 ?y3 ?y4 ?y5 ?y6 ?y7 ?y8 ?y9 ?y10 ?y11 ?kB F2 ?kX (led_sub N2 ?sub) ?kT ?kd ?ku) (fun fl s' h => ?fin) (fun _ _ x => x.elim)
  case kB => k_asm
  case kX => k_asm
  case kT => k_asm
  case kd => ktr_room
  case ku => ktr_units
  case ln0 => omega
  case ln1 => omega
  case sub =>
    dsimp only [lexL, List.cons_append, List.nil_append]
    repeat' (first | (refine List.forall_mem_cons.mpr ⟨?_, ?_⟩) | exact List.forall_mem_nil _)
    all_goals (repeat (first | exact List.Mem.head _ | apply List.Mem.tail))
  case hcs => assumption
  case hoS => assumption
  case fin =>
    obtain ⟨h9, tk9, m9, kept9, new9, rfl, F9, N9, _, hr9, q9, rfl⟩ := h
    cases fl with
    | ret v =>
      have hr8 : v = .bool true := hr9
      subst hr8
      dsimp only [List.cons_append, List.nil_append] at N9
      k_steps
      all_goals w_report
    | next => exact absurd hr9 (by intro e; cases e)
    | brk => exact absurd hr9 (by intro e; cases e)
    | cont => exact absurd hr9 (by intro e; cases e)
  all_goals first | k_ne | ((repeat' (refine List.forall_mem_cons.mpr ⟨by k_ne, ?_⟩)); exact List.forall_mem_nil _)
end Mine
end
theorem PySem.Challenge.cw_to0042_01_holds : PySem.Challenge.rw_to0042_01.Holds := by
  exact Mine.hd
