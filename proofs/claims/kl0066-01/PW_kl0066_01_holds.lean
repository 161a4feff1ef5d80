import PyProof.Rows.All
import Wide.All
import OpenK.AllK
import Wide.FinOn
import PySem.Challenge.RW_kl0066_01
set_option Elab.async false
set_option maxRecDepth 100000
set_option pp.deepTerms false
set_option pp.deepTerms.threshold 12
set_option pp.proofs false
set_option linter.all false
set_option rowWalk.seconds 0
set_option compiler.extract_closed false
section heads
open PySem PySem.W PyProof.Rows
set_option maxHeartbeats 8000000
namespace Mine
/-- the text's defs and its class: the statements that the head's view keeps -/
noncomputable def viewB : List Stmt := by
  refine (fun (a b c d e f g h i : Stmt) (_ : [some a, some b, some c, some d, some e, some f, some g, some h, some i] = [1, 3, 5, 7, 8, 9, 10, 11, 12].map fun k => PySem.Challenge.pw_kl0066_01.main.body[k]?) => [a, b, c, d, e, f, g, h, i]) ?a ?b ?c ?d ?e ?f ?g ?h ?i ?z
  case z => with_unfolding_all rfl
noncomputable def view : Program := { PySem.Challenge.pw_kl0066_01 with main := { PySem.Challenge.pw_kl0066_01.main with body := viewB } }
/-- from the state behind the opening, which the library keeps -/
theorem left_boot {p q : Program} {loose : List Str} {Xt : Shared → Bool} {α : Type} {Yf : Shared → α} {Ya : World → α} {N : Nat} {g0 : Bool} (e : opening p = plainProg p.main.scope.names) (hN : Nat.ble 600 N = true) (f : ∀ s, fenceModules? p s = some s)
    (h : ∀ (w : World) (os : OsState), (topFrom treeTable p w N ⟨boot_heap w.params, Array.mk [], boot_drawn, boot_toks, os⟩).map (fun s => (openSeen q loose (importedModules p.main.body) Xt g0 s, Yf s)) = some (openGood q loose, Ya w)) : LeftO p q loose Xt Yf Ya N g0 := fun w => by
  obtain ⟨⟨h', gs, d, k, os⟩, e1, e2⟩ := Option.map_eq_some_iff.mp (boot_open e hN f w)
  obtain ⟨rfl, rfl, rfl, rfl⟩ : h' = boot_heap w.params ∧ gs = Array.mk [] ∧ d = boot_drawn ∧ k = boot_toks := by simpa using e2
  unfold openEnds
  rw [e1]
  exact h w os
local macro_rules | `(tactic| o_head $H) => `(tactic| (refine holds_open (q := Mine.view) (loose := []) (Xt := fun s => xlAt Mine.view [] s && recOk (RowW.records (OpenRow.toRowW (OpenLaw.row PySem.Challenge.rw_kl0066_01))) s) (XP := XL Mine.view []) (Yf := Hook.obs $H) (Ya := Hook.val $H) (YP := Hook.says $H) (N := 1324) ?hl (Hook.of $H) (Hook.keeps $H) (fun s e => xl_of s (Bool.and_eq_true_iff.mp e).1) XL.keeps (by rfl) (by rfl) (by rfl) (fun s e => recFacts_of (Bool.and_eq_true_iff.mp e).2) (by rfl) (by first | assumption | decide +kernel) (by decide +kernel) ⟨rfl, rfl, rfl, rfl, rfl, by decide +kernel⟩ ?hw ?hc; (case hl => exact Mine.left_boot (by kernel_rfl) (by decide +kernel) (fun s => by kernel_rfl) (fun w os => by (unfold topFrom; rw [PySem.W.Fast.te14082659384304107361, PySem.W.Fast.te14364793385576792824, PySem.W.Fast.te4187177175401517315]; kernel_rfl)))))
local macro_rules | `(tactic| o_law) => `(tactic| refine holds_law (by rw [PySem.W.Fast.te9446332074065402090]; decide +kernel) fun said => ?_)
open_top hd for PySem.Challenge.rw_kl0066_01
end Mine
end heads

/- the part Base -/
section
open PySem PySem.W PySem.Calls PyProof.Rows PySem.Spec
namespace Mine
theorem fresh_Base (prog : Program) (w : World) (A : Around) (env : Env) (s : Shared) (Q : Flow → Shared → Prop) (E : Value → Shared → Prop) (h : Q .next s) :
    wpAny (model prog w) A (execs [] env) Q E s := by
  w_top off
  walk1
  exact h
end Mine
end
section partBase
open PySem PySem.W PySem.Calls PyProof.Rows PySem.Spec
namespace Mine
noncomputable section

/-- what a call of f with the arguments vs does, told once for every caller: from the ledger news it comes back with a value and a ledger that meet Post; it never raises -/
noncomputable def Told (w : World) (p : Program) (loose : List Str) (mean : ExcName → Option Value) (mg mb : Str → Option Value) (dd : Nat) (f : Value) (vs : List Value) (news : List (Addr × Obj)) (Post : Value → List (Addr × Obj) → Prop) : Prop :=
  ∀ (dp un : Nat) (gd : Option (List Code)) (env : Env) (outer : List Env) (A₀ : Around) (base h₀ : Heap) (L : Addr) (m : Str → Option Value) (s : Shared) (Q : Value → Shared → Prop),
    Below A₀ base outer h₀ → Fr h₀ L s.heap m → (_root_.Mine.hd.heap_1 w.params).In h₀ → News h₀ L s.heap news → Top p loose mean mg mb h₀ → CodeHd h₀ 88 84 →
    env.frame = some L → env.scope.kind = .function → dp + dd < recursionLimit → un + 8 * dd < cLine →
    (∀ r h' tk' news', Fr h₀ L h' m → News h₀ L h' news' → Post r news' → Q r { s with heap := h', toks := tk' }) →
    codeAny (model PySem.Challenge.rw_kl0066_01.row.prog w) { handled := none, depth := dp, frames := some (env :: outer), guards := gd, units := un } (.call f ⟨vs, []⟩) (fun r s' => match r with | .ok (.ret v) => Q v s' | .ok _ => False | .error e => (fun _ _ => False) e s') s

/-- the same of a call that is not yet a code: from the ledger news it comes back with a value and a ledger that meet Post; it never raises -/
noncomputable def ToldW (w : World) (p : Program) (loose : List Str) (mean : ExcName → Option Value) (mg mb : Str → Option Value) (dd : Nat) (f : Value) (vs : List Value) (news : List (Addr × Obj)) (Post : Value → List (Addr × Obj) → Prop) : Prop :=
  ∀ (dp un : Nat) (gd : Option (List Code)) (env : Env) (outer : List Env) (A₀ : Around) (base h₀ : Heap) (L : Addr) (m : Str → Option Value) (s : Shared) (Q : Value → Shared → Prop),
    Below A₀ base outer h₀ → Fr h₀ L s.heap m → (_root_.Mine.hd.heap_1 w.params).In h₀ → News h₀ L s.heap news → Top p loose mean mg mb h₀ → CodeHd h₀ 88 84 →
    env.frame = some L → env.scope.kind = .function → dp + dd < recursionLimit → un + 8 * dd < cLine →
    (∀ r h' tk' news', Fr h₀ L h' m → News h₀ L h' news' → Post r news' → Q r { s with heap := h', toks := tk' }) →
    wpAny (model PySem.Challenge.rw_kl0066_01.row.prog w) { handled := none, depth := dp, frames := some (env :: outer), guards := gd, units := un } (call f vs) Q (fun _ _ => False) s

/-- the rest of the ledger, that a call does not name, lies below b -/
noncomputable def Rst (b : Addr) (rest : List (Addr × Obj)) : Prop := ∀ q ∈ rest, q.1 < b
theorem rest_ne {rest : List (Addr × Obj)} {b d : Nat} (h : Rst b rest) (hb : b ≤ d) : ∀ q ∈ rest, q.1 ≠ d :=
  fun q hq => Nat.ne_of_lt (Nat.lt_of_lt_of_le (h q hq) hb)

section
variable {prog : Program} {w : World} {A A₀ : Around} {s : Shared} {K : Frag} {L : Addr} {h₀ base : Heap} {m mg mb : Str → Option Value} {news : List (Addr × Obj)} {p : Program} {loose : List Str} {mean : ExcName → Option Value}

/-- a call of a def of the top's that has no cells -/
theorem enterP {env : Env} {outer : List Env} {R : Result → Shared → Prop} {name qual : Str} {params : Arguments} {body : List Stmt} {scope : Scope} {dV kV doc pm cdv ct oc : Value} {an od : Option Addr} {osl : Array (Option Value)} {f : Addr} {args : Args} {binds : List (Str × Value)}
    (B : Below A₀ base outer h₀) (F : Fr h₀ L s.heap m) (X₀ : K.In h₀) (N : News h₀ L s.heap news) (T : Top p loose mean mg mb h₀) (CH : CodeHd h₀ 88 84) (hA : A.frames = some (env :: outer)) (hf : env.frame = some L) (hke : env.scope.kind = .function)
    (ho : K.lookup f = some ⟨oc, od, .func (fnOf name qual params body scope dV kV doc pm an cdv ct), osl⟩) (hcd : codeIn K cdv qual = true) (hroom : A.depth < recursionLimit)
    (hbind : BindsTo s (fnOf name qual params body scope dV kV doc pm an cdv ct) args binds) (hloc : ∀ y ∈ binds, scope.names.lookup y.1 = some .local)
    (h : ∀ g L' h₁, Fr h₀ L g m → Fr g L' h₁ (fun y => binds.reverse.lookup y) → News g L' h₁ news → Below A base (env :: outer) g → K.In g → Top p loose mean mg mb g → CodeHd g 88 84 → (∀ q ∈ news, q.1 < L') →
      wpAny (model prog w) (A.deeper (envOf qual scope L' f cdv)) (execs body (envOf qual scope L' f cdv))
        (fun fl s' => LeaveK h₀ L m g R (match fl with | .ret v => v | _ => .none) s') (fun _ _ => False)
        { s with heap := h₁, toks := s.toks + binds.length })
    (hco : scope.isCoroutine = false) (hgen : scope.isGenerator = false) (hk : scope.kind = .function)
    (hcell : ∀ x ∈ scope.names, x.2 ≠ .cell) : codeAny (model prog w) A (.call (.ref f) args) R s :=
  callX_plain (cl := []) B F N T.nolimit hA hf hke ((X₀.keeps F.keep) _ _ ho) rfl (codeRec_of (X₀.keeps F.keep) hcd) hroom hbind hloc
    (fun g L' h₁ FG F' N' B' st l => wpAny_mono (h g L' h₁ FG F' N' B' (X₀.keeps st) (T.keeps st) (CH.keeps st) l) (fun _ _ x => x) fun _ _ x => x.elim) hcell hco hgen hk

/-- a call of a def of the top's that has cells -/
theorem enterC {env : Env} {outer : List Env} {R : Result → Shared → Prop} {name qual : Str} {params : Arguments} {body : List Stmt} {scope : Scope} {dV kV doc pm cdv ct oc : Value} {an od : Option Addr} {osl : Array (Option Value)} {f : Addr} {args : Args} {binds : List (Str × Value)}
    (B : Below A₀ base outer h₀) (F : Fr h₀ L s.heap m) (X₀ : K.In h₀) (N : News h₀ L s.heap news) (T : Top p loose mean mg mb h₀) (CH : CodeHd h₀ 88 84) (hA : A.frames = some (env :: outer)) (hf : env.frame = some L) (hke : env.scope.kind = .function)
    (ho : K.lookup f = some ⟨oc, od, .func (fnOf name qual params body scope dV kV doc pm an cdv ct), osl⟩) (hcd : codeIn K cdv qual = true) (hroom : A.depth < recursionLimit)
    (hbind : BindsTo s (fnOf name qual params body scope dV kV doc pm an cdv ct) args binds) (hkind : (binds.all fun y => scope.names.lookup y.1 == some .local || scope.names.lookup y.1 == some .cell) = true)
    (hnd : ((cellsFrom 0 scope.names []).map (·.1)).Nodup)
    (h : ∀ g L' h₁ tk cells, Fr h₀ L g m → Fr g L' h₁ (bindL (envOfC qual scope L' f cdv).kindOf binds fun _ => none) → News g L' h₁ (cells ++ news) →
      CellsAre (bindC (envOfC qual scope L' f cdv).kindOf binds fun _ => none) (cellsFrom (L' + 1) scope.names []) cells → Below A base (env :: outer) g → K.In g → Top p loose mean mg mb g → CodeHd g 88 84 → (∀ q ∈ news, q.1 < L') →
      wpAny (model prog w) (A.deeper (envOfC qual scope L' f cdv)) (execs body (envOfC qual scope L' f cdv))
        (fun fl s' => LeaveK h₀ L m g R (match fl with | .ret v => v | _ => .none) s') (fun _ _ => False)
        { s with heap := h₁, toks := tk })
    (hco : scope.isCoroutine = false) (hgen : scope.isGenerator = false) (hk : scope.kind = .function) : codeAny (model prog w) A (.call (.ref f) args) R s :=
  callX_cells B F N T.nolimit hA hf hke ((X₀.keeps F.keep) _ _ ho) rfl (codeRec_of (X₀.keeps F.keep) hcd) hroom hbind (kindsX hkind) hnd
    (fun g L' h₁ tk cells FG F' N' Y B' st l => wpAny_mono (h g L' h₁ tk cells FG F' N' Y B' (X₀.keeps st) (T.keeps st) (CH.keeps st) l) (fun _ _ x => x) fun _ _ x => x.elim) hco hgen hk
end
end
end Mine
namespace Mine
theorem Told.use {w : World} {p : Program} {loose : List Str} {mean : ExcName → Option Value} {mg mb : Str → Option Value} {dd : Nat} {f : Value} {vs : List Value} {news : List (Addr × Obj)} {Post : Value → List (Addr × Obj) → Prop}
    {A : Around} {dp un : Nat} {gd : Option (List Code)} {env : Env} {outer : List Env} {A₀ : Around} {base h₀ : Heap} {L : Addr} {m : Str → Option Value} {s : Shared} {Q E : Value → Shared → Prop}
    (B : Below A₀ base outer h₀) (F : Fr h₀ L s.heap m) (X : (_root_.Mine.hd.heap_1 w.params).In h₀) (N : News h₀ L s.heap news) (T : Top p loose mean mg mb h₀) (C : CodeHd h₀ 88 84)
    (hT : Told w p loose mean mg mb dd f vs news Post)
    (hA : A = { handled := none, depth := dp, frames := some (env :: outer), guards := gd, units := un }) (hf : env.frame = some L) (hk : env.scope.kind = .function) (hd : dp + dd < recursionLimit) (hu : un + 8 * dd < cLine)
    (h : ∀ r h' tk' news', Fr h₀ L h' m → News h₀ L h' news' → Post r news' → Q r { s with heap := h', toks := tk' }) :
    wpAny (model PySem.Challenge.rw_kl0066_01.row.prog w) A (call f vs) Q E s := by
  subst hA
  exact wpAny_call (codeAny_mono (hT dp un gd env outer A₀ base h₀ L m s Q B F X N T C hf hk hd hu h) (fun r _ x => by
    rcases r with e | fl
    · exact x.elim
    · cases fl <;> exact x))
theorem ToldW.use {w : World} {p : Program} {loose : List Str} {mean : ExcName → Option Value} {mg mb : Str → Option Value} {dd : Nat} {f : Value} {vs : List Value} {news : List (Addr × Obj)} {Post : Value → List (Addr × Obj) → Prop}
    {A : Around} {dp un : Nat} {gd : Option (List Code)} {env : Env} {outer : List Env} {A₀ : Around} {base h₀ : Heap} {L : Addr} {m : Str → Option Value} {s : Shared} {Q E : Value → Shared → Prop}
    (B : Below A₀ base outer h₀) (F : Fr h₀ L s.heap m) (X : (_root_.Mine.hd.heap_1 w.params).In h₀) (N : News h₀ L s.heap news) (T : Top p loose mean mg mb h₀) (C : CodeHd h₀ 88 84)
    (hT : ToldW w p loose mean mg mb dd f vs news Post)
    (hA : A = { handled := none, depth := dp, frames := some (env :: outer), guards := gd, units := un }) (hf : env.frame = some L) (hk : env.scope.kind = .function) (hd : dp + dd < recursionLimit) (hu : un + 8 * dd < cLine)
    (h : ∀ r h' tk' news', Fr h₀ L h' m → News h₀ L h' news' → Post r news' → Q r { s with heap := h', toks := tk' }) :
    wpAny (model PySem.Challenge.rw_kl0066_01.row.prog w) A (call f vs) Q E s := by
  subst hA
  exact wpAny_mono (hT dp un gd env outer A₀ base h₀ L m s Q B F X N T C hf hk hd hu h) (fun _ _ x => x) fun _ _ x => x.elim
theorem Told.useC {w : World} {p : Program} {loose : List Str} {mean : ExcName → Option Value} {mg mb : Str → Option Value} {dd : Nat} {f : Value} {vs : List Value} {news : List (Addr × Obj)} {Post : Value → List (Addr × Obj) → Prop}
    {A : Around} {dp un : Nat} {gd : Option (List Code)} {env : Env} {outer : List Env} {A₀ : Around} {base h₀ : Heap} {L : Addr} {m : Str → Option Value} {s : Shared} {Q E : Value → Shared → Prop}
    (B : Below A₀ base outer h₀) (F : Fr h₀ L s.heap m) (X : (_root_.Mine.hd.heap_1 w.params).In h₀) (N : News h₀ L s.heap news) (T : Top p loose mean mg mb h₀) (C : CodeHd h₀ 88 84)
    (hT : Told w p loose mean mg mb dd f vs news Post)
    (hA : A = { handled := none, depth := dp, frames := some (env :: outer), guards := gd, units := un }) (hf : env.frame = some L) (hk : env.scope.kind = .function) (hd : dp + dd < recursionLimit) (hu : un + 8 * dd < cLine)
    (h : ∀ r h' tk' news', Fr h₀ L h' m → News h₀ L h' news' → Post r news' → Q r { s with heap := h', toks := tk' }) :
    codeAny (model PySem.Challenge.rw_kl0066_01.row.prog w) A (.call f ⟨vs, []⟩) (fun r s' => match r with | .ok (.ret v) => Q v s' | .ok _ => False | .error e => E e s') s := by
  subst hA
  exact codeAny_mono (hT dp un gd env outer A₀ base h₀ L m s Q B F X N T C hf hk hd hu h) (fun r _ x => by
    rcases r with e | fl
    · exact x.elim
    · cases fl <;> exact x)
/-- a text by its signs -/
noncomputable abbrev S (l : List Nat) : Str := ⟨l.toArray⟩
end Mine
namespace Mine
section
variable {prog : Program} {w : World} {A A₀ : Around} {s : Shared} {K : Frag} {L : Addr} {h₀ base : Heap} {m mg mb : Str → Option Value} {news : List (Addr × Obj)} {p : Program} {loose : List Str} {mean : ExcName → Option Value}
/-- a call of a def that the call itself has made -/
theorem enterN {env : Env} {outer : List Env} {R : Result → Shared → Prop} {name qual : Str} {params : Arguments} {body : List Stmt} {scope : Scope} {cl : List (Str × Addr)} {doc pm ctv : Value} {c' f : Addr} {oc : Obj} {vs : Array Value} {tq : Tok} {args : Args} {binds : List (Str × Value)}
    (B : Below A₀ base outer h₀) (F : Fr h₀ L s.heap m) (X₀ : K.In h₀) (N : News h₀ L s.heap news) (T : Top p loose mean mg mb h₀) (CH : CodeHd h₀ 88 84) (hA : A.frames = some (env :: outer)) (hf : env.frame = some L) (hke : env.scope.kind = .function)
    (ho : (f, fnMade name qual params body scope cl doc pm c' ctv) ∈ news) (hcm : (c', oc) ∈ news) (hcd : oc.data = .fields vs) (hcv : vs[1]? = some (.str qual tq)) (hroom : A.depth < recursionLimit)
    (hbind : BindsTo s (fnX name qual params body scope cl .none .none doc pm none (.ref c') ctv) args binds) (hloc : ∀ y ∈ binds, scope.names.lookup y.1 = some .local)
    (h : ∀ g L' h₁, Fr h₀ L g m → Fr g L' h₁ (fun y => binds.reverse.lookup y) → News g L' h₁ news → Below A base (env :: outer) g → K.In g → Top p loose mean mg mb g → CodeHd g 88 84 → (∀ q ∈ news, q.1 < L') →
      wpAny (model prog w) (A.deeper (envX qual scope L' f (.ref c') cl)) (execs body (envX qual scope L' f (.ref c') cl))
        (fun fl s' => LeaveK h₀ L m g R (match fl with | .ret v => v | _ => .none) s') (fun _ _ => False)
        { s with heap := h₁, toks := s.toks + binds.length })
    (hco : scope.isCoroutine = false) (hgen : scope.isGenerator = false) (hk : scope.kind = .function)
    (hcell : ∀ x ∈ scope.names, x.2 ≠ .cell) : codeAny (model prog w) A (.call (.ref f) args) R s :=
  callX_plain (cl := cl) B F N T.nolimit hA hf hke (N _ ho).1 rfl ⟨c', oc, vs, tq, rfl, (N _ hcm).1, hcd, hcv⟩ hroom hbind hloc
    (fun g L' h₁ FG F' N' B' st l => wpAny_mono (h g L' h₁ FG F' N' B' (X₀.keeps st) (T.keeps st) (CH.keeps st) l) (fun _ _ x => x) fun _ _ x => x.elim) hcell hco hgen hk
end

/-- the reader that _law_stream makes: a function with one field, read; what a call of read does -/
structure Strm (w : World) (p : Program) (loose : List Str) (mean : ExcName → Option Value) (mg mb : Str → Option Value) (rest : List (Addr × Obj)) (fs : Addr) (text : List Nat) (la : Addr) : Prop where
  made : ∃ d fr tq fd fd', (fs, (⟨.type "function", some d, .func fd, #[]⟩ : Obj)) ∈ rest ∧ (d, dictOf [⟨PyData.keyHash w.params (Str.ofString "read"), .str (Str.ofString "read") tq, .ref fr⟩] 1) ∈ rest ∧
    (fr, (⟨.type "function", none, .func fd', #[]⟩ : Obj)) ∈ rest ∧
    ∀ rest' : List (Addr × Obj), (∀ q ∈ rest, q ∈ rest') → (∀ q ∈ rest', q.1 ≠ la) → ∀ (k : Nat) (t t1 : Tok) (e : Nat), k + 1 < 2 ^ 62 →
      Told w p loose mean mg mb 1 (.ref fr) [.int 1 t1] ((la, W.listOf #[.int k t] e) :: rest') (fun r n' => (∃ t' e', n' = (la, W.listOf #[.int (k + 1 : Nat) t'] e') :: rest') ∧ ∃ t2, r = .str (S (text[k]?.toList)) t2)
end Mine
namespace Mine
theorem news_front {h₀ h : Heap} {L : Addr} {a b : List (Addr × Obj)} {x : Addr × Obj} (N : News h₀ L h (a ++ x :: b)) : News h₀ L h (x :: (a ++ b)) := fun q hq => N q (by
  rcases List.mem_cons.mp hq with rfl | hq
  · exact List.mem_append_right _ (List.mem_cons_self ..)
  · rcases List.mem_append.mp hq with hq | hq
    · exact List.mem_append_left _ hq
    · exact List.mem_append_right _ (List.mem_cons_of_mem _ hq))
theorem news_drop {h₀ h : Heap} {L : Addr} {a b : List (Addr × Obj)} {x : Addr × Obj} (N : News h₀ L h (a ++ x :: b)) : News h₀ L h (a ++ b) := fun q hq => N q (by
  rcases List.mem_append.mp hq with hq | hq
  · exact List.mem_append_left _ hq
  · exact List.mem_append_right _ (List.mem_cons_of_mem _ hq))
end Mine
namespace Mine
/-- the dict of a _netrclex: its line number, its stream, the blanks, what was put back -/
noncomputable abbrev lexd (w : World) (ln : Int) (fs pb : Addr) (a b c d e f : Tok) : List DictEntry :=
  [⟨PyData.keyHash w.params (Str.ofString "lineno"), .str (Str.ofString "lineno") a, .int ln b⟩, ⟨PyData.keyHash w.params (Str.ofString "instream"), .str (Str.ofString "instream") c, .ref fs⟩,
   ⟨PyData.keyHash w.params (Str.ofString "whitespace"), .str (Str.ofString "whitespace") d, .str (Str.ofString "\n\t\r ") e⟩, ⟨PyData.keyHash w.params (Str.ofString "pushback"), .str (Str.ofString "pushback") f, .ref pb⟩]
end Mine

namespace Mine
/-- a loop's turn leads on -/
noncomputable def Step (I : Nat → Shared → Prop) (n : Nat) (s : Shared) : Prop := ∃ m, m < n ∧ I m s
theorem forLoopS {prog : Program} {w : World} {A : Around} {s : Shared} {R : Result → Shared → Prop} {target it body orelse env} (I : Nat → Shared → Prop)
    (turn : ∀ n s, I n s → wpAny (model prog w) A (pyNext it) (fun r s₁ => match r with
      | none => wpAny (model prog w) A (execs orelse env) (fun f s₃ => R (.ok f) s₃) (notedBy (model prog w) A env fun e s' => R (.error e) s') s₁
      | some v => wpAny (model prog w) A (assign target env v) (fun _ s₂ => wpAny (model prog w) A (execs body env) (fun f s₃ => match f with
          | .next | .cont => Step I n s₃
          | .brk => R (.ok .next) s₃
          | .ret v => R (.ok (.ret v)) s₃) (notedBy (model prog w) A env fun e s' => R (.error e) s') s₂) (notedBy (model prog w) A env fun e s' => R (.error e) s') s₁) (notedBy (model prog w) A env fun e s' => R (.error e) s') s)
    (n : Nat) (h : I n s) (ht : ∀ v, letOwnedTupleGo target it v = pure () := by intro _; rfl) : codeAny (model prog w) A (.forLoop target it body orelse env) R s :=
  codeAny_forLoop I turn n h ht
end Mine

namespace Mine
theorem news_of_sub {h₀ h : Heap} {L : Addr} {n n' : List (Addr × Obj)} (N : News h₀ L h n) (hs : ∀ q ∈ n', q ∈ n) : News h₀ L h n' := fun q hq => N q (hs q hq)
end Mine

namespace Mine
/-- the count of tokens is not at its start -/
structure TokPos (n : Nat) : Prop where pos : 0 < n
section
variable {α : Type} {M : Model} {A : Around} {t : Sem α} {Q : α → Shared → Prop} {E : Value → Shared → Prop} {h : Heap} {g : Array GenState} {d : Drawn} {X : Nat} {o : OsState}
theorem tok_known (hX : TokPos X) (k : wpAny M A t Q E ⟨h, g, d, X, o⟩) : wpAny M A t Q E ⟨h, g, d, X, o⟩ := k
theorem tok_new (hX : 0 < X) (k : ∀ X, TokPos X → 0 < X → wpAny M A t Q E ⟨h, g, d, X, o⟩) : wpAny M A t Q E ⟨h, g, d, X, o⟩ := k X ⟨hX⟩ hX
end
end Mine

namespace Mine
/-- a goal at which the walk is to stop -/
noncomputable def Hold (P : Prop) : Prop := P
theorem hold {P : Prop} (h : Hold P) : P := h
end Mine

namespace Mine
/-- a mark in the context: some rules hold the walk only where it stands -/
structure HoldMark : Prop where
  mk ::
end Mine

namespace Mine
/-- what a frame is known to hold, written ahead of the rest -/
theorem put_self {m : Str → Option Value} {k : Str} {v : Option Value} (e : m k = v) : (fun y => if y = k then v else m y) = m := by
  funext y
  by_cases h : y = k
  · rw [if_pos h, h]; exact e.symm
  · exact if_neg h
section
variable {g h : Heap} {L : Addr} {m : Str → Option Value} {k1 k2 k3 k4 k5 k6 k7 : Str} {v1 v2 v3 v4 v5 v6 v7 : Option Value}
theorem know1 (F : Fr g L h m) (e1 : m k1 = v1) : Fr g L h (fun y => if y = k1 then v1 else m y) := by rw [put_self e1]; exact F
theorem know2 (F : Fr g L h m) (e1 : m k1 = v1) (e2 : m k2 = v2) : Fr g L h (fun y => if y = k1 then v1 else if y = k2 then v2 else m y) := by
  have := know1 F e1
  rw [← put_self e2] at this
  exact this
theorem know3 (F : Fr g L h m) (e1 : m k1 = v1) (e2 : m k2 = v2) (e3 : m k3 = v3) : Fr g L h (fun y => if y = k1 then v1 else if y = k2 then v2 else if y = k3 then v3 else m y) := by
  have := know2 F e1 e2
  rw [← put_self e3] at this
  exact this
theorem know4 (F : Fr g L h m) (e1 : m k1 = v1) (e2 : m k2 = v2) (e3 : m k3 = v3) (e4 : m k4 = v4) : Fr g L h (fun y => if y = k1 then v1 else if y = k2 then v2 else if y = k3 then v3 else if y = k4 then v4 else m y) := by
  have := know3 F e1 e2 e3
  rw [← put_self e4] at this
  exact this
theorem know5 (F : Fr g L h m) (e1 : m k1 = v1) (e2 : m k2 = v2) (e3 : m k3 = v3) (e4 : m k4 = v4) (e5 : m k5 = v5) : Fr g L h (fun y => if y = k1 then v1 else if y = k2 then v2 else if y = k3 then v3 else if y = k4 then v4 else if y = k5 then v5 else m y) := by
  have := know4 F e1 e2 e3 e4
  rw [← put_self e5] at this
  exact this
theorem know6 (F : Fr g L h m) (e1 : m k1 = v1) (e2 : m k2 = v2) (e3 : m k3 = v3) (e4 : m k4 = v4) (e5 : m k5 = v5) (e6 : m k6 = v6) : Fr g L h (fun y => if y = k1 then v1 else if y = k2 then v2 else if y = k3 then v3 else if y = k4 then v4 else if y = k5 then v5 else if y = k6 then v6 else m y) := by
  have := know5 F e1 e2 e3 e4 e5
  rw [← put_self e6] at this
  exact this
end
section
variable {m : Str → Option Value} {k1 k2 k3 k4 k5 k6 k7 k8 : Str} {v1 v2 v3 v4 v5 v6 v7 v8 : Option Value}
theorem put1_self (e1 : m k1 = v1) : (fun y => if y = k1 then v1 else m y) = m := put_self e1
theorem put2_self (e1 : m k1 = v1) (e2 : m k2 = v2) : (fun y => if y = k1 then v1 else if y = k2 then v2 else m y) = m :=
  (congrArg (fun (z : Str → Option Value) y => if y = k1 then v1 else z y) (put_self e2)).trans (put1_self e1)
theorem put3_self (e1 : m k1 = v1) (e2 : m k2 = v2) (e3 : m k3 = v3) : (fun y => if y = k1 then v1 else if y = k2 then v2 else if y = k3 then v3 else m y) = m :=
  (congrArg (fun (z : Str → Option Value) y => if y = k1 then v1 else if y = k2 then v2 else z y) (put_self e3)).trans (put2_self e1 e2)
theorem put4_self (e1 : m k1 = v1) (e2 : m k2 = v2) (e3 : m k3 = v3) (e4 : m k4 = v4) : (fun y => if y = k1 then v1 else if y = k2 then v2 else if y = k3 then v3 else if y = k4 then v4 else m y) = m :=
  (congrArg (fun (z : Str → Option Value) y => if y = k1 then v1 else if y = k2 then v2 else if y = k3 then v3 else z y) (put_self e4)).trans (put3_self e1 e2 e3)
theorem put5_self (e1 : m k1 = v1) (e2 : m k2 = v2) (e3 : m k3 = v3) (e4 : m k4 = v4) (e5 : m k5 = v5) : (fun y => if y = k1 then v1 else if y = k2 then v2 else if y = k3 then v3 else if y = k4 then v4 else if y = k5 then v5 else m y) = m :=
  (congrArg (fun (z : Str → Option Value) y => if y = k1 then v1 else if y = k2 then v2 else if y = k3 then v3 else if y = k4 then v4 else z y) (put_self e5)).trans (put4_self e1 e2 e3 e4)
theorem put6_self (e1 : m k1 = v1) (e2 : m k2 = v2) (e3 : m k3 = v3) (e4 : m k4 = v4) (e5 : m k5 = v5) (e6 : m k6 = v6) : (fun y => if y = k1 then v1 else if y = k2 then v2 else if y = k3 then v3 else if y = k4 then v4 else if y = k5 then v5 else if y = k6 then v6 else m y) = m :=
  (congrArg (fun (z : Str → Option Value) y => if y = k1 then v1 else if y = k2 then v2 else if y = k3 then v3 else if y = k4 then v4 else if y = k5 then v5 else z y) (put_self e6)).trans (put5_self e1 e2 e3 e4 e5)
theorem put7_self (e1 : m k1 = v1) (e2 : m k2 = v2) (e3 : m k3 = v3) (e4 : m k4 = v4) (e5 : m k5 = v5) (e6 : m k6 = v6) (e7 : m k7 = v7) : (fun y => if y = k1 then v1 else if y = k2 then v2 else if y = k3 then v3 else if y = k4 then v4 else if y = k5 then v5 else if y = k6 then v6 else if y = k7 then v7 else m y) = m :=
  (congrArg (fun (z : Str → Option Value) y => if y = k1 then v1 else if y = k2 then v2 else if y = k3 then v3 else if y = k4 then v4 else if y = k5 then v5 else if y = k6 then v6 else z y) (put_self e7)).trans (put6_self e1 e2 e3 e4 e5 e6)
theorem put8_self (e1 : m k1 = v1) (e2 : m k2 = v2) (e3 : m k3 = v3) (e4 : m k4 = v4) (e5 : m k5 = v5) (e6 : m k6 = v6) (e7 : m k7 = v7) (e8 : m k8 = v8) : (fun y => if y = k1 then v1 else if y = k2 then v2 else if y = k3 then v3 else if y = k4 then v4 else if y = k5 then v5 else if y = k6 then v6 else if y = k7 then v7 else if y = k8 then v8 else m y) = m :=
  (congrArg (fun (z : Str → Option Value) y => if y = k1 then v1 else if y = k2 then v2 else if y = k3 then v3 else if y = k4 then v4 else if y = k5 then v5 else if y = k6 then v6 else if y = k7 then v7 else z y) (put_self e8)).trans (put7_self e1 e2 e3 e4 e5 e6 e7)
end
/-- the addresses of a ledger, below a bound -/
theorem keys_lt {l : List (Addr × Obj)} {I : Addr} (h : ∀ p ∈ l, p.1 < I) : ∀ a ∈ l.map Prod.fst, a < I := fun a ha => by
  obtain ⟨p, hp, rfl⟩ := List.mem_map.mp ha
  exact h p hp
/-- no entry of a ledger lies at the bound: the addresses alone are looked at -/
theorem off_lt {l : List (Addr × Obj)} {I : Addr} (h : ∀ a ∈ l.map Prod.fst, a < I) : ∀ p ∈ l, p.1 ≠ I := fun p hp => Nat.ne_of_lt (h _ (List.mem_map_of_mem hp))
end Mine

namespace Mine
section
variable {α : Type} {x a b c d e f g h i j k l' m n o : α} {r l : List α}
theorem at0 : x ∈ x :: l := .head _
theorem at1 : x ∈ a :: x :: l := .tail _ at0
theorem at2 : x ∈ a :: b :: x :: l := .tail _ at1
theorem at3 : x ∈ a :: b :: c :: x :: l := .tail _ at2
theorem at4 : x ∈ a :: b :: c :: d :: x :: l := .tail _ at3
theorem at5 : x ∈ a :: b :: c :: d :: e :: x :: l := .tail _ at4
theorem at6 : x ∈ a :: b :: c :: d :: e :: f :: x :: l := .tail _ at5
theorem at7 : x ∈ a :: b :: c :: d :: e :: f :: g :: x :: l := .tail _ at6
theorem at8 : x ∈ a :: b :: c :: d :: e :: f :: g :: h :: x :: l := .tail _ at7
theorem at9 : x ∈ a :: b :: c :: d :: e :: f :: g :: h :: i :: x :: l := .tail _ at8
theorem at10 : x ∈ a :: b :: c :: d :: e :: f :: g :: h :: i :: j :: x :: l := .tail _ at9
theorem at11 : x ∈ a :: b :: c :: d :: e :: f :: g :: h :: i :: j :: k :: x :: l := .tail _ at10
theorem at12 : x ∈ a :: b :: c :: d :: e :: f :: g :: h :: i :: j :: k :: l' :: x :: l := .tail _ at11
theorem at13 : x ∈ a :: b :: c :: d :: e :: f :: g :: h :: i :: j :: k :: l' :: m :: x :: l := .tail _ at12
theorem at14 : x ∈ a :: b :: c :: d :: e :: f :: g :: h :: i :: j :: k :: l' :: m :: n :: x :: l := .tail _ at13
theorem at15 : x ∈ a :: b :: c :: d :: e :: f :: g :: h :: i :: j :: k :: l' :: m :: n :: o :: x :: l := .tail _ at14
theorem at4t (h : x ∈ l) : x ∈ a :: b :: c :: d :: l := .tail _ (.tail _ (.tail _ (.tail _ h)))
theorem at1t (h : x ∈ l) : x ∈ a :: l := .tail _ h
theorem sub_cons (h : x ∈ l) (t : ∀ q ∈ r, q ∈ l) : ∀ q ∈ x :: r, q ∈ l := fun q hq => by
  cases hq with
  | head => exact h
  | tail _ hq => exact t q hq
theorem sub_nil : ∀ q ∈ ([] : List α), q ∈ l := fun _ h => nomatch h
theorem sub_refl : ∀ q ∈ l, q ∈ l := fun _ h => h
theorem sub_tail (t : ∀ q ∈ r, q ∈ l) : ∀ q ∈ r, q ∈ a :: l := fun q h => .tail _ (t q h)
theorem sub_tail4 (t : ∀ q ∈ r, q ∈ l) : ∀ q ∈ r, q ∈ a :: b :: c :: d :: l := fun q h => .tail _ (.tail _ (.tail _ (.tail _ (t q h))))
end
section
variable {X : Nat} {x : Addr} {o : Obj} {r : List (Addr × Obj)}
theorem nes_cons (h : @Ne Nat x X) (t : ∀ q ∈ r, @Ne Nat q.1 X) : ∀ q ∈ (x, o) :: r, @Ne Nat q.1 X := fun q hq => by
  cases hq with
  | head => exact h
  | tail _ hq => exact t q hq
theorem nes_nil : ∀ q ∈ ([] : List (Addr × Obj)), @Ne Nat q.1 X := fun _ h => nomatch h
end
end Mine
end partBase

section rulesA
local macro_rules | `(tactic| k_all) => `(tactic| (refine' _root_.Mine.rest_ne (by assumption) ?b; (case b => omega)))
local macro_rules | `(tactic| k_all) => `(tactic| assumption)
local macro_rules | `(tactic| k_mem) => `(tactic| first | with_reducible apply _root_.Mine.at0 | with_reducible apply _root_.Mine.at1 | with_reducible apply _root_.Mine.at2 | with_reducible apply _root_.Mine.at3 | (with_reducible refine _root_.Mine.at4t ?_; k_mem))
local macro_rules | `(tactic| k_mem) => `(tactic| assumption)

/- the part R1 -/
section
open PySem PySem.W PySem.Calls PyProof.Rows PySem.Spec
namespace Mine
theorem fresh_R1 (prog : Program) (w : World) (A : Around) (env : Env) (s : Shared) (Q : Flow → Shared → Prop) (E : Value → Shared → Prop) (h : Q .next s) :
    wpAny (model prog w) A (execs [] env) Q E s := by
  w_top off
  walk1
  exact h
end Mine
end
section partR1
open PySem PySem.W PySem.Calls PyProof.Rows PySem.Spec
set_option maxHeartbeats 1600000
namespace Mine
section fnattr
open Builtin Builtin.ObjectAttr
theorem mro_fn : mroOf (.type "function") = pure [.type "function", .type "object"] := by rw [mroOf_type]; kernel_rfl
theorem slot_fn_sa : Slot "function" "__setattr__" "object.__setattr__" :=
  .of (owner := "object") (n := "__setattr__") (by rw [typeLookup_type, builtinLookup_eq_fast]; kernel_rfl) (by decide +kernel) (by decide +kernel) (by decide +kernel)
    (by first | exact .inl (by decide +kernel) | exact .inr (by decide +kernel)) (by rw [isSubtype_type]; kernel_rfl)
theorem pass_fn (self : Value) : refuseLoop self "__setattr__" [.type "function", .type "object"] = pure () := by kernel_rfl
theorem args_fn_sa (a b c : Value) : argsOk "object.__setattr__" ⟨[a, b, c], []⟩ := by unfold argsOk; kernel_rfl
theorem tl_fn_read : typeLookup (.type "function") "read" = pure none := by rw [typeLookup_type, builtinLookup_eq_fast]; kernel_rfl
theorem hasDict_fn : typeHasDict (.type "function") = true := by decide +kernel
theorem dictMade_fn (a d : Addr) : dictMade (.type "function") a d = pure (some d) := by kernel_rfl
theorem ownStream_fn (v : Value) : ownStreamTells v (.type "function") = pure () := by cases v <;> kernel_rfl

variable {prog : Program} {w : World} {A : Around} {E : Value → Shared → Prop} {s : Shared} {h₀ : Heap} {L f : Addr} {m : Str → Option Value} {news : List (Addr × Obj)} {gg : Obj → List (Addr × Obj)} {fd : FuncData} {sl : Array (Option Value)} {v : Value}

/-- the first field of a function of the call's own: its dict is made -/
theorem setAttr_fn {Q : Unit → Shared → Prop} (F : Fr h₀ L s.heap m) (N : News h₀ L s.heap news) (U : UpdF f ⟨.type "function", none, .func fd, sl⟩ news gg)
    (h : ∀ d t h' tk, Fr h₀ L h' m → News h₀ L h' ((d, dictOf [⟨PyData.keyHash w.params (Str.ofString "read"), .str (Str.ofString "read") t, v⟩] 1) :: gg ⟨.type "function", some d, .func fd, sl⟩) → (∀ p ∈ news, p.1 < d) → Q () { s with heap := h', toks := tk }) :
    wpAny (model prog w) A (setAttr (.ref f) (Str.ofString "read") v) Q E s := by
  obtain ⟨pre, post, rfl, hg, h1, h2⟩ := U.split
  obtain ⟨H, g, dr, t, os⟩ := s
  have hf := (N (f, ⟨.type "function", none, .func fd, sl⟩) (List.mem_append_right _ (.head _))).1
  dsimp only at hf
  refine wpAny_bind (wpAny_mkText (wpAny_bind (wpAny_callSpecial?_slot (T := "function") ⟨_, hf, rfl⟩ slot_fn_sa ?_)))
  refine wpAny_call_entry slot_fn_sa ⟨_, hf, rfl⟩ PySem.F.entry_object_sa ?_ (args_fn_sa _ _ _)
  rw [osa_eq, refuse_eq]
  have LT : Looks (model prog w) H (typeOf (.ref f)) (.type "function") := (Looks.ld hf).andThen .now
  have LM : Looks (model prog w) H (mroOf (.type "function")) [.type "function", .type "object"] := Looks.of_pure mro_fn
  refine wpAny_bind (wpAny_bind (LT.here (wpAny_bind (LM.here ?_))))
  rw [pass_fn]
  refine wpAny_pure (wpAny_bind (LT.here (wpAny_bind ((Looks.of_pure tl_fn_read).here (wpAny_bind (wpAny_pure (a := none) ?_))))))
  dsimp only
  unfold storeInOwnDict
  rw [ownStream_fn]
  refine wpAny_bind (wpAny_pure ?_)
  show wpAny _ _ (ownDictForStores (.ref f) >>= _) _ _ _
  unfold ownDictForStores
  refine wpAny_bind ?_
  dsimp only
  unfold instanceDict
  refine wpAny_bind (wpAny_loadPart hf ?_)
  dsimp only
  rw [hasDict_fn]
  refine wpAny_bind (wpAny_alloc (wpAny_bind ?_))
  have N1 := N.push F emptyDict
  have F1 := F.push emptyDict
  have hne : ∀ q ∈ pre ++ (f, (⟨.type "function", none, .func fd, sl⟩ : Obj)) :: post, q.1 < H.objs.size := fun q hq => Heap.lt_size (N q hq).1
  have hfd : f ≠ H.objs.size := Nat.ne_of_lt (hne (f, _) (List.mem_append_right _ (.head _)))
  obtain ⟨F2, N2⟩ := news_upd (pre := (H.objs.size, emptyDict) :: pre) (o' := ⟨.type "function", some H.objs.size, .func fd, sl⟩) (f := fun o => { o with dict := some H.objs.size }) F1 N1
    (fun q hq => by rcases List.mem_cons.mp hq with rfl | hq; exact fun e => hfd e.symm; exact h1 q hq) h2 rfl rfl
  refine wpAny_update (N1 (f, _) (List.mem_cons_of_mem _ (List.mem_append_right _ (.head _)))).1 ?_
  rw [dictMade_fn]
  refine wpAny_pure ?_
  dsimp only
  unfold storeInDict newKeyGuard
  refine wpAny_bind (wpAny_pure (wpAny_bind ?_))
  have D2 := (N2 (H.objs.size, emptyDict) (.head _)).1
  unfold nsSet
  refine wpAny_bind (wpAny_bind (wpAny_askSetting (wpAny_pure (wpAny_bind (wpAny_mkText (wpAny_bind (wpAny_loadPart D2 ?_)))))))
  dsimp only
  rw [aRefKeyMayBeTheName_at]
  simp only [List.any_toArray, List.any_nil, Bool.not_false, Bool.and_false, Bool.false_eq_true, if_false]
  obtain ⟨F3, N3⟩ := news_upd (pre := []) (o' := dictOf [⟨PyData.keyHash w.params (Str.ofString "read"), .str (Str.ofString "read") (t + 1), v⟩] 1)
    (f := Obj.putName (Str.ofString "read") (PyData.keyHash w.params (Str.ofString "read")) (.str (Str.ofString "read") (t + 1)) v) F2 N2 (fun q hq => nomatch hq)
    (fun q hq => by
      rcases List.mem_append.mp hq with hq | hq
      · exact Nat.ne_of_lt (hne q (List.mem_append_left _ hq))
      · rcases List.mem_cons.mp hq with rfl | hq
        · exact hfd
        · exact Nat.ne_of_lt (hne q (List.mem_append_right _ (List.mem_cons_of_mem _ hq))))
    ((putName_dict _ _ _ _ [] 0).trans rfl) rfl
  refine wpAny_updatePart D2 ?_
  refine wpAny_bind (wpAny_lookBehind (N3 (H.objs.size, _) (.head _)).1 (pastItsLine_dict (by rw [sizeLine_eq]; exact Nat.le_of_ble_eq_true rfl)) ?_)
  refine wpAny_pure ⟨_, rfl, wpAny_pure ?_⟩
  refine h H.objs.size (t + 1) _ _ F3 ?_ hne
  rw [hg]
  exact N3

theorem tl_fn_ga : typeLookup (.type "function") "__getattribute__" = pure (some (.builtin "object.__getattribute__")) := by rw [typeLookup_type, builtinLookup_eq_fast]; kernel_rfl
theorem tl_fn_gat : typeLookup (.type "function") "__getattr__" = pure none := by rw [typeLookup_type, builtinLookup_eq_fast]; kernel_rfl
theorem slot_fn_ga : Slot "function" "__getattribute__" "object.__getattribute__" :=
  .of (owner := "object") (n := "__getattribute__") (by rw [typeLookup_type, builtinLookup_eq_fast]; kernel_rfl) (by decide +kernel) (by decide +kernel) (by decide +kernel)
    (by first | exact .inl (by decide +kernel) | exact .inr (by decide +kernel)) (by rw [isSubtype_type]; kernel_rfl)
theorem entry_ga : entryFor table "object.__getattribute__" = some Builtin.«object.__getattribute__» := entryFor_of_tree (by kernel_rfl)
theorem args_ga (a b : Value) : argsOk "object.__getattribute__" ⟨[a, b], []⟩ := by unfold argsOk; kernel_rfl

theorem getAttr_fn {expr : Bool} {d fr : Addr} {tq : Tok} {Q : Value → Shared → Prop} (N : News h₀ L s.heap news) (hf : (f, (⟨.type "function", some d, .func fd, sl⟩ : Obj)) ∈ news)
    (hd : (d, dictOf [⟨PyData.keyHash w.params (Str.ofString "read"), .str (Str.ofString "read") tq, .ref fr⟩] 1) ∈ news) (h : Q (.ref fr) { s with toks := s.toks + 1 }) :
    wpAny (model prog w) A (getAttr (.ref f) (Str.ofString "read") expr) Q E s := by
  obtain ⟨H, g, dr, t, os⟩ := s
  have ef := (N _ hf).1
  have ed := (N _ hd).1
  dsimp only at ef ed
  have LT : Looks (model prog w) H (typeOf (.ref f)) (.type "function") := (Looks.ld ef).andThen .now
  have LG : Looks (model prog w) H (typeLookup (.type "function") "__getattribute__") (some (.builtin "object.__getattribute__")) := Looks.of_pure tl_fn_ga
  have LR : Looks (model prog w) H (typeLookup (.type "function") (Str.ofString "read")) none := Looks.of_pure tl_fn_read
  refine wpAny_bind (wpAny_mkText ?_)
  show wpAny _ _ (holding _ _) _ _ _
  refine wpAny_holding (wpAny_bind (LT.at (wpAny_bind (LG.at ?_))))
  show wpAny _ _ (getAttrByItsOwn _ _ _ _ _ _) _ _ _
  unfold getAttrByItsOwn hookBefore
  refine wpAny_bind (wpAny_pure (wpAny_bind (wpAny_attempt (wpAny_holding ?_))))
  unfold callGetattribute
  rw [if_neg (by cases expr <;> decide)]
  unfold boundAndCalled
  rw [slot_fn_ga.bind]
  refine wpAny_bind (wpAny_pure ?_)
  refine wpAny_call_entry slot_fn_ga ⟨_, ef, rfl⟩ entry_ga ?_ (args_ga _ _)
  unfold Builtin.«object.__getattribute__»
  refine wpAny_bind (wpAny_pure (wpAny_bind (wpAny_pure (wpAny_bind (LT.at (wpAny_bind ?_))))))
  unfold find
  refine wpAny_bind (LR.at (wpAny_bind (wpAny_pure (wpAny_bind (wpAny_pure ?_)))))
  dsimp only
  unfold ownThenClass inOwnDict Builtin.ObjectAttr.ownDict
  refine wpAny_bind (wpAny_bind (wpAny_bind (wpAny_loadPart ef ?_)))
  dsimp only
  unfold instanceDict
  refine wpAny_bind (wpAny_loadPart ef ?_)
  dsimp only
  refine wpAny_pure (a := some d) ?_
  unfold inDict nsGet
  refine wpAny_bind (wpAny_loadPart ed ?_)
  rw [nsLook_of (r := some (.ref fr)) (by kernel_rfl)]
  refine wpAny_pure ?_
  dsimp only
  refine wpAny_bind (wpAny_rule (wpAny_pure ?_))
  dsimp only
  refine wpAny_pure ⟨_, rfl, ?_⟩
  exact wpAny_pure h
theorem getMethod_fn {pl : Sem Bool} {d fr : Addr} {tq : Tok} {Q : Value × List Value → Shared → Prop} (N : News h₀ L s.heap news) (hf : (f, (⟨.type "function", some d, .func fd, sl⟩ : Obj)) ∈ news)
    (hd : (d, dictOf [⟨PyData.keyHash w.params (Str.ofString "read"), .str (Str.ofString "read") tq, .ref fr⟩] 1) ∈ news) (h : Q (.ref fr, []) { s with toks := s.toks + 1 }) :
    wpAny (model prog w) A (getMethod (.ref f) (Str.ofString "read") pl) Q E s := by
  have ef := (N _ hf).1
  have LT : Looks (model prog w) s.heap (typeOf (.ref f)) (.type "function") := (Looks.ld ef).andThen .now
  unfold getMethod specialOf
  refine wpAny_bind (wpAny_bind (LT.here ((Looks.of_pure tl_fn_ga).here ?_)))
  dsimp only
  rw [PySem.F.canon_object_ga, if_neg (by decide)]
  refine wpAny_bind (wpAny_bind (LT.here ((Looks.of_pure tl_fn_gat).here ?_)))
  refine wpAny_bind (wpAny_bind (LT.here ((Looks.of_pure tl_fn_read).here ?_)))
  exact wpAny_bind (getAttr_fn N hf hd (wpAny_pure h))
end fnattr

end Mine
end partR1

/- the part Ast -/
section
open PySem PySem.W PySem.Calls PyProof.Rows PySem.Spec
namespace Mine
theorem fresh_Ast (prog : Program) (w : World) (A : Around) (env : Env) (s : Shared) (Q : Flow → Shared → Prop) (E : Value → Shared → Prop) (h : Q .next s) :
    wpAny (model prog w) A (execs [] env) Q E s := by
  w_top off
  walk1
  exact h
end Mine
end
section partAst
open PySem PySem.W PySem.Calls PyProof.Rows PySem.Spec
set_option maxHeartbeats 1600000
namespace Mine
/-- the body of the k-th statement of the text, a def -/
noncomputable def bodyAt (k : Nat) : List Stmt := match PySem.Challenge.pw_kl0066_01.main.body[k]? with | some (.FunctionDef _ _ b _ _ _ _ _ _ _) => b | _ => []
noncomputable def bodyOf : Option Stmt → List Stmt | some (.FunctionDef _ _ b _ _ _ _ _ _ _) => b | _ => []
noncomputable def parsOf : Option Stmt → Arguments | some (.FunctionDef _ a _ _ _ _ _ _ _ _) => a | _ => default
noncomputable def scopeOf : Option Stmt → Scope | some (.FunctionDef _ _ _ _ _ _ s _ _ _) => s | _ => default
noncomputable def rdB : List Stmt := by
  refine (fun (a b : Stmt) (_ : [a, b] = bodyOf (bodyAt 9)[1]?) => [a, b]) ?a ?b ?h
  case h => with_unfolding_all rfl
noncomputable def rdP : Arguments := by
  refine (fun (a b c d e f g) (_ : (⟨a, b, c, d, e, f, g⟩ : Arguments) = parsOf (bodyAt 9)[1]?) => ⟨a, b, c, d, e, f, g⟩) ?a ?b ?c ?d ?e ?f ?g ?h
  case h => with_unfolding_all rfl
noncomputable def rdS : Scope := by
  refine (fun (a b c d e) (_ : (⟨a, b, c, d, e⟩ : Scope) = scopeOf (bodyAt 9)[1]?) => ⟨a, b, c, d, e⟩) ?a ?b ?c ?d ?e ?h
  case h => with_unfolding_all rfl

end Mine
end partAst

/- the part LawB -/
section
open PySem PySem.W PySem.Calls PyProof.Rows PySem.Spec
namespace Mine
theorem fresh_LawB (prog : Program) (w : World) (A : Around) (env : Env) (s : Shared) (Q : Flow → Shared → Prop) (E : Value → Shared → Prop) (h : Q .next s) :
    wpAny (model prog w) A (execs [] env) Q E s := by
  w_top off
  walk1
  exact h
end Mine
end
section partLawB
open PySem PySem.W PySem.Calls PyProof.Rows PySem.Spec
set_option maxHeartbeats 1600000
namespace Mine
noncomputable def lawAt : Option Stmt := PySem.Challenge.pw_kl0066_01.main.body[12]?
noncomputable abbrev lawScope : Scope := by
  refine (fun (a b c d e) (_ : (⟨a, b, c, d, e⟩ : Scope) = scopeOf lawAt) => ⟨a, b, c, d, e⟩) ?a ?b ?c ?d ?e ?h
  case h => with_unfolding_all rfl
noncomputable def st0 : Stmt := by
  refine (fun (a : Stmt) (_ : some a = (bodyOf lawAt)[0]?) => a) ?a ?h
  case h => with_unfolding_all rfl
noncomputable def st1 : Stmt := by
  refine (fun (a : Stmt) (_ : some a = (bodyOf lawAt)[1]?) => a) ?a ?h
  case h => with_unfolding_all rfl
noncomputable def st2 : Stmt := by
  refine (fun (a : Stmt) (_ : some a = (bodyOf lawAt)[2]?) => a) ?a ?h
  case h => with_unfolding_all rfl
noncomputable def st3 : Stmt := by
  refine (fun (a : Stmt) (_ : some a = (bodyOf lawAt)[3]?) => a) ?a ?h
  case h => with_unfolding_all rfl
noncomputable def st4 : Stmt := by
  refine (fun (a : Stmt) (_ : some a = (bodyOf lawAt)[4]?) => a) ?a ?h
  case h => with_unfolding_all rfl
noncomputable def st5 : Stmt := by
  refine (fun (a : Stmt) (_ : some a = (bodyOf lawAt)[5]?) => a) ?a ?h
  case h => with_unfolding_all rfl
noncomputable def st6 : Stmt := by
  refine (fun (a : Stmt) (_ : some a = (bodyOf lawAt)[6]?) => a) ?a ?h
  case h => with_unfolding_all rfl
noncomputable def st7 : Stmt := by
  refine (fun (a : Stmt) (_ : some a = (bodyOf lawAt)[7]?) => a) ?a ?h
  case h => with_unfolding_all rfl
noncomputable def st8 : Stmt := by
  refine (fun (a : Stmt) (_ : some a = (bodyOf lawAt)[8]?) => a) ?a ?h
  case h => with_unfolding_all rfl
noncomputable def st9 : Stmt := by
  refine (fun (a : Stmt) (_ : some a = (bodyOf lawAt)[9]?) => a) ?a ?h
  case h => with_unfolding_all rfl
noncomputable def st10 : Stmt := by
  refine (fun (a : Stmt) (_ : some a = (bodyOf lawAt)[10]?) => a) ?a ?h
  case h => with_unfolding_all rfl
noncomputable def st11 : Stmt := by
  refine (fun (a : Stmt) (_ : some a = (bodyOf lawAt)[11]?) => a) ?a ?h
  case h => with_unfolding_all rfl
noncomputable def st12 : Stmt := by
  refine (fun (a : Stmt) (_ : some a = (bodyOf lawAt)[12]?) => a) ?a ?h
  case h => with_unfolding_all rfl
noncomputable def st13 : Stmt := by
  refine (fun (a : Stmt) (_ : some a = (bodyOf lawAt)[13]?) => a) ?a ?h
  case h => with_unfolding_all rfl
noncomputable def st14 : Stmt := by
  refine (fun (a : Stmt) (_ : some a = (bodyOf lawAt)[14]?) => a) ?a ?h
  case h => with_unfolding_all rfl
noncomputable def st15 : Stmt := by
  refine (fun (a : Stmt) (_ : some a = (bodyOf lawAt)[15]?) => a) ?a ?h
  case h => with_unfolding_all rfl
noncomputable def st16 : Stmt := by
  refine (fun (a : Stmt) (_ : some a = (bodyOf lawAt)[16]?) => a) ?a ?h
  case h => with_unfolding_all rfl
noncomputable def st17 : Stmt := by
  refine (fun (a : Stmt) (_ : some a = (bodyOf lawAt)[17]?) => a) ?a ?h
  case h => with_unfolding_all rfl
noncomputable def st18 : Stmt := by
  refine (fun (a : Stmt) (_ : some a = (bodyOf lawAt)[18]?) => a) ?a ?h
  case h => with_unfolding_all rfl
noncomputable def st19 : Stmt := by
  refine (fun (a : Stmt) (_ : some a = (bodyOf lawAt)[19]?) => a) ?a ?h
  case h => with_unfolding_all rfl
theorem st_none : (bodyOf lawAt)[20]? = none := by with_unfolding_all rfl
/-- the law's frame -/
noncomputable abbrev lawEnv (L fa : Addr) (cd : Value) : Env := envOfC (Str.ofString "law") lawScope L fa cd
noncomputable def forBody : Option Stmt → List Stmt | some (.For _ _ b _ _) => b | _ => []
noncomputable def sideFor : Option Stmt := (bodyOf lawAt)[10]?
noncomputable def sb0 : Stmt := by
  refine (fun (a : Stmt) (_ : some a = (forBody sideFor)[0]?) => a) ?a ?h
  case h => with_unfolding_all rfl
noncomputable def sb1 : Stmt := by
  refine (fun (a : Stmt) (_ : some a = (forBody sideFor)[1]?) => a) ?a ?h
  case h => with_unfolding_all rfl
noncomputable def sizeFor : Option Stmt := (forBody sideFor)[1]?
noncomputable def sc0 : Stmt := by
  refine (fun (a : Stmt) (_ : some a = (forBody sizeFor)[0]?) => a) ?a ?h
  case h => with_unfolding_all rfl
noncomputable def sc1 : Stmt := by
  refine (fun (a : Stmt) (_ : some a = (forBody sizeFor)[1]?) => a) ?a ?h
  case h => with_unfolding_all rfl
noncomputable def sc2 : Stmt := by
  refine (fun (a : Stmt) (_ : some a = (forBody sizeFor)[2]?) => a) ?a ?h
  case h => with_unfolding_all rfl

end Mine
end partLawB

/- the part Glob -/
section
open PySem PySem.W PySem.Calls PyProof.Rows PySem.Spec
namespace Mine
theorem fresh_Glob (prog : Program) (w : World) (A : Around) (env : Env) (s : Shared) (Q : Flow → Shared → Prop) (E : Value → Shared → Prop) (h : Q .next s) :
    wpAny (model prog w) A (execs [] env) Q E s := by
  w_top off
  walk1
  exact h
end Mine
end
section partGlob
open PySem PySem.W PySem.Calls PyProof.Rows PySem.Spec
set_option maxHeartbeats 1600000
namespace Mine
/-- the law's variables, all in one -/
noncomputable abbrev LV : Type := World × Program × List Str × (ExcName → Option Value) × (Str → Option Value) × (Str → Option Value) × Heap × Addr × Addr × Value × (Flow → Shared → Prop)
/-- what the walk of the law's body shows -/
noncomputable def BodyG : LV → Prop := fun (w, p, loose, mean, mg, mb, h₀, L, fa, cd, Q) => ∀ (s : Shared),
    (_root_.Mine.hd.heap_1 w.params).In h₀ → Top p loose mean mg mb h₀ → Below callerA h₀ [] h₀ → CodeHd h₀ 88 84 →
    ∀ (ns : List Int) (sl : Addr) (vs : List Value), h₀.IsList sl vs.toArray → IntsAre vs ns → ns.length ≤ 63 → ∀ mm : Str → Option Value, mm (Str.ofString "script") = some (.ref sl) →
    ∀ o1 o2 o3 o4 o5 o6 o7 o8 o9 : Obj, o1.data = .cell none → o2.data = .cell none → o3.data = .cell none → o4.data = .cell none → o5.data = .cell none → o6.data = .cell none → o7.data = .cell none → o8.data = .cell none → o9.data = .cell none →
    Fr h₀ L s.heap mm → News h₀ L s.heap [(L + 1 + 1 + 1 + 1 + 1 + 1 + 1 + 1 + 1, o1), (L + 1 + 1 + 1 + 1 + 1 + 1 + 1 + 1, o2), (L + 1 + 1 + 1 + 1 + 1 + 1 + 1, o3), (L + 1 + 1 + 1 + 1 + 1 + 1, o4), (L + 1 + 1 + 1 + 1 + 1, o5), (L + 1 + 1 + 1 + 1, o6), (L + 1 + 1 + 1, o7), (L + 1 + 1, o8), (L + 1, o9), (84, tabObj #[])] →
    (@LT.lt Nat _ 84 L) →
    (∀ h' tk' mm', Fr h₀ L h' mm' → (∃ ps, h'.get? 84 = some (tabObj ps)) → Q (.ret (.bool true)) { heap := h', gens := s.gens, drawn := s.drawn, toks := tk', os := s.os }) →
    wpAny (model PySem.Challenge.rw_kl0066_01.row.prog w) (callerA.deeper (lawEnv L fa cd)) (execs (st0 :: st1 :: st2 :: st3 :: st4 :: st5 :: st6 :: st7 :: st8 :: st9 :: st10 :: st11 :: st12 :: st13 :: st14 :: st15 :: st16 :: st17 :: st18 :: st19 :: []) (lawEnv L fa cd)) Q (fun _ _ => False) s
theorem LV_ne : Nonempty LV := ⟨(aWorld 0, default, [], fun _ => none, fun _ => none, fun _ => none, default, 0, 0, .none, fun _ _ => True)⟩
/-- where the walk would fail if it failed anywhere -/
noncomputable def lv : LV := @Classical.epsilon LV LV_ne fun c => ¬ BodyG c
theorem lv_all (h : BodyG lv) (c : LV) : BodyG c := Classical.byContradiction fun hx => @Classical.epsilon_spec LV (fun c => ¬ BodyG c) ⟨c, hx⟩ h
namespace K
@[irreducible] noncomputable def w : World := lv.1
@[irreducible] noncomputable def p : Program := lv.2.1
@[irreducible] noncomputable def loose : List Str := lv.2.2.1
@[irreducible] noncomputable def mean : ExcName → Option Value := lv.2.2.2.1
@[irreducible] noncomputable def mg : Str → Option Value := lv.2.2.2.2.1
@[irreducible] noncomputable def mb : Str → Option Value := lv.2.2.2.2.2.1
@[irreducible] noncomputable def h₀ : Heap := lv.2.2.2.2.2.2.1
@[irreducible] noncomputable def L : Addr := lv.2.2.2.2.2.2.2.1
@[irreducible] noncomputable def fa : Addr := lv.2.2.2.2.2.2.2.2.1
@[irreducible] noncomputable def cd : Value := lv.2.2.2.2.2.2.2.2.2.1
@[irreducible] noncomputable def Q : Flow → Shared → Prop := lv.2.2.2.2.2.2.2.2.2.2
end K
theorem lv_eq : (K.w, K.p, K.loose, K.mean, K.mg, K.mb, K.h₀, K.L, K.fa, K.cd, K.Q) = lv := by with_unfolding_all rfl

end Mine
end partGlob

/- the part Sk -/
section
open PySem PySem.W PySem.Calls PyProof.Rows PySem.Spec
namespace Mine
theorem fresh_Sk (prog : Program) (w : World) (A : Around) (env : Env) (s : Shared) (Q : Flow → Shared → Prop) (E : Value → Shared → Prop) (h : Q .next s) :
    wpAny (model prog w) A (execs [] env) Q E s := by
  w_top off
  walk1
  exact h
end Mine
end
section partSk
open PySem PySem.W PySem.Calls PyProof.Rows PySem.Spec
set_option maxHeartbeats 1600000
namespace Mine
/-- a call's surroundings, all in one -/
noncomputable abbrev CV : Type := Nat × Nat × Option (List Code) × Env × List Env × Around × Heap × Heap × Addr × (Str → Option Value) × Shared × (Value → Shared → Prop)
noncomputable def cv0 : CV := (0, 0, none, default, [], callerA, default, default, 0, fun _ => none, (start default).1, fun _ _ => True)
/-- what is told of a call, at one place of calling -/
noncomputable def ToldAt (w : World) (p : Program) (loose : List Str) (mean : ExcName → Option Value) (mg mb : Str → Option Value) (dd : Nat) (f : Value) (vs : List Value) (news : List (Addr × Obj)) (Post : Value → List (Addr × Obj) → Prop) : CV → Prop :=
  fun (dp, un, gd, env, outer, A₀, base, h₀, L, m, s, Q) =>
    Below A₀ base outer h₀ → Fr h₀ L s.heap m → (_root_.Mine.hd.heap_1 w.params).In h₀ → News h₀ L s.heap news → Top p loose mean mg mb h₀ → CodeHd h₀ 88 84 →
    env.frame = some L → env.scope.kind = .function → dp + dd < recursionLimit → un + 8 * dd < cLine →
    (∀ r h' tk' news', Fr h₀ L h' m → News h₀ L h' news' → Post r news' → Q r { s with heap := h', toks := tk' }) →
    codeAny (model PySem.Challenge.rw_kl0066_01.row.prog w) { handled := none, depth := dp, frames := some (env :: outer), guards := gd, units := un } (.call f ⟨vs, []⟩) (fun r s' => match r with | .ok (.ret v) => Q v s' | .ok _ => False | .error e => (fun _ _ => False) e s') s
theorem told_at {w : World} {p : Program} {loose : List Str} {mean : ExcName → Option Value} {mg mb : Str → Option Value} {dd : Nat} {f : Value} {vs : List Value} {news : List (Addr × Obj)} {Post : Value → List (Addr × Obj) → Prop} (h : ∀ c, ToldAt w p loose mean mg mb dd f vs news Post c) : Told w p loose mean mg mb dd f vs news Post :=
  fun dp un gd env outer A₀ base h₀ L m s Q => h (dp, un, gd, env, outer, A₀, base, h₀, L, m, s, Q)

end Mine
end partSk

/- the part R3 -/
section
open PySem PySem.W PySem.Calls PyProof.Rows PySem.Spec
namespace Mine
theorem fresh_R3 (prog : Program) (w : World) (A : Around) (env : Env) (s : Shared) (Q : Flow → Shared → Prop) (E : Value → Shared → Prop) (h : Q .next s) :
    wpAny (model prog w) A (execs [] env) Q E s := by
  w_top off
  walk1
  exact h
end Mine
end
section partR3
open PySem PySem.W PySem.Calls PyProof.Rows PySem.Spec
set_option maxHeartbeats 1600000
namespace Mine
section comps
open LCg
variable {prog : Program} {w : World} {A : Around} {E : Value → Shared → Prop} {s : Shared} {h₀ : Heap} {L : Addr} {m : Str → Option Value} {env : Env}
/-- the turns of a comprehension by an invariant -/
theorem rest_gen {elt : Expr} {x : Str} {scope : Scope} {cl : List (Str × Addr)} {S : List (Addr × Obj) → Prop} {P : Nat → Value → Prop} {Fin : List Value → List (Addr × Obj) → Prop} {n : Nat} (Inv : Nat → List Value → List (Addr × Obj) → Prop) {news : List (Addr × Obj)}
    (h0 : Inv 0 [] news)
    (turn : ∀ i ys news v I oI C oC D m₂ h tk (E' : Value → Shared → Prop), i < n → Inv i ys news → P i v → NsObj oC m₂ → m₂ x = some v → Fr h₀ L h m → News h₀ L h ((I, oI) :: (C, oC) :: (D, lst ys) :: news) → Off3 I C D news → ((@Ne Nat I C) ∧ (@Ne Nat I D) ∧ (@Ne Nat C D)) →
      wpAny (model prog w) A (eval elt (compEnvC scope cl C env)) (CompEnd h₀ L m { s with heap := h, toks := tk } I oI C oC D (lst ys) S (fun y news' => Inv (i + 1) (ys ++ [y]) news')) E' { s with heap := h, toks := tk })
    (fin : ∀ ys news, Inv n ys news → Fin ys news) : CompRest prog w A h₀ L m env elt x scope cl s S P Fin n 0 [] news := by
  have key : ∀ (k i : Nat) (ys : List Value) (news : List (Addr × Obj)), i + k = n → Inv i ys news → CompRest prog w A h₀ L m env elt x scope cl s S P Fin k i ys news := by
    intro k
    induction k with
    | zero => intro i ys news hi hI; obtain rfl : i = n := by omega
              exact CompRest.zero (fin ys news hI)
    | succ k ih =>
      intro i ys news hi hI
      refine CompRest.succ ?_
      intro v I oI C oC D m₂ h tk E' hP hC hx F N off ne
      refine wpAny_mono (turn i ys news v I oI C oC D m₂ h tk E' (by omega) hI hP hC hx F N off ne) (fun y s₂ hq => ?_) fun _ _ e => e
      obtain ⟨h', tk', nw, e, F', N', off', hS, hI'⟩ := hq
      exact ⟨h', tk', nw, e, F', N', off', hS, ih (i + 1) _ _ (by omega) hI'⟩
  exact key n 0 [] news (by omega) h0

theorem striter_st {ty : String} {x : Str} {t : Tok} {I : Addr} : ∀ i (h h' : Heap) (o : Obj) (nw : List (Addr × Obj)), h.IsStrIter I ty x t i → h.get? I = some o → h'.get? I = some o → (∀ b o, h₀.get? b = some o → h'.get? b = some o) → News h₀ L h' nw → True → h'.IsStrIter I ty x t i :=
  fun i h h' o nw st e e' _ _ _ => by obtain ⟨o', q, r⟩ := st; rw [e] at q; cases q; exact ⟨o, e', r⟩

/-- the source of a comprehension is a text -/
noncomputable def StrSrc (prog : Program) (w : World) (A : Around) (h₀ : Heap) (L : Addr) (m : Str → Option Value) (env : Env) (elt : Expr) (x : Str) (scope : Scope) (cl : List (Str × Addr)) (Q : Value → Shared → Prop) (xv : Value) (s₁ : Shared) : Prop :=
  ∃ str t news, xv = .str str t ∧ A.handled = none ∧ Fr h₀ L s₁.heap m ∧ News h₀ L s₁.heap news ∧ str.cps.size ≤ sizeLine ∧
      ∀ s₂ : Shared, (∃ h, s₂ = { s₁ with heap := h }) → CompRest prog w A h₀ L m env elt x scope cl s₂ (fun _ => True) (SignAt str) (FinE h₀ L m s₂ Q) str.cps.size 0 [] news
/-- a comprehension over a text -/
theorem ListComp_S {elt iter : Expr} {x : Str} {px : Pos} {scope : Scope} {cl : List (Str × Addr)} {pos : Pos} {Q : Value → Shared → Prop} (F₀ : Fr h₀ L s.heap m)
    (hclos : closureFor scope env = pure cl) (hcell : ∀ y ∈ scope.names, y.2 ≠ .cell) (hkind : scope.kind = .function)
    (hnames : ∀ y ∈ scope.names, y.2 = .local → scope.names.lookup y.1 = some .local) (hx : scope.names.lookup x = some .local)
    (h : wpAny (model prog w) A (eval iter env) (StrSrc prog w A h₀ L m env elt x scope cl Q) E s)
    (hs : ∀ x, foldedSetIterable iter env x = pure x := by intro _; rfl) :
    wpAny (model prog w) A (eval (.ListComp elt [⟨.Name x px, iter, [], 0⟩] scope pos) env) Q E s := by
  rw [eval_ListComp]
  refine wpAny_comprehension_free (use := none) rfl hs hclos hkind hnames (wpAny_mono h (fun xv s₁ h₁ => ?_) fun _ _ e => e)
  obtain ⟨str, t, news, rfl, hh, F, N, hsz, R⟩ := h₁
  have tail : ∀ (D C : Addr) (h : Heap) (tk : Nat) (m' : Str → Option Value) (ys : List Value) (news' : List (Addr × Obj)) (s₂ : Shared), Fr h₀ L h m → News h₀ L h ((D, lst ys) :: news') → Off1 D news' → h.Ns C m' → h₀.get? C = none → h₀.get? D = none → C ≠ L → D ≠ L → C ≠ D → (∀ p ∈ news', p.1 ≠ C) → FinE h₀ L m s₂ Q ys news' →
      ∃ m', h.Ns C m' ∧ ∀ h'' : Heap, Heap.SameBut C h h'' → Q (.ref D) { s₂ with heap := h'', toks := tk } := by
    intro D C h tk m' ys news' s₂ F' N' o1 hn hC₀ hD₀ hCL hDL hCD offC fin
    refine ⟨m', hn, fun h'' hs'' => fin D h'' tk (F'.change hs'' hCL hC₀) (fun p hp => ?_) o1⟩
    refine ⟨hs''.extBut _ _ ?_ (N' p hp).1, (N' p hp).2⟩
    rcases List.mem_cons.mp hp with rfl | hp
    · exact Ne.symm hCD
    · exact offC p hp
  cases ha : str.cps.all (· < 128)
  · refine wpAny_pyIter_wide ha ?_
    refine block_U (Walks.strWide hh s₁.heap.objs.size str t) hsz (fun i h st => by obtain ⟨o, e, _⟩ := st; exact ⟨o, e⟩) striter_st hcell hkind hx ⟨_, Heap.get?_push_size _ rfl, rfl, rfl⟩ (fun b hb => ?_)
      (F.keeps fun _ _ e => Heap.get?_push_of_some _ e) (N.grown fun _ _ e => Heap.get?_push_of_some _ e) (Nat.ne_of_lt F.ns.lt) (next_is_new F) (fun p hp => Nat.ne_of_lt (Heap.lt_size (N p hp).1)) trivial (R _ ⟨_, rfl⟩) ?_
    · rw [List.mem_singleton.mp hb]
      show s₁.heap.objs.size < (s₁.heap.push _).objs.size
      rw [Heap.size_push]; exact Nat.lt_succ_self _
    · exact fun D C h tk m' ys news' F' N' o1 hn hC₀ hD₀ hCL hDL hCD offC fin => tail D C h tk m' ys news' _ F' N' o1 hn hC₀ hD₀ hCL hDL hCD offC fin
  · refine wpAny_pyIter_ascii ha ?_
    refine block_U (Walks.strAscii hh s₁.heap.objs.size str t) hsz (fun i h st => by obtain ⟨o, e, _⟩ := st; exact ⟨o, e⟩) striter_st hcell hkind hx ⟨_, Heap.get?_push_size _ rfl, rfl, rfl⟩ (fun b hb => ?_)
      (F.keeps fun _ _ e => Heap.get?_push_of_some _ e) (N.grown fun _ _ e => Heap.get?_push_of_some _ e) (Nat.ne_of_lt F.ns.lt) (next_is_new F) (fun p hp => Nat.ne_of_lt (Heap.lt_size (N p hp).1)) trivial (R _ ⟨_, rfl⟩) ?_
    · rw [List.mem_singleton.mp hb]
      show s₁.heap.objs.size < (s₁.heap.push _).objs.size
      rw [Heap.size_push]; exact Nat.lt_succ_self _
    · exact fun D C h tk m' ys news' F' N' o1 hn hC₀ hD₀ hCL hDL hCD offC fin => tail D C h tk m' ys news' _ F' N' o1 hn hC₀ hD₀ hCL hDL hCD offC fin
/-- the source of a comprehension is a tuple of the ledger -/
noncomputable def TupSrc (prog : Program) (w : World) (A : Around) (h₀ : Heap) (L : Addr) (m : Str → Option Value) (env : Env) (elt : Expr) (x : Str) (scope : Scope) (cl : List (Str × Addr)) (Q : Value → Shared → Prop) (xv : Value) (s₁ : Shared) : Prop :=
  ∃ ax its news, xv = .ref ax ∧ A.handled = none ∧ Fr h₀ L s₁.heap m ∧ News h₀ L s₁.heap news ∧ (ax, ({ cls := .type "tuple", data := .seq its } : Obj)) ∈ news ∧ its.size ≤ sizeLine ∧
      ∀ s₂ : Shared, (∃ h, s₂ = { s₁ with heap := h }) → CompRest prog w A h₀ L m env elt x scope cl s₂ (fun nw => (ax, ({ cls := .type "tuple", data := .seq its } : Obj)) ∈ nw) (fun i v => its[i]? = some v) (FinE h₀ L m s₂ Q) its.size 0 [] news
theorem tup_st {ax I : Addr} {its : Array Value} : ∀ i (h h' : Heap) (o : Obj) (nw : List (Addr × Obj)), (h.IsTupleIter I ax i ∧ h.IsTuple ax its) → h.get? I = some o → h'.get? I = some o → (∀ b o, h₀.get? b = some o → h'.get? b = some o) → News h₀ L h' nw → (ax, ({ cls := .type "tuple", data := .seq its } : Obj)) ∈ nw → (h'.IsTupleIter I ax i ∧ h'.IsTuple ax its) :=
  fun i h h' o nw st e e' _ N S => ⟨by obtain ⟨o', q, r⟩ := st.1; rw [e] at q; cases q; exact ⟨o, e', r⟩, ⟨_, (N _ S).1, rfl, _, rfl⟩⟩
/-- a comprehension over a tuple -/
theorem ListComp_T {elt iter : Expr} {x : Str} {px : Pos} {scope : Scope} {cl : List (Str × Addr)} {pos : Pos} {Q : Value → Shared → Prop} (F₀ : Fr h₀ L s.heap m)
    (hclos : closureFor scope env = pure cl) (hcell : ∀ y ∈ scope.names, y.2 ≠ .cell) (hkind : scope.kind = .function)
    (hnames : ∀ y ∈ scope.names, y.2 = .local → scope.names.lookup y.1 = some .local) (hx : scope.names.lookup x = some .local)
    (h : wpAny (model prog w) A (eval iter env) (TupSrc prog w A h₀ L m env elt x scope cl Q) E s)
    (hs : ∀ x, foldedSetIterable iter env x = pure x := by intro _; rfl) :
    wpAny (model prog w) A (eval (.ListComp elt [⟨.Name x px, iter, [], 0⟩] scope pos) env) Q E s := by
  rw [eval_ListComp]
  refine wpAny_comprehension_free (use := none) rfl hs hclos hkind hnames (wpAny_mono h (fun xv s₁ h₁ => ?_) fun _ _ e => e)
  obtain ⟨ax, its, news, rfl, hh, F, N, hm, hsz, R⟩ := h₁
  have hl : s₁.heap.IsTuple ax its := ⟨_, (N _ hm).1, rfl, _, rfl⟩
  have hlt : ax < s₁.heap.objs.size := Heap.lt_size (N _ hm).1
  refine wpAny_pyIter_tuple hl ?_
  have up : ∀ b o, s₁.heap.get? b = some o → (s₁.heap.push { cls := .type "tuple_iterator", data := .fields #[.ref ax, .int 0 0] }).get? b = some o := fun b o e => Heap.get?_push_of_some _ e
  refine block_U (Walks.tuple hh s₁.heap.objs.size ax (Nat.ne_of_lt hlt) its) hsz (fun i h st => by obtain ⟨o, e, _⟩ := st.1; exact ⟨o, e⟩) tup_st hcell hkind hx ⟨⟨_, Heap.get?_push_size _ rfl, rfl, rfl⟩, ⟨_, up _ _ (N _ hm).1, rfl, _, rfl⟩⟩ (fun b hb => ?_)
    (F.keeps up) (N.grown up) (Nat.ne_of_lt F.ns.lt) (next_is_new F) (fun p hp => Nat.ne_of_lt (Heap.lt_size (N p hp).1)) hm (R _ ⟨_, rfl⟩) ?_
  · show b < (s₁.heap.push _).objs.size
    rw [Heap.size_push]
    rcases List.mem_cons.mp hb with rfl | hb
    · exact Nat.lt_succ_self _
    · rw [List.mem_singleton.mp hb]; exact Nat.lt_succ_of_lt hlt
  · intro D C h tk m' ys news' F' N' o1 hn hC₀ hD₀ hCL hDL hCD offC fin
    refine ⟨m', hn, fun h'' hs'' => fin D h'' tk (F'.change hs'' hCL hC₀) (fun p hp => ?_) o1⟩
    refine ⟨hs''.extBut _ _ ?_ (N' p hp).1, (N' p hp).2⟩
    rcases List.mem_cons.mp hp with rfl | hp
    · exact Ne.symm hCD
    · exact offC p hp
end comps

end Mine
end partR3

/- the part R4 -/
section
open PySem PySem.W PySem.Calls PyProof.Rows PySem.Spec
namespace Mine
theorem fresh_R4 (prog : Program) (w : World) (A : Around) (env : Env) (s : Shared) (Q : Flow → Shared → Prop) (E : Value → Shared → Prop) (h : Q .next s) :
    wpAny (model prog w) A (execs [] env) Q E s := by
  w_top off
  walk1
  exact h
end Mine
end
section partR4
open PySem PySem.W PySem.Calls PyProof.Rows PySem.Spec
set_option maxHeartbeats 1600000
namespace Mine
noncomputable def fltL (x y : UInt64) : Bool := Float64.cmp x y == some .lt
noncomputable def max3 (x y z : UInt64) : UInt64 := if fltL x y then (if fltL y z then z else y) else (if fltL x z then z else x)
noncomputable def min3 (x y z : UInt64) : UInt64 := if fltL y x then (if fltL z y then z else y) else (if fltL z x then z else x)
section
open PySem.Flt
variable {prog : Program} {w : World} {A : Around} {E : Value → Shared → Prop} {s : Shared} {Q : Value → Shared → Prop}

theorem max3_num {a b c : Value} (hh : A.handled = none) (ha : NumV a) (hb : NumV b) (hc : NumV c)
    (h : ∀ h' tk, (∀ c o, s.heap.get? c = some o → h'.get? c = some o) → Q (if ltV a b then (if ltV b c then c else b) else (if ltV a c then c else a)) { s with heap := h', toks := tk }) :
    wpAny (model prog w) A (call (.builtin "max") [a, b, c]) Q E s := by
  have hT : (s.heap.push { cls := .type "tuple", data := .seq #[a, b, c] }).IsTuple s.heap.objs.size #[a, b, c] := ⟨_, Heap.get?_push_size _ rfl, rfl, 0, rfl⟩
  refine call_max_three (wpAny_pyIter_tuple hT ?_)
  have hsz : (s.heap.push { cls := .type "tuple", data := .seq #[a, b, c] }).objs.size = s.heap.objs.size + 1 := Heap.size_push ..
  refine ⟨_, [_, s.heap.objs.size], [_], _, _, _, _, rfl, Walks.tuple (A := A.in1) hh _ s.heap.objs.size (by rw [hsz]; exact Nat.ne_of_lt (Nat.lt_succ_self _)) #[a, b, c],
    ⟨⟨_, Heap.get?_push_size _ rfl, rfl, rfl⟩, hT.push _⟩, fun d hd => ?_, by simp, cmpOf_gt #[a, b, c] (by simp [ha, hb, hc]), fun v h' tk hP hk => ?_⟩
  · show d < ((s.heap.push _).push _).objs.size
    rw [Heap.size_push, hsz]
    rcases List.mem_cons.mp hd with rfl | hd
    · rw [hsz]; exact Nat.lt_succ_self _
    · rcases List.mem_cons.mp hd with rfl | hd
      · exact Nat.lt_succ_of_lt (Nat.lt_succ_self _)
      · cases hd
  · have hold : ∀ d o, s.heap.get? d = some o → h'.get? d = some o := fun d o e => by
      refine hk d o (fun hm => ?_) (Heap.get?_push_of_some _ (Heap.get?_push_of_some _ e))
      rcases List.mem_cons.mp hm with e1 | hm
      · have := Heap.lt_size e; rw [e1, hsz] at this; exact Nat.lt_irrefl _ (Nat.lt_of_succ_lt this)
      · cases hm
    have := h h' tk hold
    have hv : v = if ltV a b then (if ltV b c then c else b) else (if ltV a c then c else a) := by
      cases h1 : ltV a b <;> cases h2 : ltV b c <;> cases h3 : ltV a c <;> simp [argBest, h1, h2, h3] at hP <;> simp [hP]
    rw [hv]; exact this
theorem max3_ff {x y z : UInt64} {t u v : Tok} {h₀ : Heap} {L : Addr} {m : Str → Option Value} {news : List (Addr × Obj)} (hh : A.handled = none) (F : Fr h₀ L s.heap m) (N : News h₀ L s.heap news)
    (h : ∀ h' tk q, Fr h₀ L h' m → News h₀ L h' news → Q (.float (max3 x y z) q) { s with heap := h', toks := tk }) :
    wpAny (model prog w) A (call (.builtin "max") [.float x t, .float y u, .float z v]) Q E s := by
  refine max3_num hh (.float x t) (.float y u) (.float z v) fun h' tk kp => ?_
  have hq := fun q => h h' tk q (F.grownK kp) (N.grown kp)
  unfold max3 fltL at hq
  show Q (if fltL x y then (if fltL y z then _ else _) else (if fltL x z then _ else _)) _
  unfold fltL
  split
  · rename_i h1
    split
    · rename_i h2
      have := hq v; rwa [if_pos h1, if_pos h2] at this
    · rename_i h2
      have := hq u; rwa [if_pos h1, if_neg h2] at this
  · rename_i h1
    split
    · rename_i h2
      have := hq v; rwa [if_neg h1, if_pos h2] at this
    · rename_i h2
      have := hq t; rwa [if_neg h1, if_neg h2] at this

theorem min3_num {a b c : Value} (hh : A.handled = none) (ha : NumV a) (hb : NumV b) (hc : NumV c)
    (h : ∀ h' tk, (∀ c o, s.heap.get? c = some o → h'.get? c = some o) → Q (if ltV b a then (if ltV c b then c else b) else (if ltV c a then c else a)) { s with heap := h', toks := tk }) :
    wpAny (model prog w) A (call (.builtin "min") [a, b, c]) Q E s := by
  have hT : (s.heap.push { cls := .type "tuple", data := .seq #[a, b, c] }).IsTuple s.heap.objs.size #[a, b, c] := ⟨_, Heap.get?_push_size _ rfl, rfl, 0, rfl⟩
  refine call_min_three (wpAny_pyIter_tuple hT ?_)
  have hsz : (s.heap.push { cls := .type "tuple", data := .seq #[a, b, c] }).objs.size = s.heap.objs.size + 1 := Heap.size_push ..
  refine ⟨_, [_, s.heap.objs.size], [_], _, _, _, _, rfl, Walks.tuple (A := A.in1) hh _ s.heap.objs.size (by rw [hsz]; exact Nat.ne_of_lt (Nat.lt_succ_self _)) #[a, b, c],
    ⟨⟨_, Heap.get?_push_size _ rfl, rfl, rfl⟩, hT.push _⟩, fun d hd => ?_, by simp, cmpOf_lt #[a, b, c] (by simp [ha, hb, hc]), fun v h' tk hP hk => ?_⟩
  · show d < ((s.heap.push _).push _).objs.size
    rw [Heap.size_push, hsz]
    rcases List.mem_cons.mp hd with rfl | hd
    · rw [hsz]; exact Nat.lt_succ_self _
    · rcases List.mem_cons.mp hd with rfl | hd
      · exact Nat.lt_succ_of_lt (Nat.lt_succ_self _)
      · cases hd
  · have hold : ∀ d o, s.heap.get? d = some o → h'.get? d = some o := fun d o e => by
      refine hk d o (fun hm => ?_) (Heap.get?_push_of_some _ (Heap.get?_push_of_some _ e))
      rcases List.mem_cons.mp hm with e1 | hm
      · have := Heap.lt_size e; rw [e1, hsz] at this; exact Nat.lt_irrefl _ (Nat.lt_of_succ_lt this)
      · cases hm
    have := h h' tk hold
    have hv : v = if ltV b a then (if ltV c b then c else b) else (if ltV c a then c else a) := by
      cases h1 : ltV b a <;> cases h2 : ltV c b <;> cases h3 : ltV c a <;> simp [argBest, h1, h2, h3] at hP <;> simp [hP]
    rw [hv]; exact this
theorem min3_ff {x y z : UInt64} {t u v : Tok} {h₀ : Heap} {L : Addr} {m : Str → Option Value} {news : List (Addr × Obj)} (hh : A.handled = none) (F : Fr h₀ L s.heap m) (N : News h₀ L s.heap news)
    (h : ∀ h' tk q, Fr h₀ L h' m → News h₀ L h' news → Q (.float (min3 x y z) q) { s with heap := h', toks := tk }) :
    wpAny (model prog w) A (call (.builtin "min") [.float x t, .float y u, .float z v]) Q E s := by
  refine min3_num hh (.float x t) (.float y u) (.float z v) fun h' tk kp => ?_
  have hq := fun q => h h' tk q (F.grownK kp) (N.grown kp)
  unfold min3 fltL at hq
  show Q (if fltL y x then (if fltL z y then _ else _) else (if fltL z x then _ else _)) _
  unfold fltL
  split
  · rename_i h1
    split
    · rename_i h2
      have := hq v; rwa [if_pos h1, if_pos h2] at this
    · rename_i h2
      have := hq u; rwa [if_pos h1, if_neg h2] at this
  · rename_i h1
    split
    · rename_i h2
      have := hq v; rwa [if_neg h1, if_pos h2] at this
    · rename_i h2
      have := hq t; rwa [if_neg h1, if_neg h2] at this
end

end Mine
end partR4

/- the part R5 -/
section
open PySem PySem.W PySem.Calls PyProof.Rows PySem.Spec
namespace Mine
theorem fresh_R5 (prog : Program) (w : World) (A : Around) (env : Env) (s : Shared) (Q : Flow → Shared → Prop) (E : Value → Shared → Prop) (h : Q .next s) :
    wpAny (model prog w) A (execs [] env) Q E s := by
  w_top off
  walk1
  exact h
end Mine
end
section partR5
open PySem PySem.W PySem.Calls PyProof.Rows PySem.Spec
set_option maxHeartbeats 1600000
namespace Mine
section feqs
variable {prog : Program} {w : World} {A : Around} {E : Value → Shared → Prop} {s : Shared}
theorem isSame_flt {x : UInt64} {t u : Tok} {Q : Bool → Shared → Prop} (ht : t ≠ 0) (hu : u ≠ 0) (hb : NoneBooked s.heap) (hq : ∀ b, Q b s) : wpAny (model prog w) A (isSame (.float x t) (.float x u)) Q E s := by
  show wpAny _ A (isSame.created (x == x && !Float64.isNaN x) t u) Q E s
  unfold isSame.created
  refine wpAny_ite ?_
  split
  · rename_i h; simp [ht, hu] at h
  refine wpAny_ite ?_
  split
  · exact wpAny_pure (hq _)
  refine wpAny_ite ?_
  split
  · exact wpAny_pure (hq _)
  refine wpAny_bind (wpAny_sharingNotTold_none hb ?_)
  first | rw [if_neg Bool.false_ne_true] | simp only [Bool.false_eq_true, if_false]
  refine wpAny_bind (wpAny_sharingNotTold_none hb ?_)
  first | rw [if_neg Bool.false_ne_true] | simp only [Bool.false_eq_true, if_false]
  exact wpAny_bind (wpAny_rule (wpAny_bind (wpAny_askSetting (wpAny_pure (hq _)))))
theorem eqBool_flt {x : UInt64} {t u : Tok} {Q : Bool → Shared → Prop} (ht : t ≠ 0) (hu : u ≠ 0) (hb : NoneBooked s.heap) (hx : (Float64.cmp x x == some .eq) = true) (hq : Q true s) : wpAny (model prog w) A (eqBool (.float x t) (.float x u)) Q E s := by
  unfold eqBool
  refine wpAny_holding ?_
  refine wpAny_ite_split (fun _ => wpAny_bind (wpAny_rule (wpAny_pure hq))) (fun _ => ?_)
  show wpAny _ _ (isSame _ _ >>= _) _ _ _
  refine wpAny_bind (isSame_flt ht hu hb fun b => ?_)
  cases b with
  | true => exact wpAny_pure hq
  | false =>
    refine wpAny_bind (richCompare_gives (op := .Eq) (typeIs_float _ _ _) (typeIs_float _ _ _) F.slot_float_eq F.entry_float_eq (F.args_float_eq_2 _ _) (AutoFloatG5.float___eq___float_float_0 x t x u) (fun x => nomatch x) ?_)
    exact wpAny_truthy_bool (by show Q (Float64.cmp x x == some Ordering.eq) s; rw [hx]; exact hq)

/-- a tuple's floats with their tokens -/
inductive FlsTok : List UInt64 → List Value → Prop
  | nil : FlsTok [] []
  | cons {x : UInt64} {t : Tok} {xs : List UInt64} {vs : List Value} (hx : (Float64.cmp x x == some .eq) = true) (ht : t ≠ 0) (r : FlsTok xs vs) : FlsTok (x :: xs) (.float x t :: vs)
theorem FlsTok.cons' {x y : UInt64} {t : Tok} {xs : List UInt64} {vs : List Value} (he : y = x) (hx : (Float64.cmp x x == some .eq) = true) (ht : @LT.lt Nat _ 0 t) (r : FlsTok xs vs) : FlsTok (x :: xs) (.float y t :: vs) :=
  he ▸ .cons (he ▸ hx) (Nat.ne_of_gt ht) r
theorem FlsTok.len {xs : List UInt64} {vs : List Value} (h : FlsTok xs vs) : vs.length = xs.length := by
  induction h with
  | nil => rfl
  | cons _ _ _ ih => simp [ih]
theorem teq_tree {xs : List UInt64} {vs us : List Value} {a b : Addr} {oa ob : Obj} {na nb : Nat} {P : Fin → Shared → Prop} (hoa : s.heap.get? a = some oa) (hda : oa.data = .seq vs.toArray na) (hob : s.heap.get? b = some ob) (hcb : ob.cls = .type "tuple") (hdb : ob.data = .seq us.toArray nb)
    (hv : FlsTok xs vs) (hu : FlsTok xs us) (hb : NoneBooked s.heap) (h : P (.done (.ret (.bool true))) s) : wpAny (model prog w) A (Builtin.«tuple.__eq__» ⟨[.ref a, .ref b], []⟩) P E s := by
  show wpAny _ _ (isInstance (.ref b) (.type "tuple") >>= _) _ _ s
  refine wpAny_bind (wpAny_isInstance ⟨_, hob, hcb⟩ isSubtype_tuple_tuple ?_)
  simp only [Bool.not_true, Bool.false_eq_true, if_false]
  refine wpAny_bind (wpAny_tupleItemsOf hoa hda ?_)
  refine wpAny_bind (wpAny_tupleItemsOf hob hdb ?_)
  refine wpAny_bind ?_
  refine wpAny_forIn_list _ (fun rest r s' => r.1 = none ∧ s' = s ∧ ∃ xs' vs' us', rest = List.zip vs' us' ∧ FlsTok xs' vs' ∧ FlsTok xs' us') _ ?_ ?_ _ _ ⟨rfl, rfl, xs, vs, us, rfl, hv, hu⟩
  · rintro ⟨u, v⟩ rest r s' ⟨hr, rfl, xs', vs', us', hz, hx', hy'⟩
    cases hx' with
    | nil => simp at hz
    | cons hxx ht hx'' =>
      cases hy' with
      | cons _ hu' hy'' =>
        simp only [List.zip_cons_cons, List.cons.injEq, Prod.mk.injEq] at hz
        obtain ⟨⟨rfl, rfl⟩, rfl⟩ := hz
        refine wpAny_bind (eqBool_flt ht hu' hb hxx ?_)
        simp only [Bool.not_true, Bool.false_eq_true, if_false]
        exact wpAny_pure ⟨rfl, rfl, _, _, _, rfl, hx'', hy''⟩
  · rintro ⟨r1, r2⟩ s' ⟨hr, rfl, _⟩
    simp only at hr
    subst hr
    refine wpAny_pure ?_
    show P (.done (.ret (.bool (vs.toArray.size == us.toArray.size)))) s'
    rw [List.size_toArray, List.size_toArray, hv.len, hu.len, beq_self_eq_true]
    exact h
theorem teq {xs : List UInt64} {vs us : List Value} {a b : Addr} {oa ob : Obj} {na nb : Nat} {Q : Value → Shared → Prop} (hA : A.units < cLine) (hoa : s.heap.get? a = some oa) (hca : oa.cls = .type "tuple") (hda : oa.data = .seq vs.toArray na) (hob : s.heap.get? b = some ob) (hcb : ob.cls = .type "tuple") (hdb : ob.data = .seq us.toArray nb)
    (hv : FlsTok xs vs) (hu : FlsTok xs us) (hb : NoneBooked s.heap) (h : Q (.bool true) s) : wpAny (model prog w) A (compareOp .Eq (.ref a) (.ref b)) Q E s := by
  have hT : s.TypeIs (.ref a) "tuple" := ⟨_, hoa, hca⟩
  have hT2 : s.TypeIs (.ref b) "tuple" := ⟨_, hob, hcb⟩
  show wpAny _ _ (richCompare .Eq (.ref a) (.ref b)) _ _ _
  exact wpAny_richCompare_same_room (op := .Eq) hT hT2 F.slot_tuple_eq
      (wpAny_call_entry F.slot_tuple_eq hT F.entry_tuple_eq (teq_tree hoa hda hob hcb hdb hv hu hb ⟨_, rfl, (fun e => nomatch e), h⟩) (F.args_tuple_eq_2 _ _)) hA
theorem tne_tree {xs : List UInt64} {vs us : List Value} {a b : Addr} {oa ob : Obj} {na nb : Nat} {P : Fin → Shared → Prop} (hoa : s.heap.get? a = some oa) (hda : oa.data = .seq vs.toArray na) (hob : s.heap.get? b = some ob) (hcb : ob.cls = .type "tuple") (hdb : ob.data = .seq us.toArray nb)
    (hv : FlsTok xs vs) (hu : FlsTok xs us) (hb : NoneBooked s.heap) (h : P (.done (.ret (.bool false))) s) : wpAny (model prog w) A (Builtin.«tuple.__ne__» ⟨[.ref a, .ref b], []⟩) P E s := by
  show wpAny _ _ (isInstance (.ref b) (.type "tuple") >>= _) _ _ s
  refine wpAny_bind (wpAny_isInstance ⟨_, hob, hcb⟩ isSubtype_tuple_tuple ?_)
  simp only [Bool.not_true, Bool.false_eq_true, if_false]
  refine wpAny_bind (wpAny_tupleItemsOf hoa hda ?_)
  refine wpAny_bind (wpAny_tupleItemsOf hob hdb ?_)
  refine wpAny_bind ?_
  refine wpAny_forIn_list _ (fun rest r s' => r.1 = none ∧ s' = s ∧ ∃ xs' vs' us', rest = List.zip vs' us' ∧ FlsTok xs' vs' ∧ FlsTok xs' us') _ ?_ ?_ _ _ ⟨rfl, rfl, xs, vs, us, rfl, hv, hu⟩
  · rintro ⟨u, v⟩ rest r s' ⟨hr, rfl, xs', vs', us', hz, hx', hy'⟩
    cases hx' with
    | nil => simp at hz
    | cons hxx ht hx'' =>
      cases hy' with
      | cons _ hu' hy'' =>
        simp only [List.zip_cons_cons, List.cons.injEq, Prod.mk.injEq] at hz
        obtain ⟨⟨rfl, rfl⟩, rfl⟩ := hz
        refine wpAny_bind (eqBool_flt ht hu' hb hxx ?_)
        simp only [Bool.not_true, Bool.false_eq_true, if_false]
        exact wpAny_pure ⟨rfl, rfl, _, _, _, rfl, hx'', hy''⟩
  · rintro ⟨r1, r2⟩ s' ⟨hr, rfl, _⟩
    simp only at hr
    subst hr
    refine wpAny_pure ?_
    show P (.done (.ret (.bool (vs.toArray.size != us.toArray.size)))) s'
    rw [List.size_toArray, List.size_toArray, hv.len, hu.len, bne_self_eq_false]
    exact h
theorem tne {xs : List UInt64} {vs us : List Value} {a b : Addr} {oa ob : Obj} {na nb : Nat} {Q : Value → Shared → Prop} (hA : A.units < cLine) (hoa : s.heap.get? a = some oa) (hca : oa.cls = .type "tuple") (hda : oa.data = .seq vs.toArray na) (hob : s.heap.get? b = some ob) (hcb : ob.cls = .type "tuple") (hdb : ob.data = .seq us.toArray nb)
    (hv : FlsTok xs vs) (hu : FlsTok xs us) (hb : NoneBooked s.heap) (h : Q (.bool false) s) : wpAny (model prog w) A (compareOp .NotEq (.ref a) (.ref b)) Q E s := by
  have hT : s.TypeIs (.ref a) "tuple" := ⟨_, hoa, hca⟩
  have hT2 : s.TypeIs (.ref b) "tuple" := ⟨_, hob, hcb⟩
  show wpAny _ _ (richCompare .NotEq (.ref a) (.ref b)) _ _ _
  exact wpAny_richCompare_same_room (op := .NotEq) hT hT2 F.slot_tuple_ne
      (wpAny_call_entry F.slot_tuple_ne hT F.entry_tuple_ne (tne_tree hoa hda hob hcb hdb hv hu hb ⟨_, rfl, (fun e => nomatch e), h⟩) (F.args_tuple_ne_2 _ _)) hA
theorem booked {w : World} {p loose mean mg mb} {g : Heap} (X : (_root_.Mine.hd.heap_1 w.params).In g) (T : Top p loose mean mg mb g) : NoneBooked g := by
  have h : PySem.Challenge.rw_kl0066_01 = PySem.Challenge.rw_kl0066_01 → (_root_.Mine.hd.heap_1 w.params).In g → NoneBooked g := by
    k_fill
    intro _ X
    obtain ⟨mc, hn, _⟩ := T.nodigits
    refine ⟨mc, hn, ns_none_of X hn ?_⟩
    k_dflt k_is
  exact h rfl X
theorem booked_keep {g h : Heap} {L : Addr} {m : Str → Option Value} (hb : NoneBooked g) (F : Fr g L h m) : NoneBooked h := by
  obtain ⟨mc, hn, hk⟩ := hb
  exact ⟨mc, hn.at' fun o e => F.keep _ o e, hk⟩
noncomputable abbrev tupO (vs : List Value) : Obj := { cls := .type "tuple", data := .seq vs.toArray }
theorem teqL {h₀ : Heap} {L a b : Addr} {m : Str → Option Value} {news : List (Addr × Obj)} {xs : List UInt64} {vs us : List Value} {Q : Value → Shared → Prop} (hb : NoneBooked h₀) (hA : A.units < cLine) (F : Fr h₀ L s.heap m) (N : News h₀ L s.heap news)
    (ha : (a, tupO vs) ∈ news) (hc : (b, tupO us) ∈ news) (hv : FlsTok xs vs) (hu : FlsTok xs us) (h : Q (.bool true) s) : wpAny (model prog w) A (compareOp .Eq (.ref a) (.ref b)) Q E s :=
  teq hA (N _ ha).1 rfl rfl (N _ hc).1 rfl rfl hv hu (booked_keep hb F) h
theorem tneL {h₀ : Heap} {L a b : Addr} {m : Str → Option Value} {news : List (Addr × Obj)} {xs : List UInt64} {vs us : List Value} {Q : Value → Shared → Prop} (hb : NoneBooked h₀) (hA : A.units < cLine) (F : Fr h₀ L s.heap m) (N : News h₀ L s.heap news)
    (ha : (a, tupO vs) ∈ news) (hc : (b, tupO us) ∈ news) (hv : FlsTok xs vs) (hu : FlsTok xs us) (h : Q (.bool false) s) : wpAny (model prog w) A (compareOp .NotEq (.ref a) (.ref b)) Q E s :=
  tne hA (N _ ha).1 rfl rfl (N _ hc).1 rfl rfl hv hu (booked_keep hb F) h
end feqs

end Mine
end partR5

/- the part R6 -/
section
open PySem PySem.W PySem.Calls PyProof.Rows PySem.Spec
namespace Mine
theorem fresh_R6 (prog : Program) (w : World) (A : Around) (env : Env) (s : Shared) (Q : Flow → Shared → Prop) (E : Value → Shared → Prop) (h : Q .next s) :
    wpAny (model prog w) A (execs [] env) Q E s := by
  w_top off
  walk1
  exact h
end Mine
end
section partR6
open PySem PySem.W PySem.Calls PyProof.Rows PySem.Spec
set_option maxHeartbeats 1600000
namespace Mine
section bools
variable {prog : Program} {w : World} {A : Around} {E : Value → Shared → Prop} {s : Shared} {h₀ : Heap} {L a : Addr} {news : List (Addr × Obj)} {Q : Value → Shared → Prop}
theorem reads_falses (h : Heap) : ∀ n : Nat, ReadsAll h (List.replicate n (Value.bool false)) (List.replicate n (PyData.bool false)) []
  | 0 => .nil
  | n + 1 => by
    have := ReadsAll.cons (Reads.bool (h := h) false) (reads_falses h n)
    simpa [List.replicate_succ] using this
theorem falses_lay : ∀ n : Nat, PyData.canLayAll0 (List.replicate n (PyData.bool false)) = true
  | 0 => rfl
  | n + 1 => by simp [List.replicate_succ, PyData.canLayAll0, PyData.canLay0, falses_lay n]
theorem falses_depth : ∀ n : Nat, PyData.depthAll (List.replicate n (PyData.bool false)) = 0
  | 0 => rfl
  | n + 1 => by simp [List.replicate_succ, PyData.depthAll, PyData.depth, falses_depth n]
theorem falses_any (n : Nat) : ((List.replicate n (PyData.bool false)).any fun y => PyData.eqv y (PyData.bool true)) = false := by
  rw [List.any_eq_false]
  intro x hx
  rw [(List.mem_replicate.mp hx).2]
  decide
theorem true_notIn {n k : Nat} (N : News h₀ L s.heap news) (m : (a, W.listOf (List.replicate n (Value.bool false)).toArray k) ∈ news) (hu : A.units + 1 < cLine) (h : Q (.bool true) s) :
    wpAny (model prog w) A (compareOp .NotIn (.bool true) (.ref a)) Q E s := by
  refine SeqAt.notIn_list_reads (d := PyData.bool true) (reads_list_at (N _ m).1 rfl rfl (by simpa using reads_falses s.heap n)) (Reads.bool _) (falses_lay n) rfl ?_ (by rw [falses_any]; exact h)
  rw [falses_depth]
  show A.units + 1 + min 0 0 < cLine
  exact hu
theorem true_in {n k : Nat} (N : News h₀ L s.heap news) (m : (a, W.listOf (List.replicate n (Value.bool false)).toArray k) ∈ news) (hu : A.units + 1 < cLine) (h : Q (.bool false) s) :
    wpAny (model prog w) A (compareOp .In (.bool true) (.ref a)) Q E s := by
  refine SeqAt.in_list_reads (d := PyData.bool true) (reads_list_at (N _ m).1 rfl rfl (by simpa using reads_falses s.heap n)) (Reads.bool _) (falses_lay n) rfl ?_ (by rw [falses_any]; exact h)
  rw [falses_depth]
  show A.units + 1 + min 0 0 < cLine
  exact hu
end bools

end Mine
end partR6

/- the part R7 -/
section
open PySem PySem.W PySem.Calls PyProof.Rows PySem.Spec
namespace Mine
theorem fresh_R7 (prog : Program) (w : World) (A : Around) (env : Env) (s : Shared) (Q : Flow → Shared → Prop) (E : Value → Shared → Prop) (h : Q .next s) :
    wpAny (model prog w) A (execs [] env) Q E s := by
  w_top off
  walk1
  exact h
end Mine
end
section partR7
open PySem PySem.W PySem.Calls PyProof.Rows PySem.Spec
set_option maxHeartbeats 1600000
namespace Mine
section iters
variable {prog : Program} {w : World} {A : Around} {E : Value → Shared → Prop} {s : Shared} {h₀ : Heap} {L I ax : Addr} {m : Str → Option Value} {news : List (Addr × Obj)}
/-- the iterator of a tuple at place i -/
noncomputable def TupIt (o : Obj) (ax : Addr) (i : Nat) : Prop := o.cls = .type "tuple_iterator" ∧ o.data = .fields #[.ref ax, .int i 0]
theorem ext_fr {h h' : Heap} (F : Fr h₀ L h m) (hs : Heap.ExtBut I h h') (hL : L ≠ I) (hI : h₀.get? I = none) : Fr h₀ L h' m :=
  LCg.fr_but F (fun b o hb e => hs b o (by simpa using hb) e) hL hI
theorem ext_news {h h' : Heap} (N : News h₀ L h news) (hs : Heap.ExtBut I h h') (off : ∀ p ∈ news, p.1 ≠ I) : News h₀ L h' news :=
  LCg.news_but N (fun b o hb e => hs b o (by simpa using hb) e) off
theorem tup_iter {its : Array Value} {Q : Value → Shared → Prop} (F : Fr h₀ L s.heap m) (N : News h₀ L s.heap news) (hm : (ax, ({ cls := .type "tuple", data := .seq its } : Obj)) ∈ news)
    (h : ∀ I oI h', Fr h₀ L h' m → News h₀ L h' ((I, oI) :: news) → TupIt oI ax 0 → (∀ p ∈ news, p.1 < I) → Q (.ref I) { s with heap := h' }) : wpAny (model prog w) A (pyIter (.ref ax)) Q E s := by
  refine wpAny_pyIter_tuple (items := its) ⟨_, (N _ hm).1, rfl, _, rfl⟩ ?_
  exact h _ _ _ (F.push _) (News.push F N _ rfl) ⟨rfl, rfl⟩ fun q hq => Heap.lt_size (N q hq).1
theorem tup_next {its : Array Value} {x : Value} {oI : Obj} {i : Nat} {Q : Option Value → Shared → Prop} (F : Fr h₀ L s.heap m) (N : News h₀ L s.heap ((I, oI) :: news)) (off : ∀ p ∈ news, p.1 ≠ I) (hI : TupIt oI ax i) (hm : (ax, ({ cls := .type "tuple", data := .seq its } : Obj)) ∈ news)
    (hx : its[i]? = some x) (h : ∀ oI h', Fr h₀ L h' m → News h₀ L h' ((I, oI) :: news) → TupIt oI ax (i + 1) → Q (some x) { s with heap := h' }) : wpAny (model prog w) A (pyNext (.ref I)) Q E s := by
  have z := N _ (List.mem_cons_self ..)
  have y := N _ (List.mem_cons_of_mem _ hm)
  refine wpAny_pyNext_tuple_item (t := ax) ⟨oI, z.1, hI⟩ ⟨_, y.1, rfl, _, rfl⟩ hx fun h' hit hs => ?_
  obtain ⟨o, ho, hc, hd⟩ := hit
  exact h o h' (ext_fr F hs.extBut (Ne.symm z.2.1) z.2.2) (fun p hp => by
    rcases List.mem_cons.mp hp with rfl | hp
    · exact ⟨ho, z.2⟩
    · exact ext_news (fun p hp => N p (List.mem_cons_of_mem _ hp)) hs.extBut off p hp) ⟨hc, hd⟩
theorem tup_done {its : Array Value} {oI : Obj} {i : Nat} {Q : Option Value → Shared → Prop} (hh : A.handled = none) (F : Fr h₀ L s.heap m) (N : News h₀ L s.heap ((I, oI) :: news)) (off : ∀ p ∈ news, p.1 ≠ I) (hI : TupIt oI ax i) (hm : (ax, ({ cls := .type "tuple", data := .seq its } : Obj)) ∈ news)
    (hx : its[i]? = none) (h : ∀ h', Fr h₀ L h' m → News h₀ L h' news → Q none { s with heap := h' }) : wpAny (model prog w) A (pyNext (.ref I)) Q E s := by
  have z := N _ (List.mem_cons_self ..)
  have y := N _ (List.mem_cons_of_mem _ hm)
  refine wpAny_pyNext_tuple_end hh (t := ax) ⟨oI, z.1, hI⟩ ⟨_, y.1, rfl, _, rfl⟩ hx fun h' hs => ?_
  exact h h' (ext_fr F hs (Ne.symm z.2.1) z.2.2) (ext_news (fun p hp => N p (List.mem_cons_of_mem _ hp)) hs off)
/-- the iterator of a range, that has n numbers left from x -/
noncomputable def RngIt (o : Obj) (x left step : Int) : Prop := ∀ (h : Heap) (I : Addr), h.get? I = some o → IsRangeIter h I x left step
theorem rng_iter {r : Addr} {a b c : Int} {t u v : Tok} {Q : Value → Shared → Prop} (hsm : Builtin.Range.small a b c = true) (F : Fr h₀ L s.heap m) (N : News h₀ L s.heap news) (hr : IsRange s.heap r a b c t u v)
    (h : ∀ I oI h', Fr h₀ L h' m → News h₀ L h' ((I, oI) :: news) → RngIt oI a (Builtin.Range.rangeSize a b c) c → (∀ p ∈ news, p.1 < I) → Q (.ref I) { s with heap := h' }) : wpAny (model prog w) A (pyIter (.ref r)) Q E s := by
  refine wpAny_pyIter_range hr hsm ?_
  exact h _ _ _ (F.push _) (News.push F N _ rfl) (fun _ _ e => e) fun q hq => Heap.lt_size (N q hq).1
theorem rng_next {x left step : Int} {oI : Obj} {Q : Option Value → Shared → Prop} (F : Fr h₀ L s.heap m) (N : News h₀ L s.heap ((I, oI) :: news)) (off : ∀ p ∈ news, p.1 ≠ I) (hI : RngIt oI x left step) (hl : 0 < left)
    (h : ∀ oI h', Fr h₀ L h' m → News h₀ L h' ((I, oI) :: news) → RngIt oI (x + step) (left - 1) step → Q (some (.int x s.toks)) { s with heap := h', toks := s.toks + 1 }) : wpAny (model prog w) A (pyNext (.ref I)) Q E s := by
  have z := N _ (List.mem_cons_self ..)
  refine wpAny_pyNext_range_item (hI _ _ z.1) hl fun h' hit hs => ?_
  have hit' : h'.get? I = some _ := hit
  exact h _ h' (ext_fr F hs.extBut (Ne.symm z.2.1) z.2.2) (fun p hp => by
    rcases List.mem_cons.mp hp with rfl | hp
    · exact ⟨hit', z.2⟩
    · exact ext_news (fun p hp => N p (List.mem_cons_of_mem _ hp)) hs.extBut off p hp) (fun _ _ e => e)
theorem rng_done {x left step : Int} {oI : Obj} {Q : Option Value → Shared → Prop} (hh : A.handled = none) (F : Fr h₀ L s.heap m) (N : News h₀ L s.heap ((I, oI) :: news)) (off : ∀ p ∈ news, p.1 ≠ I) (hI : RngIt oI x left step) (hl : left ≤ 0)
    (h : ∀ h', Fr h₀ L h' m → News h₀ L h' news → Q none { s with heap := h' }) : wpAny (model prog w) A (pyNext (.ref I)) Q E s := by
  have z := N _ (List.mem_cons_self ..)
  refine wpAny_pyNext_range_end hh (hI _ _ z.1) hl fun h' hs => ?_
  exact h h' (ext_fr F hs (Ne.symm z.2.1) z.2.2) (ext_news (fun p hp => N p (List.mem_cons_of_mem _ hp)) hs off)
end iters

end Mine
end partR7

/- the part FWord -/
section
open PySem PySem.W PySem.Calls PyProof.Rows PySem.Spec
namespace Mine
theorem fresh_FWord (prog : Program) (w : World) (A : Around) (env : Env) (s : Shared) (Q : Flow → Shared → Prop) (E : Value → Shared → Prop) (h : Q .next s) :
    wpAny (model prog w) A (execs [] env) Q E s := by
  w_top off
  walk1
  exact h
end Mine
end
section partFWord
open PySem PySem.W PySem.Calls PyProof.Rows PySem.Spec
set_option maxHeartbeats 1600000
namespace Mine
open K
noncomputable def mst : Nat → Int
  | 0 => 0
  | n + 1 => 8 * mst n + 1
theorem mst_nonneg : ∀ k, 0 ≤ mst k
  | 0 => by decide
  | k + 1 => by have := mst_nonneg k; unfold mst; omega
theorem mst_le : ∀ {k}, k ≤ 3 → mst k ≤ 73 := by
  intro k h
  have : k = 0 ∨ k = 1 ∨ k = 2 ∨ k = 3 := by omega
  rcases this with rfl | rfl | rfl | rfl <;> decide
noncomputable def sgn8 : List Nat := [9, 10, 13, 32, 34, 35, 92, 97]
noncomputable def wordL : Nat → Int → List Nat
  | 0, _ => []
  | k + 1, lv => if lv = 0 then [] else sgn8.getD ((lv - 1).fdiv (mst (k + 1))).toNat 0 :: wordL k ((lv - 1).fmod (mst (k + 1)))
theorem wordL_len : ∀ k lv, (wordL k lv).length ≤ k
  | 0, _ => Nat.le_refl _
  | k + 1, lv => by
    unfold wordL
    split
    · exact Nat.zero_le _
    · simp only [List.length_cons]; exact Nat.succ_le_succ (wordL_len k _)
theorem S_len (l : List Nat) : (S l).length = l.length := by show l.toArray.size = _; simp
theorem S_app (a b : List Nat) : S a ++ S b = S (a ++ b) := by
  show (⟨a.toArray ++ b.toArray⟩ : Str) = _
  simp
theorem signs_item {i : Int} (h0 : 0 ≤ i) (h1 : i < 8) : Txt.item (Str.ofString "\t\n\x0d \"#\\a") i = S [sgn8.getD i.toNat 0] := by
  have : i = 0 ∨ i = 1 ∨ i = 2 ∨ i = 3 ∨ i = 4 ∨ i = 5 ∨ i = 6 ∨ i = 7 := by omega
  rcases this with rfl | rfl | rfl | rfl | rfl | rfl | rfl | rfl <;> decide +kernel
theorem word_told : ∀ (k : Nat) (hk3 : k ≤ 3) (rest : List (Addr × Obj)) (lv : Int) (t1 t2 : Tok) (hl : 0 ≤ lv) (hb : lv ≤ 8 * mst k),
   Told w p loose mean mg mb (k + 1) (.ref 77) [.int lv t1, .int (mst k) t2] rest (fun r n' => n' = rest ∧ ∃ t, r = .str (S (wordL k lv)) t) := by
  intro k
  induction k with
  | zero =>
    intro hk3 rest lv t1 t2 hl hb
    have hl0 : lv = 0 := by unfold mst at hb; omega
    subst hl0
    unfold Told
    k_fill
    intro dp un gd env outer A₀ base h₀ L m s Q B F X N T CH hf hk hd hu hret
    k_dflt (refine' enterP (binds := [("level", .int 0 t1), ("most", .int (mst 0) t2)]) ?k1 ?k2 ?k3 ?k4 ?k5 ?kc ?kA ?kF ?kK ?k6 ?k7 ?k8 ?k9 ?kB ?_ ?c2 ?c3 ?c4 ?c5)
    case kA => exact rfl
    case kF => assumption
    case kK => assumption
    case k1 => k_asm
    case k2 => k_asm
    case k3 => k_asm
    case k4 => k_asm
    case k5 => k_asm
    case kc => assumption
    case k6 => k_dflt k_is
    case k7 => k_dflt k_is
    case k8 => (try simp only [depth_under_make, depth_under_kw, depth_in1, depth_deeper, depth_caller] at *); simp only [recursionLimit] at *; omega
    case k9 => exact BindsTo.of_eq rfl
    case c2 => exact rfl
    case c3 => exact rfl
    case c4 => exact rfl
    case c5 => decide
    case kB => exact locs rfl
    intro g L1 h1 FG F1 N1 B1 X1 T1 CH1 l1
    dsimp only [List.reverse, List.reverseAux] at F1
    try dsimp only
    k_fold
    k_steps
    exact hret _ _ _ rest (by assumption) (by assumption) ⟨rfl, _, rfl⟩
  | succ k ih =>
    intro hk3 rest lv t1 t2 hl hb
    unfold Told
    k_fill
    intro dp un gd env outer A₀ base h₀ L m s Q B F X N T CH hf hk hd hu hret
    k_dflt (refine' enterP (binds := [("level", .int lv t1), ("most", .int (mst (k + 1)) t2)]) ?k1 ?k2 ?k3 ?k4 ?k5 ?kc ?kA ?kF ?kK ?k6 ?k7 ?k8 ?k9 ?kB ?_ ?c2 ?c3 ?c4 ?c5)
    case kA => exact rfl
    case kF => assumption
    case kK => assumption
    case k1 => k_asm
    case k2 => k_asm
    case k3 => k_asm
    case k4 => k_asm
    case k5 => k_asm
    case kc => assumption
    case k6 => k_dflt k_is
    case k7 => k_dflt k_is
    case k8 => (try simp only [depth_under_make, depth_under_kw, depth_in1, depth_deeper, depth_caller] at *); simp only [recursionLimit] at *; omega
    case k9 => exact BindsTo.of_eq rfl
    case c2 => exact rfl
    case c3 => exact rfl
    case c4 => exact rfl
    case c5 => decide
    case kB => exact locs rfl
    intro g L1 h1 FG F1 N1 B1 X1 T1 CH1 l1
    dsimp only [List.reverse, List.reverseAux] at F1
    try dsimp only
    k_fold
    have hm0 := mst_nonneg k
    have hm1 : mst (k + 1) = 8 * mst k + 1 := rfl
    have hm3 := mst_le hk3
    rcases Int.lt_or_eq_of_le hl with hl | hl
    rotate_left
    · subst hl
      k_steps
      · exact hret _ _ _ rest (by assumption) (by assumption) ⟨rfl, _, rfl⟩
      all_goals (exfalso; omega)
    · have hq0 : 0 ≤ (lv - 1).fdiv (mst (k + 1)) := by rw [Int.fdiv_eq_ediv_of_nonneg _ (by omega)]; exact Int.ediv_nonneg (by omega) (by omega)
      have hq1 : (lv - 1).fdiv (mst (k + 1)) < 8 := by rw [Int.fdiv_eq_ediv_of_nonneg _ (by omega)]; exact Int.ediv_lt_of_lt_mul (by omega) (by omega)
      have hr0 : 0 ≤ (lv - 1).fmod (mst (k + 1)) := Int.fmod_nonneg_of_pos _ (by omega)
      have hr1 : (lv - 1).fmod (mst (k + 1)) < mst (k + 1) := Int.fmod_lt_of_pos _ (by omega)
      k_steps
      · exfalso; simp only [beq_iff_eq] at *; omega
      have he : (mst (k + 1) - 1).fdiv 8 = mst k := by rw [Int.fdiv_eq_ediv_of_nonneg _ (by decide)]; omega
      rw [he]
      k_dflt (refine' Told.use B1 ?F X1 ?N T1 CH1 ?hT rfl rfl rfl ?hd ?hu ?_)
      case F => assumption
      case N => assumption
      case hT => exact ih (by omega) _ _ _ _ hr0 (by omega)
      case hd => simp only [Around.deeper] at *; omega
      case hu => simp only [Around.deeper] at *; omega
      rintro r h3 tk3 n3 F3 N3 ⟨rfl, t3, rfl⟩
      have hL := wordL_len k ((lv - 1).fmod (mst (k + 1)))
      refine PyProof.Rows.add_str (fun t4 tk4 => ?_) (by rw [S_len, signs_item hq0 hq1, S_len, sizeLine_eq]; simp only [List.length_cons, List.length_nil]; omega)
      k_steps
      refine hret _ _ _ rest (by assumption) (cb_drop (by assumption) (fun q hq => List.mem_cons_of_mem _ hq)) ⟨rfl, t4, ?_⟩
      · rw [signs_item hq0 hq1, S_app]
        show Value.str _ _ = Value.str _ _
        congr 1
        conv => rhs; unfold wordL
        rw [if_neg (by omega)]; rfl

end Mine
end partFWord

/- the part FRgb -/
section
open PySem PySem.W PySem.Calls PyProof.Rows PySem.Spec
namespace Mine
theorem fresh_FRgb (prog : Program) (w : World) (A : Around) (env : Env) (s : Shared) (Q : Flow → Shared → Prop) (E : Value → Shared → Prop) (h : Q .next s) :
    wpAny (model prog w) A (execs [] env) Q E s := by
  w_top off
  walk1
  exact h
end Mine
end
section partFRgb
open PySem PySem.W PySem.Calls PyProof.Rows PySem.Spec
set_option maxHeartbeats 1600000
namespace Mine
open K (w p loose mean mg mb)
local macro_rules | `(tactic| omega) => `(tactic| lia)
local macro_rules | `(tactic| walk_at "execs cons") => `(tactic| (k_here; (fail_if_success (refine tok_known (by assumption) ?_)); refine tok_new (by first | omega | (simp only [List.length_cons, List.length_nil]; omega)) ?_; intro tk tkp tkq))
local macro_rules | `(tactic| walk_at "call builtin:max") => `(tactic| (k_here; (with_reducible show wpAny _ _ (call _ [Value.float _ _, Value.float _ _, Value.float _ _]) _ _ _); k_dflt (refine' wpAny_with_toks (n := 1) ?P (max3_ff ?H ?F ?N ?_); (case P => first | omega | (simp only [List.length_cons, List.length_nil]; omega)); (case H => rfl); (case F => k_asm); (case N => k_asm)); intro h' tk' q' F' N' tkr'; dsimp only at tkr'))
local macro_rules | `(tactic| walk_at "call builtin:min") => `(tactic| (k_here; (with_reducible show wpAny _ _ (call _ [Value.float _ _, Value.float _ _, Value.float _ _]) _ _ _); k_dflt (refine' wpAny_with_toks (n := 1) ?P (min3_ff ?H ?F ?N ?_); (case P => first | omega | (simp only [List.length_cons, List.length_nil]; omega)); (case H => rfl); (case F => k_asm); (case N => k_asm)); intro h' tk' q' F' N' tkr'; dsimp only at tkr'))
noncomputable def fle (x y : UInt64) : Bool := Float64.cmp x y == some .lt || Float64.cmp x y == some .eq
noncomputable def feq (x y : UInt64) : Bool := Float64.cmp x y == some .eq
/-- the lightness -/
noncomputable def rgbL (a b c : UInt64) : UInt64 := Float64.div (Float64.add (max3 a b c) (min3 a b c)) 4611686018427387904
/-- the saturation -/
noncomputable def rgbS (a b c : UInt64) : UInt64 := if fle (rgbL a b c) 4602678819172646912 then Float64.div (Float64.sub (max3 a b c) (min3 a b c)) (Float64.add (max3 a b c) (min3 a b c))
  else Float64.div (Float64.sub (max3 a b c) (min3 a b c)) (Float64.sub (Float64.sub 4611686018427387904 (max3 a b c)) (min3 a b c))
/-- how far a colour is from the greatest, in spreads -/
noncomputable def rgbD (a b c x : UInt64) : UInt64 := Float64.div (Float64.sub (max3 a b c) x) (Float64.sub (max3 a b c) (min3 a b c))
/-- the place on the wheel before it is made less than one -/
noncomputable def rgbP (a b c : UInt64) : UInt64 := if feq a (max3 a b c) then Float64.sub (rgbD a b c c) (rgbD a b c b) else if feq b (max3 a b c) then Float64.sub (Float64.add 4611686018427387904 (rgbD a b c a)) (rgbD a b c c) else Float64.sub (Float64.add 4616189618054758400 (rgbD a b c b)) (rgbD a b c a)
noncomputable def rgbH (a b c : UInt64) : UInt64 := (Float64.divmod (Float64.div (rgbP a b c) 4618441417868443648) 4607182418800017408).snd
namespace Sk_rgb_told
noncomputable abbrev zP : Type := (List (Addr × Obj)) × (UInt64) × (UInt64) × (UInt64) × (Tok) × (Tok) × (Tok)
noncomputable def zG : zP × CV → Prop := fun ((rest, a, b, c, ta, tb, tc), cvx) => ∀ _ : feq (min3 a b c) (max3 a b c) = false → Float64.isZero (Float64.sub (max3 a b c) (min3 a b c)) = false, ∀ _ : feq (min3 a b c) (max3 a b c) = false → fle (rgbL a b c) 4602678819172646912 = true → Float64.isZero (Float64.add (max3 a b c) (min3 a b c)) = false, ∀ _ : feq (min3 a b c) (max3 a b c) = false → fle (rgbL a b c) 4602678819172646912 = false → Float64.isZero (Float64.sub (Float64.sub 4611686018427387904 (max3 a b c)) (min3 a b c)) = false,
  ToldAt w p loose mean mg mb 2 (.ref 21) ([.float a ta, .float b tb, .float c tc]) (rest) (fun r n' => ∃ D t1 t2 t3, r = .ref D ∧ (∀ p ∈ rest, p.1 < D) ∧ n' = (D, ({ cls := .type "tuple", data := .seq #[.float (if feq (min3 a b c) (max3 a b c) then 0 else rgbH a b c) t1, .float (rgbL a b c) t2, .float (if feq (min3 a b c) (max3 a b c) then 0 else rgbS a b c) t3] } : Obj)) :: rest ∧ @LT.lt Nat _ 0 t1 ∧ @LT.lt Nat _ 0 t2 ∧ @LT.lt Nat _ 0 t3) cvx
theorem zne : Nonempty (zP × CV) := ⟨(([], 0, 0, 0, 0, 0, 0), cv0)⟩
noncomputable def zv : zP × CV := @Classical.epsilon _ zne fun c => ¬ zG c
theorem zall (h : zG zv) (c : zP × CV) : zG c := Classical.byContradiction fun hx => @Classical.epsilon_spec _ (fun c => ¬ zG c) ⟨c, hx⟩ h
namespace K
@[irreducible] noncomputable def rest : List (Addr × Obj) := zv.1.1
@[irreducible] noncomputable def a : UInt64 := zv.1.2.1
@[irreducible] noncomputable def b : UInt64 := zv.1.2.2.1
@[irreducible] noncomputable def c : UInt64 := zv.1.2.2.2.1
@[irreducible] noncomputable def ta : Tok := zv.1.2.2.2.2.1
@[irreducible] noncomputable def tb : Tok := zv.1.2.2.2.2.2.1
@[irreducible] noncomputable def tc : Tok := zv.1.2.2.2.2.2.2
@[irreducible] noncomputable def dp : Nat := zv.2.1
@[irreducible] noncomputable def un : Nat := zv.2.2.1
@[irreducible] noncomputable def gd : Option (List Code) := zv.2.2.2.1
@[irreducible] noncomputable def env : Env := zv.2.2.2.2.1
@[irreducible] noncomputable def outer : List Env := zv.2.2.2.2.2.1
@[irreducible] noncomputable def A₀ : Around := zv.2.2.2.2.2.2.1
@[irreducible] noncomputable def base : Heap := zv.2.2.2.2.2.2.2.1
@[irreducible] noncomputable def h₀ : Heap := zv.2.2.2.2.2.2.2.2.1
@[irreducible] noncomputable def L : Addr := zv.2.2.2.2.2.2.2.2.2.1
@[irreducible] noncomputable def m : Str → Option Value := zv.2.2.2.2.2.2.2.2.2.2.1
@[irreducible] noncomputable def s : Shared := zv.2.2.2.2.2.2.2.2.2.2.2.1
@[irreducible] noncomputable def Q : Value → Shared → Prop := zv.2.2.2.2.2.2.2.2.2.2.2.2
end K
end Sk_rgb_told
section
open Sk_rgb_told.K
theorem Sk_rgb_told.zeq : ((Sk_rgb_told.K.rest, Sk_rgb_told.K.a, Sk_rgb_told.K.b, Sk_rgb_told.K.c, Sk_rgb_told.K.ta, Sk_rgb_told.K.tb, Sk_rgb_told.K.tc), (Sk_rgb_told.K.dp, Sk_rgb_told.K.un, Sk_rgb_told.K.gd, Sk_rgb_told.K.env, Sk_rgb_told.K.outer, Sk_rgb_told.K.A₀, Sk_rgb_told.K.base, Sk_rgb_told.K.h₀, Sk_rgb_told.K.L, Sk_rgb_told.K.m, Sk_rgb_told.K.s, Sk_rgb_told.K.Q)) = Sk_rgb_told.zv := by with_unfolding_all rfl
noncomputable def Sk_rgb_told.zpb : { zPP : Heap → Addr → Heap → Prop // ∀ (z1 : feq (min3 a b c) (max3 a b c) = false → Float64.isZero (Float64.sub (max3 a b c) (min3 a b c)) = false) (z2 : feq (min3 a b c) (max3 a b c) = false → fle (rgbL a b c) 4602678819172646912 = true → Float64.isZero (Float64.add (max3 a b c) (min3 a b c)) = false) (z3 : feq (min3 a b c) (max3 a b c) = false → fle (rgbL a b c) 4602678819172646912 = false → Float64.isZero (Float64.sub (Float64.sub 4611686018427387904 (max3 a b c)) (min3 a b c)) = false) (B : Below A₀ base outer h₀) (F : Fr h₀ L s.heap m) (X : (_root_.Mine.hd.heap_1 w.params).In h₀) (N : News h₀ L s.heap (rest)) (T : Top p loose mean mg mb h₀) (CH : CodeHd h₀ 88 84) (hf : env.frame = some L) (hk : env.scope.kind = .function) (hd : dp + 2 < recursionLimit) (hu : un + 8 * 2 < cLine)
    (hret : ∀ r h' tk' news', Fr h₀ L h' m → News h₀ L h' news' → (fun r n' => ∃ D t1 t2 t3, r = .ref D ∧ (∀ p ∈ rest, p.1 < D) ∧ n' = (D, ({ cls := .type "tuple", data := .seq #[.float (if feq (min3 a b c) (max3 a b c) then 0 else rgbH a b c) t1, .float (rgbL a b c) t2, .float (if feq (min3 a b c) (max3 a b c) then 0 else rgbS a b c) t3] } : Obj)) :: rest ∧ @LT.lt Nat _ 0 t1 ∧ @LT.lt Nat _ 0 t2 ∧ @LT.lt Nat _ 0 t3) r news' → Q r { heap := h', gens := s.gens, drawn := s.drawn, toks := tk', os := s.os }), (∀ g L1 h1, zPP g L1 h1) → codeAny (model PySem.Challenge.rw_kl0066_01.row.prog w) { handled := none, depth := dp, frames := some (env :: outer), guards := gd, units := un } (.call (.ref 21) ⟨[.float a ta, .float b tb, .float c tc], []⟩) (fun r s' => match r with | .ok (.ret v) => Q v s' | .ok _ => False | .error e => (fun _ _ => False) e s') s } := by
  refine' ⟨_, ?h⟩
  case h =>
    intro z1 z2 z3 B F X N T CH hf hk hd hu hret
    revert X
    k_fill
    intro X HH
    k_dflt (refine' enterP (binds := [("r", .float a ta), ("g", .float b tb), ("b", .float c tc)]) ?k1 ?k2 ?k3 ?k4 ?k5 ?kc ?kA ?kF ?kK ?k6 ?k7 ?k8 ?k9 ?kB ?_ ?c2 ?c3 ?c4 ?c5)
    case kA => exact rfl
    case kF => assumption
    case kK => assumption
    case k1 => k_asm
    case k2 => k_asm
    case k3 => k_asm
    case k4 => k_asm
    case k5 => k_asm
    case kc => assumption
    case k6 => k_dflt k_is
    case k7 => k_dflt k_is
    case k8 => (try simp only [depth_under_make, depth_under_kw, depth_in1, depth_deeper, depth_caller] at *); simp only [recursionLimit] at *; omega
    case k9 => exact BindsTo.of_eq rfl
    case c2 => exact rfl
    case c3 => exact rfl
    case c4 => exact rfl
    case c5 => decide
    case kB => exact locs rfl
    intro g L1 h1
    revert z1 z2 z3 hd hu hret X
    exact HH g L1 h1
noncomputable def Sk_rgb_told.zv2 : Heap × Addr × Heap := @Classical.epsilon _ ⟨(default, 0, default)⟩ fun c => ¬ Sk_rgb_told.zpb.1 c.1 c.2.1 c.2.2
theorem Sk_rgb_told.zall2 (h : Sk_rgb_told.zpb.1 Sk_rgb_told.zv2.1 Sk_rgb_told.zv2.2.1 Sk_rgb_told.zv2.2.2) (g : Heap) (L1 : Addr) (h1 : Heap) : Sk_rgb_told.zpb.1 g L1 h1 := Classical.byContradiction fun hx => @Classical.epsilon_spec _ (fun c : Heap × Addr × Heap => ¬ Sk_rgb_told.zpb.1 c.1 c.2.1 c.2.2) ⟨(g, L1, h1), hx⟩ h
namespace Sk_rgb_told.K
@[irreducible] noncomputable def g : Heap := zv2.1
@[irreducible] noncomputable def L1 : Addr := zv2.2.1
@[irreducible] noncomputable def h1 : Heap := zv2.2.2
end Sk_rgb_told.K
noncomputable def Sk_rgb_told.K.qk : Flow → Shared → Prop := fun fl s' => LeaveK h₀ L m g (fun r s' => match r with | .ok (.ret v) => Q v s' | .ok _ => False | .error e => (fun _ _ => False) e s') (match fl with | .ret v => v | _ => .none) s'
local macro_rules | `(tactic| k_unfold) => `(tactic| ((with_reducible show Sk_rgb_told.K.qk _ _); unfold Sk_rgb_told.K.qk))
theorem Sk_rgb_told.zbody : Sk_rgb_told.zpb.1 g L1 h1 := by
  unfold Sk_rgb_told.zpb
  dsimp only
  intro z1 z2 z3 hd hu hret X FG F1 N1 B1 X1 T1 CH1 l1
  dsimp only [List.reverse, List.reverseAux] at F1
  try dsimp only
  change wpAny _ _ _ qk _ _
  k_steps
  all_goals first
    | (have e1 := ‹(Float64.cmp (min3 a b c) (max3 a b c) == some Ordering.eq) = true›
       rw [show feq (min3 a b c) (max3 a b c) = true from e1] at hret
       exact hret _ _ _ _ (by assumption) (by assumption) ⟨_, _, _, _, rfl, by assumption, rfl, by omega, by omega, by omega⟩)
    | exact Bool.noConfusion ((z1 (by assumption)).symm.trans (by assumption))
    | exact Bool.noConfusion ((z2 (by assumption) (by assumption)).symm.trans (by assumption))
    | exact Bool.noConfusion ((z3 (by assumption) (by assumption)).symm.trans (by assumption))
    | skip
  all_goals (have e1 := ‹(Float64.cmp (min3 a b c) (max3 a b c) == some Ordering.eq) = false›)
  all_goals rw [show feq (min3 a b c) (max3 a b c) = false from e1] at hret
  all_goals first
    | (have hS : rgbS a b c = _ := if_pos (show fle (rgbL a b c) 4602678819172646912 = true by assumption)
       rw [hS] at hret)
    | (have hS : rgbS a b c = _ := if_neg (show ¬ fle (rgbL a b c) 4602678819172646912 = true from fun q => Bool.noConfusion (q.symm.trans (show fle (rgbL a b c) 4602678819172646912 = false by assumption)))
       rw [hS] at hret)
  all_goals first
    | (have hP : rgbP a b c = _ := if_pos (show feq a (max3 a b c) = true by assumption)
       unfold rgbH at hret
       rw [hP] at hret)
    | (have hP : rgbP a b c = _ := (if_neg (show ¬ feq a (max3 a b c) = true from fun q => Bool.noConfusion (q.symm.trans (show feq a (max3 a b c) = false by assumption)))).trans (if_pos (show feq b (max3 a b c) = true by assumption))
       unfold rgbH at hret
       rw [hP] at hret)
    | (have hP : rgbP a b c = _ := (if_neg (show ¬ feq a (max3 a b c) = true from fun q => Bool.noConfusion (q.symm.trans (show feq a (max3 a b c) = false by assumption)))).trans (if_neg (show ¬ feq b (max3 a b c) = true from fun q => Bool.noConfusion (q.symm.trans (show feq b (max3 a b c) = false by assumption))))
       unfold rgbH at hret
       rw [hP] at hret)
  all_goals exact hret _ _ _ _ (by assumption) (by assumption) ⟨_, _, _, _, rfl, by assumption, rfl, by omega, by omega, by omega⟩
theorem Sk_rgb_told.zeq2 : Sk_rgb_told.zpb.1 g L1 h1 = Sk_rgb_told.zpb.1 Sk_rgb_told.zv2.1 Sk_rgb_told.zv2.2.1 Sk_rgb_told.zv2.2.2 := by with_unfolding_all rfl
theorem Sk_rgb_told.zcore (z1 : feq (min3 a b c) (max3 a b c) = false → Float64.isZero (Float64.sub (max3 a b c) (min3 a b c)) = false) (z2 : feq (min3 a b c) (max3 a b c) = false → fle (rgbL a b c) 4602678819172646912 = true → Float64.isZero (Float64.add (max3 a b c) (min3 a b c)) = false) (z3 : feq (min3 a b c) (max3 a b c) = false → fle (rgbL a b c) 4602678819172646912 = false → Float64.isZero (Float64.sub (Float64.sub 4611686018427387904 (max3 a b c)) (min3 a b c)) = false) (B : Below A₀ base outer h₀) (F : Fr h₀ L s.heap m) (X : (_root_.Mine.hd.heap_1 w.params).In h₀) (N : News h₀ L s.heap (rest)) (T : Top p loose mean mg mb h₀) (CH : CodeHd h₀ 88 84) (hf : env.frame = some L) (hk : env.scope.kind = .function) (hd : dp + 2 < recursionLimit) (hu : un + 8 * 2 < cLine)
    (hret : ∀ r h' tk' news', Fr h₀ L h' m → News h₀ L h' news' → (fun r n' => ∃ D t1 t2 t3, r = .ref D ∧ (∀ p ∈ rest, p.1 < D) ∧ n' = (D, ({ cls := .type "tuple", data := .seq #[.float (if feq (min3 a b c) (max3 a b c) then 0 else rgbH a b c) t1, .float (rgbL a b c) t2, .float (if feq (min3 a b c) (max3 a b c) then 0 else rgbS a b c) t3] } : Obj)) :: rest ∧ @LT.lt Nat _ 0 t1 ∧ @LT.lt Nat _ 0 t2 ∧ @LT.lt Nat _ 0 t3) r news' → Q r { heap := h', gens := s.gens, drawn := s.drawn, toks := tk', os := s.os }) : codeAny (model PySem.Challenge.rw_kl0066_01.row.prog w) { handled := none, depth := dp, frames := some (env :: outer), guards := gd, units := un } (.call (.ref 21) ⟨[.float a ta, .float b tb, .float c tc], []⟩) (fun r s' => match r with | .ok (.ret v) => Q v s' | .ok _ => False | .error e => (fun _ _ => False) e s') s :=
  Sk_rgb_told.zpb.2 z1 z2 z3 B F X N T CH hf hk hd hu hret (Sk_rgb_told.zall2 (Sk_rgb_told.zeq2.mp Sk_rgb_told.zbody))
theorem Sk_rgb_told.zkey : Sk_rgb_told.zG Sk_rgb_told.zv := (congrArg Sk_rgb_told.zG Sk_rgb_told.zeq).mp Sk_rgb_told.zcore
end
theorem rgb_told (rest : List (Addr × Obj)) (a : UInt64) (b : UInt64) (c : UInt64) (ta : Tok) (tb : Tok) (tc : Tok) (z1 : feq (min3 a b c) (max3 a b c) = false → Float64.isZero (Float64.sub (max3 a b c) (min3 a b c)) = false) (z2 : feq (min3 a b c) (max3 a b c) = false → fle (rgbL a b c) 4602678819172646912 = true → Float64.isZero (Float64.add (max3 a b c) (min3 a b c)) = false) (z3 : feq (min3 a b c) (max3 a b c) = false → fle (rgbL a b c) 4602678819172646912 = false → Float64.isZero (Float64.sub (Float64.sub 4611686018427387904 (max3 a b c)) (min3 a b c)) = false) : Told w p loose mean mg mb 2 (.ref 21) ([.float a ta, .float b tb, .float c tc]) (rest) (fun r n' => ∃ D t1 t2 t3, r = .ref D ∧ (∀ p ∈ rest, p.1 < D) ∧ n' = (D, ({ cls := .type "tuple", data := .seq #[.float (if feq (min3 a b c) (max3 a b c) then 0 else rgbH a b c) t1, .float (rgbL a b c) t2, .float (if feq (min3 a b c) (max3 a b c) then 0 else rgbS a b c) t3] } : Obj)) :: rest ∧ @LT.lt Nat _ 0 t1 ∧ @LT.lt Nat _ 0 t2 ∧ @LT.lt Nat _ 0 t3) :=
  told_at fun cvx => Sk_rgb_told.zall Sk_rgb_told.zkey ((rest, a, b, c, ta, tb, tc), cvx) z1 z2 z3

end Mine
end partFRgb

/- the part FGray -/
section
open PySem PySem.W PySem.Calls PyProof.Rows PySem.Spec
namespace Mine
theorem fresh_FGray (prog : Program) (w : World) (A : Around) (env : Env) (s : Shared) (Q : Flow → Shared → Prop) (E : Value → Shared → Prop) (h : Q .next s) :
    wpAny (model prog w) A (execs [] env) Q E s := by
  w_top off
  walk1
  exact h
end Mine
end
section partFGray
open PySem PySem.W PySem.Calls PyProof.Rows PySem.Spec
set_option maxHeartbeats 1600000
namespace Mine
open K (w p loose mean mg mb)
local macro_rules | `(tactic| walk_at "execs cons") => `(tactic| (k_here; (fail_if_success (refine tok_known (by assumption) ?_)); refine tok_new (by first | omega | (simp only [List.length_cons, List.length_nil]; omega)) ?_; intro tk tkp tkq))
local macro_rules | `(tactic| walk_at "eval ListComp") => `(tactic| (k_here; k_dflt (refine ListComp_T (F₀ := by k_asm) (by with_unfolding_all rfl) (by decide) (by rfl) (by decide) (by rfl) ?_)))
local macro_rules | `(tactic| walk_at "compareOp Eq ref ref") => `(tactic| (k_here; refine hold ?_))
noncomputable def lf (i : Int) : UInt64 := Float64.ofFrac (decide (i < 0) != decide ((1024 : Int) < 0)) i.natAbs (Int.natAbs 1024)
theorem lf_fits {i : Int} (h : 0 ≤ i ∧ i ≤ 1024) (hi : Float64.isInf (lf i) = true) : False :=
  PySem.Flt.quot_fits (by decide) (Nat.lt_of_le_of_lt (show i.natAbs ≤ 1024 by omega) (by decide +kernel)) hi
namespace Sk_mid_gray
noncomputable abbrev zP : Type := (List (Addr × Obj)) × (Addr) × (Int) × (Nat) × (Tok) × (Tok) × (Tok)
noncomputable def zG : zP × CV → Prop := fun ((rest, tl, i, e, t0, t1, t2), cvx) => ∀ _ : ∀ q ∈ rest, q.1 ≠ tl, ∀ _ : 0 ≤ i ∧ i ≤ 1024, ∀ _ : feq (min3 (lf i) (lf i) (lf i)) (max3 (lf i) (lf i) (lf i)) = true, ∀ _ : rgbL (lf i) (lf i) (lf i) = lf i, ∀ _ : (Float64.cmp (lf i) (lf i) == some .eq) = true,
  ToldAt w p loose mean mg mb 12 (.ref 94) ([.ref tl]) ((tl, W.listOf #[.int i t0, .int i t1, .int i t2] e) :: rest) (fun r n' => n' = ((tl, W.listOf #[.int i t0, .int i t1, .int i t2] e) :: rest) ∧ ∃ t, r = .int 0 t) cvx
theorem zne : Nonempty (zP × CV) := ⟨(([], 0, 0, 0, 0, 0, 0), cv0)⟩
noncomputable def zv : zP × CV := @Classical.epsilon _ zne fun c => ¬ zG c
theorem zall (h : zG zv) (c : zP × CV) : zG c := Classical.byContradiction fun hx => @Classical.epsilon_spec _ (fun c => ¬ zG c) ⟨c, hx⟩ h
namespace K
@[irreducible] noncomputable def rest : List (Addr × Obj) := zv.1.1
@[irreducible] noncomputable def tl : Addr := zv.1.2.1
@[irreducible] noncomputable def i : Int := zv.1.2.2.1
@[irreducible] noncomputable def e : Nat := zv.1.2.2.2.1
@[irreducible] noncomputable def t0 : Tok := zv.1.2.2.2.2.1
@[irreducible] noncomputable def t1 : Tok := zv.1.2.2.2.2.2.1
@[irreducible] noncomputable def t2 : Tok := zv.1.2.2.2.2.2.2
@[irreducible] noncomputable def dp : Nat := zv.2.1
@[irreducible] noncomputable def un : Nat := zv.2.2.1
@[irreducible] noncomputable def gd : Option (List Code) := zv.2.2.2.1
@[irreducible] noncomputable def env : Env := zv.2.2.2.2.1
@[irreducible] noncomputable def outer : List Env := zv.2.2.2.2.2.1
@[irreducible] noncomputable def A₀ : Around := zv.2.2.2.2.2.2.1
@[irreducible] noncomputable def base : Heap := zv.2.2.2.2.2.2.2.1
@[irreducible] noncomputable def h₀ : Heap := zv.2.2.2.2.2.2.2.2.1
@[irreducible] noncomputable def L : Addr := zv.2.2.2.2.2.2.2.2.2.1
@[irreducible] noncomputable def m : Str → Option Value := zv.2.2.2.2.2.2.2.2.2.2.1
@[irreducible] noncomputable def s : Shared := zv.2.2.2.2.2.2.2.2.2.2.2.1
@[irreducible] noncomputable def Q : Value → Shared → Prop := zv.2.2.2.2.2.2.2.2.2.2.2.2
end K
end Sk_mid_gray
section
open Sk_mid_gray.K
theorem Sk_mid_gray.zeq : ((Sk_mid_gray.K.rest, Sk_mid_gray.K.tl, Sk_mid_gray.K.i, Sk_mid_gray.K.e, Sk_mid_gray.K.t0, Sk_mid_gray.K.t1, Sk_mid_gray.K.t2), (Sk_mid_gray.K.dp, Sk_mid_gray.K.un, Sk_mid_gray.K.gd, Sk_mid_gray.K.env, Sk_mid_gray.K.outer, Sk_mid_gray.K.A₀, Sk_mid_gray.K.base, Sk_mid_gray.K.h₀, Sk_mid_gray.K.L, Sk_mid_gray.K.m, Sk_mid_gray.K.s, Sk_mid_gray.K.Q)) = Sk_mid_gray.zv := by with_unfolding_all rfl
noncomputable def Sk_mid_gray.zpb : { zPP : Heap → Addr → Heap → Prop // ∀ (hn1 : ∀ q ∈ rest, q.1 ≠ tl) (b0 : 0 ≤ i ∧ i ≤ 1024) (hG : feq (min3 (lf i) (lf i) (lf i)) (max3 (lf i) (lf i) (lf i)) = true) (hL : rgbL (lf i) (lf i) (lf i) = lf i) (hx : (Float64.cmp (lf i) (lf i) == some .eq) = true) (B : Below A₀ base outer h₀) (F : Fr h₀ L s.heap m) (X : (_root_.Mine.hd.heap_1 w.params).In h₀) (N : News h₀ L s.heap ((tl, W.listOf #[.int i t0, .int i t1, .int i t2] e) :: rest)) (T : Top p loose mean mg mb h₀) (CH : CodeHd h₀ 88 84) (hf : env.frame = some L) (hk : env.scope.kind = .function) (hd : dp + 12 < recursionLimit) (hu : un + 8 * 12 < cLine)
    (hret : ∀ r h' tk' news', Fr h₀ L h' m → News h₀ L h' news' → (fun r n' => n' = ((tl, W.listOf #[.int i t0, .int i t1, .int i t2] e) :: rest) ∧ ∃ t, r = .int 0 t) r news' → Q r { heap := h', gens := s.gens, drawn := s.drawn, toks := tk', os := s.os }), (∀ g L1 h1, zPP g L1 h1) → codeAny (model PySem.Challenge.rw_kl0066_01.row.prog w) { handled := none, depth := dp, frames := some (env :: outer), guards := gd, units := un } (.call (.ref 94) ⟨[.ref tl], []⟩) (fun r s' => match r with | .ok (.ret v) => Q v s' | .ok _ => False | .error e => (fun _ _ => False) e s') s } := by
  refine' ⟨_, ?h⟩
  case h =>
    intro hn1 b0 hG hL hx B F X N T CH hf hk hd hu hret
    revert X
    k_fill
    intro X HH
    k_dflt (refine' enterP (binds := [("three", .ref tl)]) ?k1 ?k2 ?k3 ?k4 ?k5 ?kc ?kA ?kF ?kK ?k6 ?k7 ?k8 ?k9 ?kB ?_ ?c2 ?c3 ?c4 ?c5)
    case kA => exact rfl
    case kF => assumption
    case kK => assumption
    case k1 => k_asm
    case k2 => k_asm
    case k3 => k_asm
    case k4 => k_asm
    case k5 => k_asm
    case kc => assumption
    case k6 => k_dflt k_is
    case k7 => k_dflt k_is
    case k8 => (try simp only [depth_under_make, depth_under_kw, depth_in1, depth_deeper, depth_caller] at *); simp only [recursionLimit] at *; omega
    case k9 => exact BindsTo.of_eq rfl
    case c2 => exact rfl
    case c3 => exact rfl
    case c4 => exact rfl
    case c5 => decide
    case kB => exact locs rfl
    intro g L1 h1
    revert hn1 b0 hG hL hx hd hu hret X
    exact HH g L1 h1
noncomputable def Sk_mid_gray.zv2 : Heap × Addr × Heap := @Classical.epsilon _ ⟨(default, 0, default)⟩ fun c => ¬ Sk_mid_gray.zpb.1 c.1 c.2.1 c.2.2
theorem Sk_mid_gray.zall2 (h : Sk_mid_gray.zpb.1 Sk_mid_gray.zv2.1 Sk_mid_gray.zv2.2.1 Sk_mid_gray.zv2.2.2) (g : Heap) (L1 : Addr) (h1 : Heap) : Sk_mid_gray.zpb.1 g L1 h1 := Classical.byContradiction fun hx => @Classical.epsilon_spec _ (fun c : Heap × Addr × Heap => ¬ Sk_mid_gray.zpb.1 c.1 c.2.1 c.2.2) ⟨(g, L1, h1), hx⟩ h
namespace Sk_mid_gray.K
@[irreducible] noncomputable def g : Heap := zv2.1
@[irreducible] noncomputable def L1 : Addr := zv2.2.1
@[irreducible] noncomputable def h1 : Heap := zv2.2.2
end Sk_mid_gray.K
noncomputable def Sk_mid_gray.K.qk : Flow → Shared → Prop := fun fl s' => LeaveK h₀ L m g (fun r s' => match r with | .ok (.ret v) => Q v s' | .ok _ => False | .error e => (fun _ _ => False) e s') (match fl with | .ret v => v | _ => .none) s'
local macro_rules | `(tactic| k_unfold) => `(tactic| ((with_reducible show Sk_mid_gray.K.qk _ _); unfold Sk_mid_gray.K.qk))
theorem Sk_mid_gray.zbody : Sk_mid_gray.zpb.1 g L1 h1 := by
  unfold Sk_mid_gray.zpb
  dsimp only
  intro hn1 b0 hG hL hx hd hu hret X FG F1 N1 B1 X1 T1 CH1 l1
  dsimp only [List.reverse, List.reverseAux] at F1
  try dsimp only
  change wpAny _ _ _ qk _ _
  have hbk := booked X1 T1
  have h00 : (Float64.cmp 0 0 == some .eq) = true := by decide +kernel
  k_steps
  · exact lf_fits b0 ‹Float64.isInf (Float64.ofFrac _ _ _) = true›
  refine wpAny_with_toks (n := 1) (by first | omega | (simp only; omega)) ?_
  k_dflt (refine' Told.use B1 ?F X1 ?N T1 CH1 (rgb_told _ (lf i) (lf i) (lf i) _ _ _ (fun q => Bool.noConfusion (q.symm.trans hG)) (fun q => Bool.noConfusion (q.symm.trans hG)) (fun q => Bool.noConfusion (q.symm.trans hG))) rfl rfl rfl ?hd ?hu ?_)
  case F => assumption
  case N => assumption
  case hd => simp only at *; omega
  case hu => simp only at *; omega
  rintro r h3 tk3 n3 F3 N3 ⟨D, u1, u2, u3, rfl, l3, rfl, q1, q2, q3⟩ tkq3
  replace tkq3 : 0 < tk3 := tkq3
  rw [hG, hL] at N3
  replace N3 : News g L1 h3 ((D, tupO [.float 0 u1, .float (lf i) u2, .float 0 u3]) :: _) := N3
  have hlf : Float64.ofFrac (decide (i < 0) != decide ((1024 : Int) < 0)) i.natAbs (Int.natAbs 1024) = lf i := rfl
  generalize lf i = f0 at *
  k_steps
  · rename_i lo tlo _ alo blo _ hi thi _ ahi bhi D2 _ l2 _ _ _ _ _ _ _ _ _ _ asp tkz tkpz tkqz _ xz D3 h5 F5 N5 l5
    unfold Hold
    have e1 : lo = i := by omega
    subst e1
    rw [hlf] at N5
    refine teqL (xs := [0, f0, 0]) hbk ?A F5 N5 (a := D) (b := D3) (by k_mem) (by k_mem) ?v ?u ?_
    case A => (show un + 3 < cLine; omega)
    case v => exact FlsTok.cons' rfl h00 q1 (FlsTok.cons' rfl hx q2 (FlsTok.cons' rfl h00 q3 FlsTok.nil))
    case u => exact FlsTok.cons' rfl h00 (by omega) (FlsTok.cons' rfl hx (by omega) (FlsTok.cons' rfl h00 (by omega) FlsTok.nil))
    k_steps
    refine ⟨D, _, _, rfl, rfl, F5, N5, by k_mem, by exact Nat.le_of_ble_eq_true rfl, ?_⟩
    rintro s₂ ⟨g2, rfl⟩
    refine rest_gen (Inv := fun i ys nn => nn = _ ∧ ys = List.replicate i (.bool false)) ⟨rfl, rfl⟩ ?turn ?fin
    case turn =>
      rintro j ys nn v I oI C oC Dl m₂ h2 tk2 E' hi ⟨rfl, rfl⟩ hP hC hx F2 N2 off ne
      obtain ⟨fx, ft, rfl⟩ : ∃ fx ft, v = .float fx ft := by
        match j, hi, hP with
        | 0, _, hP => exact ⟨_, _, (Option.some.inj hP).symm⟩
        | 1, _, hP => exact ⟨_, _, (Option.some.inj hP).symm⟩
        | 2, _, hP => exact ⟨_, _, (Option.some.inj hP).symm⟩
      dsimp only
      k_steps
      refine LCg.CompEnd.intro F2 N2 _ (fun _ h => h) off (by k_mem) ⟨rfl, ?_⟩
      rw [List.replicate_succ']
    case fin =>
      rintro ys nn ⟨rfl, rfl⟩ Dl h2 tk2 F2 N2 off1
      replace N2 : News g L1 h2 ((Dl, W.listOf #[.bool false, .bool false, .bool false] 3) :: _) := N2
      k_steps
      refine true_notIn (n := 3) N2 (by k_mem) (show un + 3 + 1 < cLine by omega) ?_
      k_steps
      exact hret _ _ _ _ (by assumption) (news_of_sub (by assumption) (by repeat (first | with_reducible apply sub_nil | with_reducible apply sub_refl | with_reducible refine sub_cons (by with_reducible first | apply at0 | apply at1 | apply at2 | apply at3 | apply at4 | apply at5 | apply at6 | apply at7 | apply at8 | apply at9 | apply at10 | apply at11 | apply at12 | apply at13) ?_ | with_reducible refine sub_tail4 ?_ | with_reducible refine sub_tail ?_))) ⟨rfl, _, rfl⟩
  · exfalso
    omega
theorem Sk_mid_gray.zeq2 : Sk_mid_gray.zpb.1 g L1 h1 = Sk_mid_gray.zpb.1 Sk_mid_gray.zv2.1 Sk_mid_gray.zv2.2.1 Sk_mid_gray.zv2.2.2 := by with_unfolding_all rfl
theorem Sk_mid_gray.zcore (hn1 : ∀ q ∈ rest, q.1 ≠ tl) (b0 : 0 ≤ i ∧ i ≤ 1024) (hG : feq (min3 (lf i) (lf i) (lf i)) (max3 (lf i) (lf i) (lf i)) = true) (hL : rgbL (lf i) (lf i) (lf i) = lf i) (hx : (Float64.cmp (lf i) (lf i) == some .eq) = true) (B : Below A₀ base outer h₀) (F : Fr h₀ L s.heap m) (X : (_root_.Mine.hd.heap_1 w.params).In h₀) (N : News h₀ L s.heap ((tl, W.listOf #[.int i t0, .int i t1, .int i t2] e) :: rest)) (T : Top p loose mean mg mb h₀) (CH : CodeHd h₀ 88 84) (hf : env.frame = some L) (hk : env.scope.kind = .function) (hd : dp + 12 < recursionLimit) (hu : un + 8 * 12 < cLine)
    (hret : ∀ r h' tk' news', Fr h₀ L h' m → News h₀ L h' news' → (fun r n' => n' = ((tl, W.listOf #[.int i t0, .int i t1, .int i t2] e) :: rest) ∧ ∃ t, r = .int 0 t) r news' → Q r { heap := h', gens := s.gens, drawn := s.drawn, toks := tk', os := s.os }) : codeAny (model PySem.Challenge.rw_kl0066_01.row.prog w) { handled := none, depth := dp, frames := some (env :: outer), guards := gd, units := un } (.call (.ref 94) ⟨[.ref tl], []⟩) (fun r s' => match r with | .ok (.ret v) => Q v s' | .ok _ => False | .error e => (fun _ _ => False) e s') s :=
  Sk_mid_gray.zpb.2 hn1 b0 hG hL hx B F X N T CH hf hk hd hu hret (Sk_mid_gray.zall2 (Sk_mid_gray.zeq2.mp Sk_mid_gray.zbody))
theorem Sk_mid_gray.zkey : Sk_mid_gray.zG Sk_mid_gray.zv := (congrArg Sk_mid_gray.zG Sk_mid_gray.zeq).mp Sk_mid_gray.zcore
end
theorem mid_gray (rest : List (Addr × Obj)) {tl : Addr} (i : Int) (e : Nat) (t0 : Tok) (t1 : Tok) (t2 : Tok) (hn1 : ∀ q ∈ rest, q.1 ≠ tl) (b0 : 0 ≤ i ∧ i ≤ 1024) (hG : feq (min3 (lf i) (lf i) (lf i)) (max3 (lf i) (lf i) (lf i)) = true) (hL : rgbL (lf i) (lf i) (lf i) = lf i) (hx : (Float64.cmp (lf i) (lf i) == some .eq) = true) : Told w p loose mean mg mb 12 (.ref 94) ([.ref tl]) ((tl, W.listOf #[.int i t0, .int i t1, .int i t2] e) :: rest) (fun r n' => n' = ((tl, W.listOf #[.int i t0, .int i t1, .int i t2] e) :: rest) ∧ ∃ t, r = .int 0 t) :=
  told_at fun cvx => Sk_mid_gray.zall Sk_mid_gray.zkey ((rest, tl, i, e, t0, t1, t2), cvx) hn1 b0 hG hL hx

end Mine
end partFGray

/- the part FHue -/
section
open PySem PySem.W PySem.Calls PyProof.Rows PySem.Spec
namespace Mine
theorem fresh_FHue (prog : Program) (w : World) (A : Around) (env : Env) (s : Shared) (Q : Flow → Shared → Prop) (E : Value → Shared → Prop) (h : Q .next s) :
    wpAny (model prog w) A (execs [] env) Q E s := by
  w_top off
  walk1
  exact h
end Mine
end
section partFHue
open PySem PySem.W PySem.Calls PyProof.Rows PySem.Spec
set_option maxHeartbeats 1600000
namespace Mine
open K (w p loose mean mg mb)
local macro_rules | `(tactic| walk_at "execs cons") => `(tactic| (k_here; (fail_if_success (refine tok_known (by assumption) ?_)); refine tok_new (by first | omega | (simp only [List.length_cons, List.length_nil]; omega)) ?_; intro tk tkp tkq))
local macro_rules | `(tactic| walk_at "compareOp Eq ref ref") => `(tactic| (k_here; refine hold ?_))
local macro_rules | `(tactic| walk_at "compareOp NotEq ref ref") => `(tactic| (k_here; refine hold ?_))
local macro_rules | `(tactic| walk_at "call builtin:min") => `(tactic| (k_here; (with_reducible show wpAny _ _ (call _ [Value.int _ _, Value.int _ _]) _ _ _); (with_reducible rename HoldMark => hmk'); refine hold ?_))
local macro_rules | `(tactic| walk_at "exec For Name Tuple cons nil") => `(tactic| (k_here; refine hold ?_))
local macro_rules | `(tactic| walk_at "exec If") => `(tactic| (k_here; (with_reducible rename HoldMark => hmk'); refine hold ?_))
theorem lohi_sum {i0 i1 i2 lo hi : Int} (b0 : 0 ≤ i0 ∧ i0 ≤ 1024) (b1 : 0 ≤ i1 ∧ i1 ≤ 1024) (b2 : 0 ≤ i2 ∧ i2 ≤ 1024) (hne : ¬ (i0 = i1 ∧ i1 = i2)) (alo : lo = i0 ∨ lo = i1 ∨ lo = i2) (blo : lo ≤ i0 ∧ lo ≤ i1 ∧ lo ≤ i2) (ahi : hi = i0 ∨ hi = i1 ∨ hi = i2) (bhi : i0 ≤ hi ∧ i1 ≤ hi ∧ i2 ≤ hi) : 0 ≤ lo ∧ hi ≤ 1024 ∧ lo < hi := by
  lia
theorem sub_pos_ne {lo hi : Int} (h : lo < hi) (e : hi - lo = 0) : False := by omega
/-- what a corner shows -/
noncomputable def shw (lo hi P c : Int) : Int := lo + if (if 2 * (hi - lo) - (if 6 * (hi - lo) - (if P - c * (hi - lo) < 0 then -(P - c * (hi - lo)) else P - c * (hi - lo)) < (if P - c * (hi - lo) < 0 then -(P - c * (hi - lo)) else P - c * (hi - lo)) then 6 * (hi - lo) - (if P - c * (hi - lo) < 0 then -(P - c * (hi - lo)) else P - c * (hi - lo)) else (if P - c * (hi - lo) < 0 then -(P - c * (hi - lo)) else P - c * (hi - lo))) > 0 then 2 * (hi - lo) - (if 6 * (hi - lo) - (if P - c * (hi - lo) < 0 then -(P - c * (hi - lo)) else P - c * (hi - lo)) < (if P - c * (hi - lo) < 0 then -(P - c * (hi - lo)) else P - c * (hi - lo)) then 6 * (hi - lo) - (if P - c * (hi - lo) < 0 then -(P - c * (hi - lo)) else P - c * (hi - lo)) else (if P - c * (hi - lo) < 0 then -(P - c * (hi - lo)) else P - c * (hi - lo))) else 0) < hi - lo then (if 2 * (hi - lo) - (if 6 * (hi - lo) - (if P - c * (hi - lo) < 0 then -(P - c * (hi - lo)) else P - c * (hi - lo)) < (if P - c * (hi - lo) < 0 then -(P - c * (hi - lo)) else P - c * (hi - lo)) then 6 * (hi - lo) - (if P - c * (hi - lo) < 0 then -(P - c * (hi - lo)) else P - c * (hi - lo)) else (if P - c * (hi - lo) < 0 then -(P - c * (hi - lo)) else P - c * (hi - lo))) > 0 then 2 * (hi - lo) - (if 6 * (hi - lo) - (if P - c * (hi - lo) < 0 then -(P - c * (hi - lo)) else P - c * (hi - lo)) < (if P - c * (hi - lo) < 0 then -(P - c * (hi - lo)) else P - c * (hi - lo)) then 6 * (hi - lo) - (if P - c * (hi - lo) < 0 then -(P - c * (hi - lo)) else P - c * (hi - lo)) else (if P - c * (hi - lo) < 0 then -(P - c * (hi - lo)) else P - c * (hi - lo))) else 0) else hi - lo
/-- the quotient of two whole numbers as a float -/
noncomputable def qf (a b : Int) : UInt64 := Float64.ofFrac (decide (a < 0) != decide (b < 0)) a.natAbs b.natAbs
theorem hni3 {n i : Nat} (h : n + i = 3) (h3 : ¬ i = 3) : i < 3 := by omega
theorem ints_take {vals : List Value} {a b c : Int} {i : Nat} (hv : IntsAre vals ([a, b, c].take i)) : vals.length ≤ 3 := by
  rw [hv.length, List.length_take]
  exact Nat.min_le_right ..
theorem ints_step {vals : List Value} {ns : List Int} {i : Nat} {x : Int} (hv : IntsAre vals (ns.take i)) (hx : ns[i]? = some x) (t : Tok) : IntsAre (vals ++ [.int x t]) (ns.take (i + 1)) := by
  rw [List.take_add_one, hx]
  exact hv.append (.cons x t .nil)
noncomputable def crn : List Int := [0, 2, 4]
inductive HI (g : Heap) (L1 : Addr) (s : Shared) (sh I Dt D tl : Addr) (P lo sp : Int) (tlo : Tok) (tup : Array Value) (oD ol : Obj) (ns : List Int) (rest : List (Addr × Obj)) (n : Nat) (s' : Shared) : Prop
  | mk (i : Nat) (h : Heap) (tk : Nat) (mm : Str → Option Value) (oI : Obj) (vals : List Value) (ee : Nat) (tp ts : Tok) : n + i = 3 → s' = { heap := h, gens := s.gens, drawn := s.drawn, toks := tk, os := s.os } → Fr g L1 h mm → mm (Str.ofString "shown") = some (.ref sh) → mm (Str.ofString "place") = some (.int P tp) →
      mm (Str.ofString "spread") = some (.int sp ts) → mm (Str.ofString "low") = some (.int lo tlo) → mm (Str.ofString "told") = some (.ref D) → mm (Str.ofString "three") = some (.ref tl) →
      News g L1 h ((I, oI) :: (Dt, ({ cls := .type "tuple", data := .seq tup } : Obj)) :: (sh, W.listOf vals.toArray ee) :: (D, oD) :: (tl, ol) :: rest) →
      TupIt oI Dt i → IntsAre vals (ns.take i) → HI g L1 s sh I Dt D tl P lo sp tlo tup oD ol ns rest n s'
namespace Sk_mid_hue
noncomputable abbrev zP : Type := (List (Addr × Obj)) × (Addr) × (Int) × (Int) × (Int) × (Int) × (Int) × (Nat) × (Tok) × (Tok) × (Tok)
noncomputable def zG : zP × CV → Prop := fun ((rest, tl, i0, i1, i2, P, idx, e, t0, t1, t2), cvx) => ∀ _ : ∀ q ∈ rest, q.1 ≠ tl, ∀ _ : 0 ≤ i0 ∧ i0 ≤ 1024, ∀ _ : 0 ≤ i1 ∧ i1 ≤ 1024, ∀ _ : 0 ≤ i2 ∧ i2 ≤ 1024, ∀ _ : ¬ (i0 = i1 ∧ i1 = i2), ∀ _ : (Float64.cmp (rgbL (lf i0) (lf i1) (lf i2)) (rgbL (lf i0) (lf i1) (lf i2)) == some .eq) = true, ∀ _ : (Float64.cmp (rgbS (lf i0) (lf i1) (lf i2)) (rgbS (lf i0) (lf i1) (lf i2)) == some .eq) = true, ∀ _ : ∀ lo hi : Int, (lo = i0 ∨ lo = i1 ∨ lo = i2) → (lo ≤ i0 ∧ lo ≤ i1 ∧ lo ≤ i2) → (hi = i0 ∨ hi = i1 ∨ hi = i2) → (i0 ≤ hi ∧ i1 ≤ hi ∧ i2 ≤ hi) → qf (lo + hi) 2048 = rgbL (lf i0) (lf i1) (lf i2) ∧ qf (hi - lo) (if 2048 - lo - hi < lo + hi then 2048 - lo - hi else lo + hi) = rgbS (lf i0) (lf i1) (lf i2), ∀ _ : ∀ lo hi : Int, (lo = i0 ∨ lo = i1 ∨ lo = i2) → (lo ≤ i0 ∧ lo ≤ i1 ∧ lo ≤ i2) → (hi = i0 ∨ hi = i1 ∨ hi = i2) → (i0 ≤ hi ∧ i1 ≤ hi ∧ i2 ≤ hi) → Float64.isNaN (Float64.add (Float64.mul (Float64.mul (rgbH (lf i0) (lf i1) (lf i2)) (Float64.ofInt 6)) (Float64.ofInt (hi - lo))) 4602678819172646912) = false ∧ Float64.isInf (Float64.add (Float64.mul (Float64.mul (rgbH (lf i0) (lf i1) (lf i2)) (Float64.ofInt 6)) (Float64.ofInt (hi - lo))) 4602678819172646912) = false ∧ Flt.toInt Float64.truncOf (Float64.add (Float64.mul (Float64.mul (rgbH (lf i0) (lf i1) (lf i2)) (Float64.ofInt 6)) (Float64.ofInt (hi - lo))) 4602678819172646912) = P ∧ shw lo hi P 0 = i0 ∧ shw lo hi P 2 = i1 ∧ shw lo hi P 4 = i2 ∧ [(1 : Int), 0, 2].getD ((P.fdiv (hi - lo)).fmod 3).toNat 0 = idx ∧ (Float64.cmp (Float64.abs (Float64.sub (Float64.mul (Float64.mul (rgbH (lf i0) (lf i1) (lf i2)) (Float64.ofInt 6)) (Float64.ofInt (hi - lo))) (Float64.ofInt P))) (Float64.ofFrac (decide ((1 : Int) < 0) != decide ((2 : Int) ^ Int.toNat 20 < 0)) (Int.natAbs 1) ((2 : Int) ^ Int.toNat 20).natAbs) == some Ordering.gt || Float64.cmp (Float64.abs (Float64.sub (Float64.mul (Float64.mul (rgbH (lf i0) (lf i1) (lf i2)) (Float64.ofInt 6)) (Float64.ofInt (hi - lo))) (Float64.ofInt P))) (Float64.ofFrac (decide ((1 : Int) < 0) != decide ((2 : Int) ^ Int.toNat 20 < 0)) (Int.natAbs 1) ((2 : Int) ^ Int.toNat 20).natAbs) == some Ordering.eq) = false, ∀ _ : 0 ≤ P ∧ P ≤ 6144, ∀ _ : feq (min3 (lf i0) (lf i1) (lf i2)) (max3 (lf i0) (lf i1) (lf i2)) = false, ∀ _ : Float64.isZero (Float64.sub (max3 (lf i0) (lf i1) (lf i2)) (min3 (lf i0) (lf i1) (lf i2))) = false, ∀ _ : fle (rgbL (lf i0) (lf i1) (lf i2)) 4602678819172646912 = true → Float64.isZero (Float64.add (max3 (lf i0) (lf i1) (lf i2)) (min3 (lf i0) (lf i1) (lf i2))) = false, ∀ _ : fle (rgbL (lf i0) (lf i1) (lf i2)) 4602678819172646912 = false → Float64.isZero (Float64.sub (Float64.sub 4611686018427387904 (max3 (lf i0) (lf i1) (lf i2))) (min3 (lf i0) (lf i1) (lf i2))) = false,
  ToldAt w p loose mean mg mb 12 (.ref 94) ([.ref tl]) ((tl, W.listOf #[.int i0 t0, .int i1 t1, .int i2 t2] e) :: rest) (fun r n' => n' = ((tl, W.listOf #[.int i0 t0, .int i1 t1, .int i2 t2] e) :: rest) ∧ ∃ t, r = .int idx t) cvx
theorem zne : Nonempty (zP × CV) := ⟨(([], 0, 0, 0, 0, 0, 0, 0, 0, 0, 0), cv0)⟩
noncomputable def zv : zP × CV := @Classical.epsilon _ zne fun c => ¬ zG c
theorem zall (h : zG zv) (c : zP × CV) : zG c := Classical.byContradiction fun hx => @Classical.epsilon_spec _ (fun c => ¬ zG c) ⟨c, hx⟩ h
namespace K
@[irreducible] noncomputable def rest : List (Addr × Obj) := zv.1.1
@[irreducible] noncomputable def tl : Addr := zv.1.2.1
@[irreducible] noncomputable def i0 : Int := zv.1.2.2.1
@[irreducible] noncomputable def i1 : Int := zv.1.2.2.2.1
@[irreducible] noncomputable def i2 : Int := zv.1.2.2.2.2.1
@[irreducible] noncomputable def P : Int := zv.1.2.2.2.2.2.1
@[irreducible] noncomputable def idx : Int := zv.1.2.2.2.2.2.2.1
@[irreducible] noncomputable def e : Nat := zv.1.2.2.2.2.2.2.2.1
@[irreducible] noncomputable def t0 : Tok := zv.1.2.2.2.2.2.2.2.2.1
@[irreducible] noncomputable def t1 : Tok := zv.1.2.2.2.2.2.2.2.2.2.1
@[irreducible] noncomputable def t2 : Tok := zv.1.2.2.2.2.2.2.2.2.2.2
@[irreducible] noncomputable def dp : Nat := zv.2.1
@[irreducible] noncomputable def un : Nat := zv.2.2.1
@[irreducible] noncomputable def gd : Option (List Code) := zv.2.2.2.1
@[irreducible] noncomputable def env : Env := zv.2.2.2.2.1
@[irreducible] noncomputable def outer : List Env := zv.2.2.2.2.2.1
@[irreducible] noncomputable def A₀ : Around := zv.2.2.2.2.2.2.1
@[irreducible] noncomputable def base : Heap := zv.2.2.2.2.2.2.2.1
@[irreducible] noncomputable def h₀ : Heap := zv.2.2.2.2.2.2.2.2.1
@[irreducible] noncomputable def L : Addr := zv.2.2.2.2.2.2.2.2.2.1
@[irreducible] noncomputable def m : Str → Option Value := zv.2.2.2.2.2.2.2.2.2.2.1
@[irreducible] noncomputable def s : Shared := zv.2.2.2.2.2.2.2.2.2.2.2.1
@[irreducible] noncomputable def Q : Value → Shared → Prop := zv.2.2.2.2.2.2.2.2.2.2.2.2
end K
end Sk_mid_hue
section
open Sk_mid_hue.K
theorem Sk_mid_hue.zeq : ((Sk_mid_hue.K.rest, Sk_mid_hue.K.tl, Sk_mid_hue.K.i0, Sk_mid_hue.K.i1, Sk_mid_hue.K.i2, Sk_mid_hue.K.P, Sk_mid_hue.K.idx, Sk_mid_hue.K.e, Sk_mid_hue.K.t0, Sk_mid_hue.K.t1, Sk_mid_hue.K.t2), (Sk_mid_hue.K.dp, Sk_mid_hue.K.un, Sk_mid_hue.K.gd, Sk_mid_hue.K.env, Sk_mid_hue.K.outer, Sk_mid_hue.K.A₀, Sk_mid_hue.K.base, Sk_mid_hue.K.h₀, Sk_mid_hue.K.L, Sk_mid_hue.K.m, Sk_mid_hue.K.s, Sk_mid_hue.K.Q)) = Sk_mid_hue.zv := by with_unfolding_all rfl
noncomputable def Sk_mid_hue.zpb : { zPP : Heap → Addr → Heap → Prop // ∀ (hn1 : ∀ q ∈ rest, q.1 ≠ tl) (b0 : 0 ≤ i0 ∧ i0 ≤ 1024) (b1 : 0 ≤ i1 ∧ i1 ≤ 1024) (b2 : 0 ≤ i2 ∧ i2 ≤ 1024) (hne : ¬ (i0 = i1 ∧ i1 = i2)) (hx1 : (Float64.cmp (rgbL (lf i0) (lf i1) (lf i2)) (rgbL (lf i0) (lf i1) (lf i2)) == some .eq) = true) (hx2 : (Float64.cmp (rgbS (lf i0) (lf i1) (lf i2)) (rgbS (lf i0) (lf i1) (lf i2)) == some .eq) = true) (hLS : ∀ lo hi : Int, (lo = i0 ∨ lo = i1 ∨ lo = i2) → (lo ≤ i0 ∧ lo ≤ i1 ∧ lo ≤ i2) → (hi = i0 ∨ hi = i1 ∨ hi = i2) → (i0 ≤ hi ∧ i1 ≤ hi ∧ i2 ≤ hi) → qf (lo + hi) 2048 = rgbL (lf i0) (lf i1) (lf i2) ∧ qf (hi - lo) (if 2048 - lo - hi < lo + hi then 2048 - lo - hi else lo + hi) = rgbS (lf i0) (lf i1) (lf i2)) (hPl : ∀ lo hi : Int, (lo = i0 ∨ lo = i1 ∨ lo = i2) → (lo ≤ i0 ∧ lo ≤ i1 ∧ lo ≤ i2) → (hi = i0 ∨ hi = i1 ∨ hi = i2) → (i0 ≤ hi ∧ i1 ≤ hi ∧ i2 ≤ hi) → Float64.isNaN (Float64.add (Float64.mul (Float64.mul (rgbH (lf i0) (lf i1) (lf i2)) (Float64.ofInt 6)) (Float64.ofInt (hi - lo))) 4602678819172646912) = false ∧ Float64.isInf (Float64.add (Float64.mul (Float64.mul (rgbH (lf i0) (lf i1) (lf i2)) (Float64.ofInt 6)) (Float64.ofInt (hi - lo))) 4602678819172646912) = false ∧ Flt.toInt Float64.truncOf (Float64.add (Float64.mul (Float64.mul (rgbH (lf i0) (lf i1) (lf i2)) (Float64.ofInt 6)) (Float64.ofInt (hi - lo))) 4602678819172646912) = P ∧ shw lo hi P 0 = i0 ∧ shw lo hi P 2 = i1 ∧ shw lo hi P 4 = i2 ∧ [(1 : Int), 0, 2].getD ((P.fdiv (hi - lo)).fmod 3).toNat 0 = idx ∧ (Float64.cmp (Float64.abs (Float64.sub (Float64.mul (Float64.mul (rgbH (lf i0) (lf i1) (lf i2)) (Float64.ofInt 6)) (Float64.ofInt (hi - lo))) (Float64.ofInt P))) (Float64.ofFrac (decide ((1 : Int) < 0) != decide ((2 : Int) ^ Int.toNat 20 < 0)) (Int.natAbs 1) ((2 : Int) ^ Int.toNat 20).natAbs) == some Ordering.gt || Float64.cmp (Float64.abs (Float64.sub (Float64.mul (Float64.mul (rgbH (lf i0) (lf i1) (lf i2)) (Float64.ofInt 6)) (Float64.ofInt (hi - lo))) (Float64.ofInt P))) (Float64.ofFrac (decide ((1 : Int) < 0) != decide ((2 : Int) ^ Int.toNat 20 < 0)) (Int.natAbs 1) ((2 : Int) ^ Int.toNat 20).natAbs) == some Ordering.eq) = false) (hPb : 0 ≤ P ∧ P ≤ 6144) (hG : feq (min3 (lf i0) (lf i1) (lf i2)) (max3 (lf i0) (lf i1) (lf i2)) = false) (z1 : Float64.isZero (Float64.sub (max3 (lf i0) (lf i1) (lf i2)) (min3 (lf i0) (lf i1) (lf i2))) = false) (z2 : fle (rgbL (lf i0) (lf i1) (lf i2)) 4602678819172646912 = true → Float64.isZero (Float64.add (max3 (lf i0) (lf i1) (lf i2)) (min3 (lf i0) (lf i1) (lf i2))) = false) (z3 : fle (rgbL (lf i0) (lf i1) (lf i2)) 4602678819172646912 = false → Float64.isZero (Float64.sub (Float64.sub 4611686018427387904 (max3 (lf i0) (lf i1) (lf i2))) (min3 (lf i0) (lf i1) (lf i2))) = false) (B : Below A₀ base outer h₀) (F : Fr h₀ L s.heap m) (X : (_root_.Mine.hd.heap_1 w.params).In h₀) (N : News h₀ L s.heap ((tl, W.listOf #[.int i0 t0, .int i1 t1, .int i2 t2] e) :: rest)) (T : Top p loose mean mg mb h₀) (CH : CodeHd h₀ 88 84) (hf : env.frame = some L) (hk : env.scope.kind = .function) (hd : dp + 12 < recursionLimit) (hu : un + 8 * 12 < cLine)
    (hret : ∀ r h' tk' news', Fr h₀ L h' m → News h₀ L h' news' → (fun r n' => n' = ((tl, W.listOf #[.int i0 t0, .int i1 t1, .int i2 t2] e) :: rest) ∧ ∃ t, r = .int idx t) r news' → Q r { heap := h', gens := s.gens, drawn := s.drawn, toks := tk', os := s.os }), (∀ g L1 h1, zPP g L1 h1) → codeAny (model PySem.Challenge.rw_kl0066_01.row.prog w) { handled := none, depth := dp, frames := some (env :: outer), guards := gd, units := un } (.call (.ref 94) ⟨[.ref tl], []⟩) (fun r s' => match r with | .ok (.ret v) => Q v s' | .ok _ => False | .error e => (fun _ _ => False) e s') s } := by
  refine' ⟨_, ?h⟩
  case h =>
    intro hn1 b0 b1 b2 hne hx1 hx2 hLS hPl hPb hG z1 z2 z3 B F X N T CH hf hk hd hu hret
    revert X
    k_fill
    intro X HH
    k_dflt (refine' enterP (binds := [("three", .ref tl)]) ?k1 ?k2 ?k3 ?k4 ?k5 ?kc ?kA ?kF ?kK ?k6 ?k7 ?k8 ?k9 ?kB ?_ ?c2 ?c3 ?c4 ?c5)
    case kA => exact rfl
    case kF => assumption
    case kK => assumption
    case k1 => k_asm
    case k2 => k_asm
    case k3 => k_asm
    case k4 => k_asm
    case k5 => k_asm
    case kc => assumption
    case k6 => k_dflt k_is
    case k7 => k_dflt k_is
    case k8 => (try simp only [depth_under_make, depth_under_kw, depth_in1, depth_deeper, depth_caller] at *); simp only [recursionLimit] at *; omega
    case k9 => exact BindsTo.of_eq rfl
    case c2 => exact rfl
    case c3 => exact rfl
    case c4 => exact rfl
    case c5 => decide
    case kB => exact locs rfl
    intro g L1 h1
    revert hn1 b0 b1 b2 hne hx1 hx2 hLS hPl hPb hG z1 z2 z3 hd hu hret X
    exact HH g L1 h1
noncomputable def Sk_mid_hue.zv2 : Heap × Addr × Heap := @Classical.epsilon _ ⟨(default, 0, default)⟩ fun c => ¬ Sk_mid_hue.zpb.1 c.1 c.2.1 c.2.2
theorem Sk_mid_hue.zall2 (h : Sk_mid_hue.zpb.1 Sk_mid_hue.zv2.1 Sk_mid_hue.zv2.2.1 Sk_mid_hue.zv2.2.2) (g : Heap) (L1 : Addr) (h1 : Heap) : Sk_mid_hue.zpb.1 g L1 h1 := Classical.byContradiction fun hx => @Classical.epsilon_spec _ (fun c : Heap × Addr × Heap => ¬ Sk_mid_hue.zpb.1 c.1 c.2.1 c.2.2) ⟨(g, L1, h1), hx⟩ h
namespace Sk_mid_hue.K
@[irreducible] noncomputable def g : Heap := zv2.1
@[irreducible] noncomputable def L1 : Addr := zv2.2.1
@[irreducible] noncomputable def h1 : Heap := zv2.2.2
end Sk_mid_hue.K
noncomputable def Sk_mid_hue.K.qk : Flow → Shared → Prop := fun fl s' => LeaveK h₀ L m g (fun r s' => match r with | .ok (.ret v) => Q v s' | .ok _ => False | .error e => (fun _ _ => False) e s') (match fl with | .ret v => v | _ => .none) s'
local macro_rules | `(tactic| k_unfold) => `(tactic| ((with_reducible show Sk_mid_hue.K.qk _ _); unfold Sk_mid_hue.K.qk))
theorem Sk_mid_hue.zbody : Sk_mid_hue.zpb.1 g L1 h1 := by
  unfold Sk_mid_hue.zpb
  dsimp only
  intro hn1 b0 b1 b2 hne hx1 hx2 hLS hPl hPb hG z1 z2 z3 hd hu hret X FG F1 N1 B1 X1 T1 CH1 l1
  dsimp only [List.reverse, List.reverseAux] at F1
  try dsimp only
  change wpAny _ _ _ qk _ _
  have hbk := booked X1 T1
  k_steps
  · exact lf_fits b0 ‹Float64.isInf (Float64.ofFrac _ _ _) = true›
  · exact lf_fits b1 ‹Float64.isInf (Float64.ofFrac _ _ _) = true›
  · exact lf_fits b2 ‹Float64.isInf (Float64.ofFrac _ _ _) = true›
  refine wpAny_with_toks (n := 1) (by first | omega | (simp only; omega)) ?_
  k_dflt (refine' Told.use B1 ?F X1 ?N T1 CH1 (rgb_told _ (lf i0) (lf i1) (lf i2) _ _ _ (fun _ => z1) (fun _ => z2) (fun _ => z3)) rfl rfl rfl ?hd ?hu ?_)
  case F => assumption
  case N => assumption
  case hd => simp only at *; omega
  case hu => simp only at *; omega
  rintro r h3 tk3 n3 F3 N3 ⟨D, u1, u2, u3, rfl, l3, rfl, q1, q2, q3⟩ tkq3
  replace tkq3 : 0 < tk3 := tkq3
  rw [hG] at N3
  replace N3 : News g L1 h3 ((D, tupO [.float (rgbH (lf i0) (lf i1) (lf i2)) u1, .float (rgbL (lf i0) (lf i1) (lf i2)) u2, .float (rgbS (lf i0) (lf i1) (lf i2)) u3]) :: _) := N3
  generalize rgbH (lf i0) (lf i1) (lf i2) = fH at *
  generalize rgbL (lf i0) (lf i1) (lf i2) = fL at *
  generalize rgbS (lf i0) (lf i1) (lf i2) = fS at *
  have hu3 : un + 3 < cLine := by omega
  have hu67 : un + 3 + 64 < cLine := by omega
  clear z1 z2 z3 hG hu hd
  have hmk : HoldMark := ⟨⟩
  k_steps
  rename HoldMark => hmk
  clear hmk
  rename_i lo tlo _ alo blo _ hi thi _ ahi bhi D2 _ l2 _ _ _ _ _ _ _ _ _ _ _ _
  obtain ⟨lo0, hi0, hll⟩ := lohi_sum b0 b1 b2 hne alo blo ahi bhi
  obtain ⟨hL, hS⟩ := hLS lo hi alo blo ahi bhi
  obtain ⟨hn, hinf, hP, hs0, hs1, hs2, hidx, hfar⟩ := hPl lo hi alo blo ahi bhi
  clear hLS hPl b0 b1 b2 hne alo blo ahi bhi
  unfold Hold
  k_steps
  · exact (sub_pos_ne hll (by assumption)).elim
  refine' slice_tuple_from (a := 1) ?F ?N ?t (by decide) ?b ?_ ?hs ?hg ?z
  case F => assumption
  case N => assumption
  case t => exact ⟨_, (News.get (by assumption) (by k_mem)), rfl, _, rfl⟩
  case b => exact Nat.le_of_ble_eq_true rfl
  case hs => with_unfolding_all rfl
  case hg => (intro _; with_unfolding_all rfl)
  case z => exact Nat.le_of_ble_eq_true rfl
  intro h5 F5 N5
  have hmk : HoldMark := ⟨⟩
  k_steps
  rename HoldMark => hmk
  clear hmk
  unfold Hold
  refine' wpAny_with_toks (n := 1) ?P ?_
  case P => first | omega | (simp only; omega)
  refine' min_two_N ?H ?F ?N ?_
  case H => rfl
  case F => assumption
  case N => assumption
  intro h6 tkm F6 N6 tkmp
  replace tkmp : 0 < tkm := tkmp
  k_steps
  rename_i D3 h7 F7 N7 l7
  unfold Hold
  have hL' : Float64.ofFrac (decide (lo + hi < 0) != decide ((2048 : Int) < 0)) (lo + hi).natAbs (Int.natAbs 2048) = fL := hL
  have hS' : Float64.ofFrac (decide (hi - lo < 0) != decide ((if 2048 - lo - hi < lo + hi then 2048 - lo - hi else lo + hi) < 0)) (hi - lo).natAbs (if 2048 - lo - hi < lo + hi then 2048 - lo - hi else lo + hi).natAbs = fS := hS
  rw [hL', hS'] at N7
  refine' tneL (xs := [fL, fS]) hbk ?A F7 N7 ?ma ?mb ?v ?u ?_
  case A => exact hu3
  case ma => exact List.mem_cons_of_mem _ (List.mem_cons_self ..)
  case mb => exact List.mem_cons_self ..
  case v => exact FlsTok.cons' rfl hx1 q2 (FlsTok.cons' rfl hx2 q3 FlsTok.nil)
  case u => exact FlsTok.cons' rfl hx1 (by omega) (FlsTok.cons' rfl hx2 tkmp FlsTok.nil)
  k_steps
  unfold Hold
  refine wpAny_For ?_
  k_steps
  rename_i sh _ lsh _ tkd _ _ Dt _ _ _ ldt
  have htup : ∀ (i : Nat) (d : Int), crn[i]? = some d → ∃ u, (#[Value.int 0 tkd, Value.int 2 (tkd + 1), Value.int 4 (tkd + 1 + 1)] : Array Value)[i]? = some (.int d u) := by
    intro i d hd
    match i, hd with
    | 0, hd => cases hd; exact ⟨_, rfl⟩
    | 1, hd => cases hd; exact ⟨_, rfl⟩
    | 2, hd => cases hd; exact ⟨_, rfl⟩
    | _ + 3, hd => cases hd
  have hsh : ∀ (i : Nat) (d : Int), crn[i]? = some d → [i0, i1, i2][i]? = some (shw lo hi P d) := by
    intro i d hd
    match i, hd with
    | 0, hd => cases hd; exact congrArg some hs0.symm
    | 1, hd => cases hd; exact congrArg some hs1.symm
    | 2, hd => cases hd; exact congrArg some hs2.symm
    | _ + 3, hd => cases hd
  have htz : (#[Value.int 0 tkd, Value.int 2 (tkd + 1), Value.int 4 (tkd + 1 + 1)] : Array Value)[3]? = none := rfl
  clear hs0 hs1 hs2
  generalize (#[Value.int 0 tkd, Value.int 2 (tkd + 1), Value.int 4 (tkd + 1 + 1)] : Array Value) = tup at *
  refine' tup_iter ?F ?N ?hm ?_
  case F => assumption
  case N => assumption
  case hm => exact List.mem_cons_self ..
  intro I oI h8 F8 N8 hI l8
  rw [hP] at F8
  have hIsh : @LT.lt Nat _ sh I := l8 _ (List.mem_cons_of_mem _ (List.mem_cons_self ..))
  have hIt : @LT.lt Nat _ Dt I := l8 _ (List.mem_cons_self ..)
  have hID : @LT.lt Nat _ D I := l8 _ (List.mem_cons_of_mem _ (List.mem_cons_of_mem _ (List.mem_cons_of_mem _ (List.mem_cons_of_mem _ (List.mem_cons_of_mem _ (List.mem_cons_self ..))))))
  have hItl : @LT.lt Nat _ tl I := l8 _ (List.mem_cons_of_mem _ (List.mem_cons_of_mem _ (List.mem_cons_of_mem _ (List.mem_cons_of_mem _ (List.mem_cons_of_mem _ (List.mem_cons_of_mem _ (List.mem_cons_self ..)))))))
  have hIr : ∀ p ∈ rest, p.1 < I := fun p hp => l8 p (by simp [hp])
  have hsr : ∀ p ∈ rest, p.1 < sh := ktn_ltOf lsh.2.2.2.2.2
  have hsD : @LT.lt Nat _ D sh := lsh.2.2.2.1
  have hstl : @LT.lt Nat _ tl sh := lsh.2.2.2.2.1
  have hst : @LT.lt Nat _ sh Dt := ldt.1
  clear l8
  refine forLoopS (HI g L1 s sh I Dt D tl P lo (hi - lo) tlo tup (tupO [.float fH u1, .float fL u2, .float fS u3]) (W.listOf #[.int i0 t0, .int i1 t1, .int i2 t2] e) [i0, i1, i2] rest) ?turn 3 ?h0
  case h0 =>
    exact ⟨0, h8, _, _, oI, [], 0, _, _, rfl, rfl, F8, rfl, rfl, rfl, rfl, rfl, rfl, news_of_sub N8 (by repeat (first | with_reducible apply sub_nil | with_reducible apply sub_refl | with_reducible refine sub_cons (by with_reducible first | apply at0 | apply at1 | apply at2 | apply at3 | apply at4 | apply at5 | apply at6 | apply at7 | apply at8 | apply at9 | apply at10 | apply at11 | apply at12 | apply at13) ?_ | with_reducible refine sub_tail4 ?_ | with_reducible refine sub_tail ?_)), hI, .nil⟩
  case turn =>
    rintro n s9 ⟨i, h9, tk9, m9, o9, vals, ee, tp, ts, hni, rfl, F9, e1, e2, e3, e4, e5, e6, N9, hI9, hv⟩
    replace F9 := know6 F9 e1 e2 e3 e4 e5 e6
    have off9 : ∀ p ∈ (Dt, ({ cls := .type "tuple", data := .seq tup } : Obj)) :: (sh, W.listOf vals.toArray ee) :: (D, tupO [.float fH u1, .float fL u2, .float fS u3]) :: (tl, W.listOf #[.int i0 t0, .int i1 t1, .int i2 t2] e) :: rest, p.1 ≠ I :=
      nes_cons (Nat.ne_of_lt hIt) (nes_cons (Nat.ne_of_lt hIsh) (nes_cons (Nat.ne_of_lt hID) (nes_cons (Nat.ne_of_lt hItl) fun p hp => Nat.ne_of_lt (hIr p hp))))
    clear e1 e2 e3 e4 e5 e6
    by_cases hi3 : i = 3
    · refine tup_done rfl F9 N9 off9 hI9 at0 (by rw [hi3]; exact htz) fun ha Fa Na => ?_
      clear F9 N9 off9 hsh htup
      subst hi3
      dsimp only
      k_steps
      unfold Hold
      refine ke_ne_ints (xs := vals) (ys := [.int i0 t0, .int i1 t1, .int i2 t2]) (ns := [i0, i1, i2]) (ms := [i0, i1, i2]) ⟨_, (Na _ at1).1, rfl, _, rfl⟩ ⟨_, (Na _ at3).1, rfl, _, rfl⟩ hv (.cons _ _ (.cons _ _ (.cons _ _ .nil))) hu67 ?_
      rw [decide_eq_true rfl]
      have hPn : P.natAbs ≤ 6144 := by omega
      have hbig : 6144 < 2 ^ 1024 - 2 ^ 970 := by decide +kernel
      k_steps
      · rw [hidx]
        exact hret _ _ _ _ (by assumption) (news_of_sub (by assumption) (by repeat (first | with_reducible apply sub_nil | with_reducible apply sub_refl | with_reducible refine sub_cons (by with_reducible first | apply at0 | apply at1 | apply at2 | apply at3 | apply at4 | apply at5 | apply at6 | apply at7 | apply at8 | apply at9 | apply at10 | apply at11 | apply at12 | apply at13) ?_ | with_reducible refine sub_tail4 ?_ | with_reducible refine sub_tail ?_))) ⟨rfl, _, rfl⟩
    · have hlt : i < 3 := hni3 hni hi3
      obtain ⟨d, hd⟩ : ∃ d, crn[i]? = some d := ⟨_, List.getElem?_eq_getElem (show i < crn.length from hlt)⟩
      obtain ⟨u, hu⟩ := htup i d hd
      have hv2 := hsh i d hd
      have hvl : vals.length ≤ 3 := ints_take hv
      refine tup_next F9 N9 off9 hI9 at0 hu fun oA ha Fa Na hA => ?_
      clear F9 N9 off9 hn hinf hP hidx hfar hsh htup htz hu hd 
      dsimp only
      k_steps


      rename_i Fz Nz
      rw [List.push_toArray] at Nz
      show Step _ n _
      exact ⟨n - 1, by omega, i + 1, _, _, _, oA, _, _, _, _, by omega, rfl, Fz, rfl, rfl, rfl, rfl, rfl, rfl, Nz, hA, ints_step hv hv2 _⟩
theorem Sk_mid_hue.zeq2 : Sk_mid_hue.zpb.1 g L1 h1 = Sk_mid_hue.zpb.1 Sk_mid_hue.zv2.1 Sk_mid_hue.zv2.2.1 Sk_mid_hue.zv2.2.2 := by with_unfolding_all rfl
theorem Sk_mid_hue.zcore (hn1 : ∀ q ∈ rest, q.1 ≠ tl) (b0 : 0 ≤ i0 ∧ i0 ≤ 1024) (b1 : 0 ≤ i1 ∧ i1 ≤ 1024) (b2 : 0 ≤ i2 ∧ i2 ≤ 1024) (hne : ¬ (i0 = i1 ∧ i1 = i2)) (hx1 : (Float64.cmp (rgbL (lf i0) (lf i1) (lf i2)) (rgbL (lf i0) (lf i1) (lf i2)) == some .eq) = true) (hx2 : (Float64.cmp (rgbS (lf i0) (lf i1) (lf i2)) (rgbS (lf i0) (lf i1) (lf i2)) == some .eq) = true) (hLS : ∀ lo hi : Int, (lo = i0 ∨ lo = i1 ∨ lo = i2) → (lo ≤ i0 ∧ lo ≤ i1 ∧ lo ≤ i2) → (hi = i0 ∨ hi = i1 ∨ hi = i2) → (i0 ≤ hi ∧ i1 ≤ hi ∧ i2 ≤ hi) → qf (lo + hi) 2048 = rgbL (lf i0) (lf i1) (lf i2) ∧ qf (hi - lo) (if 2048 - lo - hi < lo + hi then 2048 - lo - hi else lo + hi) = rgbS (lf i0) (lf i1) (lf i2)) (hPl : ∀ lo hi : Int, (lo = i0 ∨ lo = i1 ∨ lo = i2) → (lo ≤ i0 ∧ lo ≤ i1 ∧ lo ≤ i2) → (hi = i0 ∨ hi = i1 ∨ hi = i2) → (i0 ≤ hi ∧ i1 ≤ hi ∧ i2 ≤ hi) → Float64.isNaN (Float64.add (Float64.mul (Float64.mul (rgbH (lf i0) (lf i1) (lf i2)) (Float64.ofInt 6)) (Float64.ofInt (hi - lo))) 4602678819172646912) = false ∧ Float64.isInf (Float64.add (Float64.mul (Float64.mul (rgbH (lf i0) (lf i1) (lf i2)) (Float64.ofInt 6)) (Float64.ofInt (hi - lo))) 4602678819172646912) = false ∧ Flt.toInt Float64.truncOf (Float64.add (Float64.mul (Float64.mul (rgbH (lf i0) (lf i1) (lf i2)) (Float64.ofInt 6)) (Float64.ofInt (hi - lo))) 4602678819172646912) = P ∧ shw lo hi P 0 = i0 ∧ shw lo hi P 2 = i1 ∧ shw lo hi P 4 = i2 ∧ [(1 : Int), 0, 2].getD ((P.fdiv (hi - lo)).fmod 3).toNat 0 = idx ∧ (Float64.cmp (Float64.abs (Float64.sub (Float64.mul (Float64.mul (rgbH (lf i0) (lf i1) (lf i2)) (Float64.ofInt 6)) (Float64.ofInt (hi - lo))) (Float64.ofInt P))) (Float64.ofFrac (decide ((1 : Int) < 0) != decide ((2 : Int) ^ Int.toNat 20 < 0)) (Int.natAbs 1) ((2 : Int) ^ Int.toNat 20).natAbs) == some Ordering.gt || Float64.cmp (Float64.abs (Float64.sub (Float64.mul (Float64.mul (rgbH (lf i0) (lf i1) (lf i2)) (Float64.ofInt 6)) (Float64.ofInt (hi - lo))) (Float64.ofInt P))) (Float64.ofFrac (decide ((1 : Int) < 0) != decide ((2 : Int) ^ Int.toNat 20 < 0)) (Int.natAbs 1) ((2 : Int) ^ Int.toNat 20).natAbs) == some Ordering.eq) = false) (hPb : 0 ≤ P ∧ P ≤ 6144) (hG : feq (min3 (lf i0) (lf i1) (lf i2)) (max3 (lf i0) (lf i1) (lf i2)) = false) (z1 : Float64.isZero (Float64.sub (max3 (lf i0) (lf i1) (lf i2)) (min3 (lf i0) (lf i1) (lf i2))) = false) (z2 : fle (rgbL (lf i0) (lf i1) (lf i2)) 4602678819172646912 = true → Float64.isZero (Float64.add (max3 (lf i0) (lf i1) (lf i2)) (min3 (lf i0) (lf i1) (lf i2))) = false) (z3 : fle (rgbL (lf i0) (lf i1) (lf i2)) 4602678819172646912 = false → Float64.isZero (Float64.sub (Float64.sub 4611686018427387904 (max3 (lf i0) (lf i1) (lf i2))) (min3 (lf i0) (lf i1) (lf i2))) = false) (B : Below A₀ base outer h₀) (F : Fr h₀ L s.heap m) (X : (_root_.Mine.hd.heap_1 w.params).In h₀) (N : News h₀ L s.heap ((tl, W.listOf #[.int i0 t0, .int i1 t1, .int i2 t2] e) :: rest)) (T : Top p loose mean mg mb h₀) (CH : CodeHd h₀ 88 84) (hf : env.frame = some L) (hk : env.scope.kind = .function) (hd : dp + 12 < recursionLimit) (hu : un + 8 * 12 < cLine)
    (hret : ∀ r h' tk' news', Fr h₀ L h' m → News h₀ L h' news' → (fun r n' => n' = ((tl, W.listOf #[.int i0 t0, .int i1 t1, .int i2 t2] e) :: rest) ∧ ∃ t, r = .int idx t) r news' → Q r { heap := h', gens := s.gens, drawn := s.drawn, toks := tk', os := s.os }) : codeAny (model PySem.Challenge.rw_kl0066_01.row.prog w) { handled := none, depth := dp, frames := some (env :: outer), guards := gd, units := un } (.call (.ref 94) ⟨[.ref tl], []⟩) (fun r s' => match r with | .ok (.ret v) => Q v s' | .ok _ => False | .error e => (fun _ _ => False) e s') s :=
  Sk_mid_hue.zpb.2 hn1 b0 b1 b2 hne hx1 hx2 hLS hPl hPb hG z1 z2 z3 B F X N T CH hf hk hd hu hret (Sk_mid_hue.zall2 (Sk_mid_hue.zeq2.mp Sk_mid_hue.zbody))
theorem Sk_mid_hue.zkey : Sk_mid_hue.zG Sk_mid_hue.zv := (congrArg Sk_mid_hue.zG Sk_mid_hue.zeq).mp Sk_mid_hue.zcore
end
theorem mid_hue (rest : List (Addr × Obj)) {tl : Addr} (i0 : Int) (i1 : Int) (i2 : Int) (P : Int) (idx : Int) (e : Nat) (t0 : Tok) (t1 : Tok) (t2 : Tok) (hn1 : ∀ q ∈ rest, q.1 ≠ tl) (b0 : 0 ≤ i0 ∧ i0 ≤ 1024) (b1 : 0 ≤ i1 ∧ i1 ≤ 1024) (b2 : 0 ≤ i2 ∧ i2 ≤ 1024) (hne : ¬ (i0 = i1 ∧ i1 = i2)) (hx1 : (Float64.cmp (rgbL (lf i0) (lf i1) (lf i2)) (rgbL (lf i0) (lf i1) (lf i2)) == some .eq) = true) (hx2 : (Float64.cmp (rgbS (lf i0) (lf i1) (lf i2)) (rgbS (lf i0) (lf i1) (lf i2)) == some .eq) = true) (hLS : ∀ lo hi : Int, (lo = i0 ∨ lo = i1 ∨ lo = i2) → (lo ≤ i0 ∧ lo ≤ i1 ∧ lo ≤ i2) → (hi = i0 ∨ hi = i1 ∨ hi = i2) → (i0 ≤ hi ∧ i1 ≤ hi ∧ i2 ≤ hi) → qf (lo + hi) 2048 = rgbL (lf i0) (lf i1) (lf i2) ∧ qf (hi - lo) (if 2048 - lo - hi < lo + hi then 2048 - lo - hi else lo + hi) = rgbS (lf i0) (lf i1) (lf i2)) (hPl : ∀ lo hi : Int, (lo = i0 ∨ lo = i1 ∨ lo = i2) → (lo ≤ i0 ∧ lo ≤ i1 ∧ lo ≤ i2) → (hi = i0 ∨ hi = i1 ∨ hi = i2) → (i0 ≤ hi ∧ i1 ≤ hi ∧ i2 ≤ hi) → Float64.isNaN (Float64.add (Float64.mul (Float64.mul (rgbH (lf i0) (lf i1) (lf i2)) (Float64.ofInt 6)) (Float64.ofInt (hi - lo))) 4602678819172646912) = false ∧ Float64.isInf (Float64.add (Float64.mul (Float64.mul (rgbH (lf i0) (lf i1) (lf i2)) (Float64.ofInt 6)) (Float64.ofInt (hi - lo))) 4602678819172646912) = false ∧ Flt.toInt Float64.truncOf (Float64.add (Float64.mul (Float64.mul (rgbH (lf i0) (lf i1) (lf i2)) (Float64.ofInt 6)) (Float64.ofInt (hi - lo))) 4602678819172646912) = P ∧ shw lo hi P 0 = i0 ∧ shw lo hi P 2 = i1 ∧ shw lo hi P 4 = i2 ∧ [(1 : Int), 0, 2].getD ((P.fdiv (hi - lo)).fmod 3).toNat 0 = idx ∧ (Float64.cmp (Float64.abs (Float64.sub (Float64.mul (Float64.mul (rgbH (lf i0) (lf i1) (lf i2)) (Float64.ofInt 6)) (Float64.ofInt (hi - lo))) (Float64.ofInt P))) (Float64.ofFrac (decide ((1 : Int) < 0) != decide ((2 : Int) ^ Int.toNat 20 < 0)) (Int.natAbs 1) ((2 : Int) ^ Int.toNat 20).natAbs) == some Ordering.gt || Float64.cmp (Float64.abs (Float64.sub (Float64.mul (Float64.mul (rgbH (lf i0) (lf i1) (lf i2)) (Float64.ofInt 6)) (Float64.ofInt (hi - lo))) (Float64.ofInt P))) (Float64.ofFrac (decide ((1 : Int) < 0) != decide ((2 : Int) ^ Int.toNat 20 < 0)) (Int.natAbs 1) ((2 : Int) ^ Int.toNat 20).natAbs) == some Ordering.eq) = false) (hPb : 0 ≤ P ∧ P ≤ 6144) (hG : feq (min3 (lf i0) (lf i1) (lf i2)) (max3 (lf i0) (lf i1) (lf i2)) = false) (z1 : Float64.isZero (Float64.sub (max3 (lf i0) (lf i1) (lf i2)) (min3 (lf i0) (lf i1) (lf i2))) = false) (z2 : fle (rgbL (lf i0) (lf i1) (lf i2)) 4602678819172646912 = true → Float64.isZero (Float64.add (max3 (lf i0) (lf i1) (lf i2)) (min3 (lf i0) (lf i1) (lf i2))) = false) (z3 : fle (rgbL (lf i0) (lf i1) (lf i2)) 4602678819172646912 = false → Float64.isZero (Float64.sub (Float64.sub 4611686018427387904 (max3 (lf i0) (lf i1) (lf i2))) (min3 (lf i0) (lf i1) (lf i2))) = false) : Told w p loose mean mg mb 12 (.ref 94) ([.ref tl]) ((tl, W.listOf #[.int i0 t0, .int i1 t1, .int i2 t2] e) :: rest) (fun r n' => n' = ((tl, W.listOf #[.int i0 t0, .int i1 t1, .int i2 t2] e) :: rest) ∧ ∃ t, r = .int idx t) :=
  told_at fun cvx => Sk_mid_hue.zall Sk_mid_hue.zkey ((rest, tl, i0, i1, i2, P, idx, e, t0, t1, t2), cvx) hn1 b0 b1 b2 hne hx1 hx2 hLS hPl hPb hG z1 z2 z3

end Mine
end partFHue

/- the part Fl1 -/
section
open PySem PySem.W PySem.Calls PyProof.Rows PySem.Spec
namespace Mine
theorem fresh_Fl1 (prog : Program) (w : World) (A : Around) (env : Env) (s : Shared) (Q : Flow → Shared → Prop) (E : Value → Shared → Prop) (h : Q .next s) :
    wpAny (model prog w) A (execs [] env) Q E s := by
  w_top off
  walk1
  exact h
end Mine
end
section partFl1
namespace Mine
local macro_rules | `(tactic| omega) => `(tactic| lia)
open PySem.Float64

/-- each j * 2^k with j at most 2^53 is a magnitude -/
theorem V_surj : ∀ (k j : Nat), j ≤ 2 ^ 53 → ∃ t, V t = j * 2 ^ k
  | 0, j, h => ⟨0 * 2 ^ 52 + j, V_at h (.inr rfl)⟩
  | k + 1, j, h => by
    by_cases hj : 2 ^ 52 ≤ j
    · exact ⟨(k + 1) * 2 ^ 52 + j, V_at h (.inl hj)⟩
    · obtain ⟨t, ht⟩ := V_surj k (2 * j) (by omega)
      exact ⟨t, by rw [ht, Nat.pow_succ]; ac_rfl⟩

theorem dist_comm' (a b : Nat) : dist a b = dist b a := by unfold dist; omega

theorem dist_l {W B m : Nat} (h : B + m = W) : dist W B = m := by unfold dist; omega
theorem dist_r {W B A m : Nat} (h : B + m = W) (hm : m < A) : dist W (B + A) = A - m := by unfold dist; omega
theorem half {X A m : Nat} (a : X ≤ m) (b : X ≤ A - m) (c : m < A) : 2 * X ≤ A := by omega
theorem half0 {X A B W m : Nat} (a : X ≤ m) (b : B + m = W) (c : W ≤ B) : 2 * X ≤ A := by omega
theorem dist_ge {W a : Nat} (h : a ≤ W) : dist W a = W - a := dist_l (Nat.add_sub_of_le h)
theorem dist_le' {W a : Nat} (h : W ≤ a) : dist W a = a - W := (dist_comm' W a).trans (dist_ge h)
theorem conv {W a b c : Nat} (h1 : a < b) (h2 : b < c) (e : dist W a = dist W c) : dist W b < dist W a := by
  rcases Nat.lt_or_ge a W with h | h
  · rw [dist_ge (Nat.le_of_lt h)] at e ⊢
    rcases Nat.lt_or_ge W c with q | q
    · rw [dist_le' (Nat.le_of_lt q)] at e
      rcases Nat.le_total b W with r | r
      · rw [dist_ge r]; exact Nat.sub_lt_sub_left h h1
      · rw [dist_le' r, e]; exact Nat.sub_lt_sub_right r h2
    · rw [dist_ge q] at e
      exact absurd e (Nat.ne_of_gt (Nat.sub_lt_sub_left h (Nat.lt_trans h1 h2)))
  · rw [dist_le' h, dist_le' (Nat.le_trans h (Nat.le_of_lt (Nat.lt_trans h1 h2)))] at e
    exact absurd e (Nat.ne_of_lt (Nat.sub_lt_sub_right h (Nat.lt_trans h1 h2)))
theorem even_gap {a b : Nat} (h : a < b) (p : a % 2 = 0) (q : b % 2 = 0) : a + 1 < b := by omega
/-- the error of a rounding -/
theorem right_err {r : UInt64} {neg : Bool} {W D k : Nat} (h : Right r neg W D) (hD : 0 < D) (hk : k ≤ 1900) (hW : W ≤ D * (2 ^ 53 * 2 ^ k)) :
    ∃ t, r = pack neg t ∧ t < infMag ∧ 2 * dist W (D * V t) ≤ D * 2 ^ k ∧ ∀ t', dist W (D * V t) ≤ dist W (D * V t') := by
  obtain ⟨t, ht, hle, hinf, hn⟩ := h
  have hlt : t < infMag := by
    rcases Nat.lt_or_ge t infMag with h | h
    · exact h
    · exfalso
      have h2 := hinf.mp (by omega)
      have h3 : 2 ^ 53 * 2 ^ k < (2 ^ 54 - 1) * 2 ^ 2045 := by
        rw [← Nat.pow_add]
        have : 2 ^ (53 + k) ≤ 2 ^ 1953 := Nat.pow_le_pow_right (by decide) (by omega)
        refine Nat.lt_of_le_of_lt this ?_
        decide +kernel
      have h4 : 2 * (2 ^ 53 * 2 ^ k) < (2 ^ 54 - 1) * 2 ^ 2045 := by
        rw [← Nat.pow_add]
        have : 2 ^ (53 + k) ≤ 2 ^ 1953 := Nat.pow_le_pow_right (by decide) (by omega)
        refine Nat.lt_of_le_of_lt (Nat.mul_le_mul_left 2 this) ?_
        decide +kernel
      have h5 := Nat.mul_lt_mul_of_pos_left h4 hD
      have h6 : D * (2 * (2 ^ 53 * 2 ^ k)) = 2 * (D * (2 ^ 53 * 2 ^ k)) := by ac_rfl
      omega
  refine ⟨t, ht, hlt, ?_, fun t' => (hn hlt t').1⟩
  have hK : 0 < 2 ^ k := Nat.two_pow_pos _
  have hDK : 0 < D * 2 ^ k := Nat.mul_pos hD hK
  -- the two neighbours
  have hj : W / (D * 2 ^ k) ≤ 2 ^ 53 := by
    rw [Nat.div_le_iff_le_mul_add_pred hDK]
    have : D * (2 ^ 53 * 2 ^ k) = D * 2 ^ k * 2 ^ 53 := by ac_rfl
    omega
  have hdm := Nat.div_add_mod W (D * 2 ^ k)
  have hml := Nat.mod_lt W hDK
  generalize hq : W / (D * 2 ^ k) = j at *
  generalize W % (D * 2 ^ k) = m at *
  obtain ⟨t1, e1⟩ := V_surj k j hj
  have n1 := (hn hlt t1).1
  have d1 : D * V t1 = D * 2 ^ k * j := by rw [e1]; ac_rfl
  rw [d1] at n1
  have x1 : dist W (D * 2 ^ k * j) = m := dist_l hdm
  rcases Nat.lt_or_ge j (2 ^ 53) with hlt2 | hge
  · obtain ⟨t2, e2⟩ := V_surj k (j + 1) (by omega)
    have n2 := (hn hlt t2).1
    have d2 : D * V t2 = D * 2 ^ k * j + D * 2 ^ k := by rw [e2, Nat.add_mul, Nat.mul_add]; congr 1 <;> first | ac_rfl | simp
    rw [d2] at n2
    rw [dist_r hdm hml] at n2
    rw [x1] at n1
    exact half n1 n2 hml
  · have : j = 2 ^ 53 := Nat.le_antisymm hj hge
    subst this
    have e3 : D * (2 ^ 53 * 2 ^ k) = D * 2 ^ k * 2 ^ 53 := by ac_rfl
    rw [x1] at n1
    exact half0 n1 hdm (e3 ▸ hW)

/-- only one float is right -/
theorem right_unique {r r' : UInt64} {neg : Bool} {W D W' D' : Nat} (h : Right r neg W D) (h' : Right r' neg W' D') (hD : 0 < D) (hD' : 0 < D') (he : W * D' = W' * D) : r = r' := by
  obtain ⟨t, ht, hle, hinf, hn⟩ := h
  obtain ⟨t', ht', hle', hinf', hn'⟩ := h'
  rw [ht, ht']
  congr 1
  have sc : ∀ v, D' * dist W (D * v) = D * dist W' (D' * v) := by
    intro v
    rw [← dist_mul, ← dist_mul, Nat.mul_comm D' W, he, Nat.mul_comm W' D]
    congr 1
    ac_rfl
  have hiff : t = infMag ↔ t' = infMag := by
    rw [hinf, hinf']
    generalize (2 ^ 54 - 1) * 2 ^ 2045 = c
    constructor
    · intro h
      have := Nat.mul_le_mul_left D' h
      have e1 : D' * (2 * W) = D * (2 * W') := by rw [Nat.mul_left_comm, Nat.mul_comm D' W, he, Nat.mul_left_comm D, Nat.mul_comm D W']
      rw [e1, Nat.mul_left_comm] at this
      exact Nat.le_of_mul_le_mul_left this hD
    · intro h
      have := Nat.mul_le_mul_left D h
      have e1 : D * (2 * W') = D' * (2 * W) := by rw [Nat.mul_left_comm D' , Nat.mul_comm D' W, he, Nat.mul_left_comm D, Nat.mul_comm D W']
      rw [e1, Nat.mul_left_comm] at this
      exact Nat.le_of_mul_le_mul_left this hD'
  by_cases hi : t = infMag
  · rw [hi, hiff.mp hi]
  · have hi' : ¬ t' = infMag := fun x => hi (hiff.mpr x)
    have n1 := hn (Nat.lt_of_le_of_ne hle hi)
    have n2 := hn' (Nat.lt_of_le_of_ne hle' hi')
    have q1 : dist W (D * V t) ≤ dist W (D * V t') := (n1 t').1
    have q2 : dist W (D * V t') ≤ dist W (D * V t) := by
      have := Nat.mul_le_mul_left D (n2 t).1
      rw [← sc, ← sc] at this
      exact Nat.le_of_mul_le_mul_left this hD'
    have qe : dist W (D * V t) = dist W (D * V t') := Nat.le_antisymm q1 q2
    have qe' : dist W' (D' * V t') = dist W' (D' * V t) := by
      refine Nat.eq_of_mul_eq_mul_left hD ?_
      rw [← sc, ← sc, qe]
    have key : ∀ a b, dist W (D * V a) = dist W (D * V b) → a + 1 < b → dist W (D * V (a + 1)) < dist W (D * V a) := fun a b e hb =>
      conv (Nat.mul_lt_mul_of_pos_left (V_succ a) hD) (Nat.mul_lt_mul_of_pos_left (V_lt hb) hD) e
    rcases Nat.lt_trichotomy t t' with hlt | heq | hgt
    · have p1 := (n1 t').2 (Nat.ne_of_gt (V_lt hlt)) qe
      have p2 := (n2 t).2 (Nat.ne_of_lt (V_lt hlt)) qe'
      exact absurd (n1 (t + 1)).1 (Nat.not_le_of_lt (key t t' qe (even_gap hlt p1 p2)))
    · exact heq
    · have p1 := (n1 t').2 (Nat.ne_of_lt (V_lt hgt)) qe
      have p2 := (n2 t).2 (Nat.ne_of_gt (V_lt hgt)) qe'
      exact absurd (qe ▸ (n1 (t' + 1)).1) (Nat.not_le_of_lt (key t' t qe.symm (even_gap hgt p2 p1)))

/-- a float that is finite -/
noncomputable def Fn (x : UInt64) : Prop := ∃ a m e, decode x = .fin a m e
theorem Fn.pack {neg : Bool} {t : Nat} (h : t < infMag) : Fn (pack neg t) := by
  obtain ⟨m, e, hd, _⟩ := decode_pack neg h
  exact ⟨_, _, _, hd⟩
/-- what is right of a small whole multiple is exact -/
theorem right_exact {r : UInt64} {neg : Bool} {j k : Nat} (hj : j ≤ 2 ^ 53) (hk : k ≤ 1900) (h : Right r neg (j * 2 ^ k) 1) : Fn r ∧ val r = sgn neg (j * 2 ^ k) := by
  obtain ⟨t, rfl, hlt, _, hn⟩ := right_err h (by decide) (k := k) hk (by have := Nat.mul_le_mul_right (2 ^ k) hj; omega)
  obtain ⟨t2, e2⟩ := V_surj k j hj
  refine ⟨.pack hlt, ?_⟩
  rw [val_pack _ hlt]
  congr 1
  have := hn t2
  rw [e2, Nat.one_mul, Nat.one_mul] at this
  unfold dist at this
  omega
end Mine
end partFl1

/- the part Fl2 -/
section
open PySem PySem.W PySem.Calls PyProof.Rows PySem.Spec
namespace Mine
theorem fresh_Fl2 (prog : Program) (w : World) (A : Around) (env : Env) (s : Shared) (Q : Flow → Shared → Prop) (E : Value → Shared → Prop) (h : Q .next s) :
    wpAny (model prog w) A (execs [] env) Q E s := by
  w_top off
  walk1
  exact h
end Mine
end
section partFl2
namespace Mine
local macro_rules | `(tactic| omega) => `(tactic| lia)
open PySem.Float64

theorem UN_ex : ∃ n : Nat, n = 2 ^ 1074 := ⟨_, rfl⟩
noncomputable def UN : Nat := Classical.choose UN_ex
theorem UN_eq : UN = 2 ^ 1074 := Classical.choose_spec UN_ex
theorem UN_pos : 0 < UN := by rw [UN_eq]; decide +kernel
theorem UU_ex : ∃ u : Rat, u = ((UN : Nat) : Rat) := ⟨_, rfl⟩
noncomputable def UU : Rat := Classical.choose UU_ex
theorem UU_UN : UU = ((UN : Nat) : Rat) := Classical.choose_spec UU_ex
theorem UU_pos : 0 < UU := by
  have := UN_pos
  rw [UU_UN]
  exact_mod_cast this
theorem UU_eq : UU = ((2 ^ 1074 : Nat) : Rat) := by rw [UU_UN, UN_eq]
/-- the real value of a finite float -/
noncomputable def rv (x : UInt64) : Rat := (val x : Rat) / UU
theorem rv_UU (x : UInt64) : rv x * UU = (val x : Rat) := by
  have := UU_pos
  unfold rv
  grind
/-- finite, and within e of y -/
noncomputable def Near (x : UInt64) (y e : Rat) : Prop := Fn x ∧ rv x - y ≤ e ∧ y - rv x ≤ e

theorem sgn_abs (neg : Bool) (a b : Nat) (D : Nat) : ((D : Int) * sgn neg a - sgn neg b).natAbs = dist b (D * a) := by
  unfold sgn dist
  cases neg <;> simp only [Bool.false_eq_true, if_false, if_true, Int.mul_neg] <;> rw [← Int.natCast_mul] <;> generalize D * a = z <;> omega

theorem fin1 {r y D U K B b : Rat} (hb : B = 18014398509481984 * b) (hp : 9007199254740992 * K = B * U) (c : 2 * (D * (r * U) - y * D * U) ≤ D * K) : (r - y) * (D * U) ≤ b * (D * U) := by
  have : K = 2 * (b * U) := by grind
  subst this
  grind
theorem fin2 {r y D U K B b : Rat} (hb : B = 18014398509481984 * b) (hp : 9007199254740992 * K = B * U) (c : -(D * K) ≤ 2 * (D * (r * U) - y * D * U)) : (y - r) * (D * U) ≤ b * (D * U) := by
  have : K = 2 * (b * U) := by grind
  subst this
  grind
theorem b_of (B : Rat) : B = 18014398509481984 * (B / 18014398509481984) := by grind
theorem rnd {r : UInt64} {neg : Bool} {W D : Nat} (j : Nat) (hj : j ≤ 800) (h : Right r neg W D) (hD : 0 < D) {y : Rat} (hy : y * (D : Rat) * UU = ((sgn neg W : Int) : Rat))
    (h1 : y ≤ ((2 ^ j : Nat) : Rat)) (h2 : -((2 ^ j : Nat) : Rat) ≤ y) : Near r y (((2 ^ j : Nat) : Rat) / 18014398509481984) := by
  have hU := UU_pos
  have hDr : (0 : Rat) < (D : Rat) := by exact_mod_cast hD
  have hB : (0 : Rat) < ((2 ^ j : Nat) : Rat) := by exact_mod_cast Nat.two_pow_pos j
  have hpow : 2 ^ 53 * 2 ^ (j + 1021) = 2 ^ j * UN := by
    rw [UN_eq, ← Nat.pow_add, ← Nat.pow_add, show 53 + (j + 1021) = j + 1074 by omega]
  have hDU : (0 : Rat) < (D : Rat) * UU := Rat.mul_pos hDr hU
  have a1 := Rat.mul_le_mul_of_nonneg_right h1 (Rat.le_of_lt hDU)
  have a2 := Rat.mul_le_mul_of_nonneg_right h2 (Rat.le_of_lt hDU)
  have hW : W ≤ D * (2 ^ 53 * 2 ^ (j + 1021)) := by
    rw [hpow]
    have q1 : ((sgn neg W : Int) : Rat) ≤ ((D * (2 ^ j * UN) : Nat) : Rat) := by
      rw [← hy]
      have : ((D * (2 ^ j * UN) : Nat) : Rat) = (D : Rat) * (((2 ^ j : Nat) : Rat) * UU) := by
        rw [Rat.natCast_mul, Rat.natCast_mul]
        rw [UU_UN]
      rw [this]
      grind
    have q2 : -((D * (2 ^ j * UN) : Nat) : Rat) ≤ ((sgn neg W : Int) : Rat) := by
      rw [← hy]
      have : ((D * (2 ^ j * UN) : Nat) : Rat) = (D : Rat) * (((2 ^ j : Nat) : Rat) * UU) := by
        rw [Rat.natCast_mul, Rat.natCast_mul]
        rw [UU_UN]
      rw [this]
      grind
    generalize D * (2 ^ j * UN) = z at *
    have q1' : sgn neg W ≤ (z : Int) := by exact_mod_cast q1
    have q2' : -(z : Int) ≤ sgn neg W := by
      have : ((-(z : Int) : Int) : Rat) ≤ ((sgn neg W : Int) : Rat) := by simpa [Rat.intCast_natCast] using q2
      exact_mod_cast this
    unfold sgn at q1' q2'
    cases neg <;> simp at q1' q2' <;> omega
  obtain ⟨t, rfl, hlt, hd, _⟩ := right_err h hD (k := j + 1021) (by omega) hW
  refine ⟨.pack hlt, ?_⟩
  have hv := val_pack neg hlt
  have hab := sgn_abs neg (V t) W D
  rw [← hv] at hab
  generalize pack neg t = r at *
  have hx := rv_UU r
  rw [← hab] at hd
  have b1 : 2 * ((D : Int) * val r - sgn neg W) ≤ ((D * 2 ^ (j + 1021) : Nat) : Int) := by omega
  have b2 : -((D * 2 ^ (j + 1021) : Nat) : Int) ≤ 2 * ((D : Int) * val r - sgn neg W) := by omega
  have c1 : 2 * ((D : Rat) * (val r : Rat) - ((sgn neg W : Int) : Rat)) ≤ (D : Rat) * ((2 ^ (j + 1021) : Nat) : Rat) := by
    have : ((2 * ((D : Int) * val r - sgn neg W) : Int) : Rat) ≤ (((D * 2 ^ (j + 1021) : Nat) : Int) : Rat) := by exact_mod_cast b1
    simpa [Rat.natCast_mul, Rat.intCast_natCast] using this
  have c2 : -((D : Rat) * ((2 ^ (j + 1021) : Nat) : Rat)) ≤ 2 * ((D : Rat) * (val r : Rat) - ((sgn neg W : Int) : Rat)) := by
    have : ((-((D * 2 ^ (j + 1021) : Nat) : Int) : Int) : Rat) ≤ ((2 * ((D : Int) * val r - sgn neg W) : Int) : Rat) := by exact_mod_cast b2
    simpa [Rat.natCast_mul, Rat.intCast_natCast] using this
  have hp : (9007199254740992 : Rat) * ((2 ^ (j + 1021) : Nat) : Rat) = ((2 ^ j : Nat) : Rat) * UU := by
    have : ((2 ^ 53 * 2 ^ (j + 1021) : Nat) : Rat) = ((2 ^ j * UN : Nat) : Rat) := by rw [hpow]
    rw [Rat.natCast_mul, Rat.natCast_mul] at this
    rw [UU_UN]
    exact this
  rw [← hx, ← hy] at c1 c2
  exact ⟨Rat.le_of_mul_le_mul_right (fin1 (b_of _) hp c1) hDU, Rat.le_of_mul_le_mul_right (fin2 (b_of _) hp c2) hDU⟩
end Mine
end partFl2

/- the part Fl3 -/
section
open PySem PySem.W PySem.Calls PyProof.Rows PySem.Spec
namespace Mine
theorem fresh_Fl3 (prog : Program) (w : World) (A : Around) (env : Env) (s : Shared) (Q : Flow → Shared → Prop) (E : Value → Shared → Prop) (h : Q .next s) :
    wpAny (model prog w) A (execs [] env) Q E s := by
  w_top off
  walk1
  exact h
end Mine
end
section partFl3
namespace Mine
open PySem.Float64

theorem natInt (n : Nat) : ((n : Int) : Rat) = (n : Rat) := Rat.intCast_natCast n
theorem sgn_of (z : Int) : sgn (decide (z < 0)) z.natAbs = z := by
  unfold sgn
  by_cases h : z < 0
  · rw [decide_eq_true h, if_pos rfl]; omega
  · rw [decide_eq_false h]; simp; omega
theorem zero_fn (b : Bool) : Fn (zero b) ∧ val (zero b) = 0 := by
  refine ⟨.pack (t := 0) (by decide +kernel), ?_⟩
  unfold zero
  rw [val_pack _ (by decide +kernel), V_zero]
  cases b <;> rfl
theorem rv_zero (b : Bool) : rv (zero b) = 0 := by
  have := UU_pos
  unfold rv
  rw [(zero_fn b).2]
  grind
theorem rv_eq_zero {x : UInt64} : rv x = 0 ↔ val x = 0 := by
  have h := rv_UU x
  have hU := UU_pos
  constructor
  · intro e
    rw [e, Rat.zero_mul] at h
    exact_mod_cast h.symm
  · intro e
    rw [e] at h
    have : rv x * UU = 0 := by rw [h]; rfl
    rcases Rat.mul_eq_zero.mp this with h | h
    · exact h
    · grind
theorem rv_add (x y : UInt64) : (rv x + rv y) * UU = ((val x + val y : Int) : Rat) := by
  have h1 := rv_UU x
  have h2 := rv_UU y
  rw [Rat.intCast_add, ← h1, ← h2]
  grind
theorem rv_sub (x y : UInt64) : (rv x - rv y) * UU = ((val x - val y : Int) : Rat) := by
  have h1 := rv_UU x
  have h2 := rv_UU y
  rw [Rat.intCast_sub, ← h1, ← h2]
  grind
theorem near_self {x : UInt64} {y e : Rat} (h : Fn x) (hy : rv x = y) (he : 0 ≤ e) : Near x y e := ⟨h, by grind, by grind⟩
theorem eps_pos (j : Nat) : (0 : Rat) ≤ ((2 ^ j : Nat) : Rat) / 18014398509481984 := by
  have hB : (0 : Rat) < ((2 ^ j : Nat) : Rat) := by exact_mod_cast Nat.two_pow_pos j
  generalize ((2 ^ j : Nat) : Rat) = B at *
  grind
theorem one_cast (y : Rat) : y * ((1 : Nat) : Rat) = y := by
  have : ((1 : Nat) : Rat) = 1 := rfl
  rw [this, Rat.mul_one]

theorem add_near (j : Nat) (hj : j ≤ 800) {x y : UInt64} (hx : Fn x) (hy : Fn y) (h1 : rv x + rv y ≤ ((2 ^ j : Nat) : Rat)) (h2 : -((2 ^ j : Nat) : Rat) ≤ rv x + rv y) :
    Near (add x y) (rv x + rv y) (((2 ^ j : Nat) : Rat) / 18014398509481984) := by
  obtain ⟨a, m, e, hx⟩ := hx
  obtain ⟨b, k, f, hy⟩ := hy
  have hr := add_right hx hy
  have hs := rv_add x y
  by_cases h0 : val x + val y = 0
  · rw [hr.1 h0]
    refine near_self (zero_fn _).1 ?_ (eps_pos j)
    rw [rv_zero]
    have hU := UU_pos
    rw [h0] at hs
    have : (rv x + rv y) * UU = 0 := hs
    rcases Rat.mul_eq_zero.mp this with h | h
    · exact h.symm
    · grind
  · refine rnd j hj (hr.2 h0) (by decide) ?_ h1 h2
    rw [sgn_of, one_cast, hs]
theorem sub_near (j : Nat) (hj : j ≤ 800) {x y : UInt64} (hx : Fn x) (hy : Fn y) (h1 : rv x - rv y ≤ ((2 ^ j : Nat) : Rat)) (h2 : -((2 ^ j : Nat) : Rat) ≤ rv x - rv y) :
    Near (sub x y) (rv x - rv y) (((2 ^ j : Nat) : Rat) / 18014398509481984) := by
  obtain ⟨a, m, e, hx⟩ := hx
  obtain ⟨b, k, f, hy⟩ := hy
  have hr := sub_right hx hy
  have hs := rv_sub x y
  by_cases h0 : val x - val y = 0
  · rw [hr.1 h0]
    refine near_self (zero_fn _).1 ?_ (eps_pos j)
    rw [rv_zero]
    have hU := UU_pos
    rw [h0] at hs
    have : (rv x - rv y) * UU = 0 := hs
    rcases Rat.mul_eq_zero.mp this with h | h
    · exact h.symm
    · grind
  · refine rnd j hj (hr.2 h0) (by decide) ?_ h1 h2
    rw [sgn_of, one_cast, hs]
theorem sub_self_zero {x : UInt64} (hx : Fn x) : Fn (sub x x) ∧ rv (sub x x) = 0 := by
  obtain ⟨a, m, e, hx⟩ := hx
  rw [(sub_right hx hx).1 (by omega)]
  exact ⟨(zero_fn _).1, rv_zero _⟩

theorem sgn_two (a b : Bool) (m n : Nat) : sgn (a != b) (m * n) = sgn a m * sgn b n := by
  unfold sgn
  cases a <;> cases b <;> simp [Int.neg_mul, Int.mul_neg]
theorem fn_sgn {x : UInt64} {a : Bool} {m : Nat} {e : Int} (h : decode x = .fin a m e) : val x = sgn a (val x).natAbs := by
  rw [val_natAbs h, val_eq h]

theorem mul_near (j : Nat) (hj : j ≤ 800) {x y : UInt64} (hx : Fn x) (hy : Fn y) (h1 : rv x * rv y ≤ ((2 ^ j : Nat) : Rat)) (h2 : -((2 ^ j : Nat) : Rat) ≤ rv x * rv y) :
    Near (mul x y) (rv x * rv y) (((2 ^ j : Nat) : Rat) / 18014398509481984) := by
  obtain ⟨a, m, e, hx⟩ := hx
  obtain ⟨b, k, f, hy⟩ := hy
  refine rnd j hj (mul_right hx hy) (Nat.two_pow_pos _) ?_ h1 h2
  rw [sgn_two, ← fn_sgn hx, ← fn_sgn hy, Rat.intCast_mul, ← rv_UU, ← rv_UU]
  have e0 : ((2 ^ 1074 : Nat) : Rat) = UU := UU_eq.symm
  rw [e0]
  grind
theorem div_near (j : Nat) (hj : j ≤ 800) {x y : UInt64} (hx : Fn x) (hy : Fn y) (h0 : rv y ≠ 0) (h1 : rv x / rv y ≤ ((2 ^ j : Nat) : Rat)) (h2 : -((2 ^ j : Nat) : Rat) ≤ rv x / rv y) :
    Near (div x y) (rv x / rv y) (((2 ^ j : Nat) : Rat) / 18014398509481984) := by
  obtain ⟨a, m, e, hx⟩ := hx
  obtain ⟨b, k, f, hy⟩ := hy
  have hv : val y ≠ 0 := fun h => h0 (rv_eq_zero.mpr h)
  have hk : k ≠ 0 := by
    rintro rfl
    apply hv
    rw [val_eq hy]
    simp [sgn]
  have hpos : 0 < (val y).natAbs := by omega
  refine rnd j hj (div_right hx hy hk) hpos ?_ h1 h2
  have e1 : sgn (a != b) ((val x).natAbs * 2 ^ 1074) * sgn b (val y).natAbs = val x * ((val y).natAbs : Int) * ((2 ^ 1074 : Nat) : Int) := by
    have hx' := fn_sgn hx
    generalize (val x).natAbs = p at *
    generalize (val y).natAbs = q at *
    rw [hx']
    generalize 2 ^ 1074 = U
    unfold sgn
    cases a <;> cases b <;> simp <;> grind
  rw [← fn_sgn hy] at e1
  have e2 : ((sgn (a != b) ((val x).natAbs * 2 ^ 1074) : Int) : Rat) * (val y : Rat) = (val x : Rat) * ((val y).natAbs : Rat) * UU := by
    rw [← Rat.intCast_mul, e1, Rat.intCast_mul, Rat.intCast_mul, natInt, natInt]
    rw [UU_eq]
  rw [← rv_UU, ← rv_UU] at e2
  generalize ((sgn (a != b) ((val x).natAbs * 2 ^ 1074) : Int) : Rat) = Z at *
  generalize ((val y).natAbs : Rat) = N at *
  have hU := UU_pos
  generalize rv x = X at *
  generalize rv y = Y at *
  have hYU : Y * UU ≠ 0 := by grind
  have : (Z - X / Y * N * UU) * (Y * UU) = 0 := by grind
  rcases Rat.mul_eq_zero.mp this with h | h
  · grind
  · exact absurd h hYU

/-- exactly z in steps of 2^k -/
noncomputable def Ex (x : UInt64) (z : Int) (k : Nat) : Prop := Fn x ∧ val x = z * ((2 ^ k : Nat) : Int)
theorem right_ex {r : UInt64} {z : Int} {k : Nat} (hz : z.natAbs ≤ 2 ^ 53) (hk : k ≤ 1900) (h : Right r (decide (z < 0)) (z.natAbs * 2 ^ k) 1) : Ex r z k := by
  obtain ⟨h1, h2⟩ := right_exact hz hk h
  refine ⟨h1, ?_⟩
  rw [h2, sgn_mul, sgn_of]
theorem scale_neg (z : Int) (k : Nat) : decide (z * ((2 ^ k : Nat) : Int) < 0) = decide (z < 0) := by
  have hp : (0 : Int) < ((2 ^ k : Nat) : Int) := Int.ofNat_lt.mpr (Nat.two_pow_pos k)
  generalize ((2 ^ k : Nat) : Int) = K at *
  apply decide_eq_decide.mpr
  constructor
  · intro h
    rcases Int.lt_or_le z 0 with h2 | h2
    · exact h2
    · have := Int.mul_nonneg h2 (Int.le_of_lt hp); omega
  · intro h
    exact Int.mul_neg_of_neg_of_pos h hp
theorem scale_zero {z : Int} {k : Nat} : z * ((2 ^ k : Nat) : Int) = 0 ↔ z = 0 := by
  have hp : (0 : Int) < ((2 ^ k : Nat) : Int) := Int.ofNat_lt.mpr (Nat.two_pow_pos k)
  generalize ((2 ^ k : Nat) : Int) = K at *
  rw [Int.mul_eq_zero]
  omega
theorem add_ex {x y : UInt64} {i j : Int} {k : Nat} (hx : Ex x i k) (hy : Ex y j k) (hz : (i + j).natAbs ≤ 2 ^ 53) (hk : k ≤ 1900) : Ex (add x y) (i + j) k := by
  obtain ⟨⟨a, m, e, hx⟩, vx⟩ := hx
  obtain ⟨⟨b, n, f, hy⟩, vy⟩ := hy
  have hr := add_right hx hy
  have hv : val x + val y = (i + j) * ((2 ^ k : Nat) : Int) := by rw [vx, vy, Int.add_mul]
  by_cases h0 : i + j = 0
  · rw [hr.1 (by rw [hv, h0, Int.zero_mul])]
    refine ⟨(zero_fn _).1, ?_⟩
    rw [(zero_fn _).2, h0, Int.zero_mul]
  · have := hr.2 (by rw [hv]; exact fun h => h0 (scale_zero.mp h))
    rw [hv, scale_neg, Int.natAbs_mul, Int.natAbs_natCast] at this
    exact right_ex hz hk this
theorem sub_ex {x y : UInt64} {i j : Int} {k : Nat} (hx : Ex x i k) (hy : Ex y j k) (hz : (i - j).natAbs ≤ 2 ^ 53) (hk : k ≤ 1900) : Ex (sub x y) (i - j) k := by
  obtain ⟨⟨a, m, e, hx⟩, vx⟩ := hx
  obtain ⟨⟨b, n, f, hy⟩, vy⟩ := hy
  have hr := sub_right hx hy
  have hv : val x - val y = (i - j) * ((2 ^ k : Nat) : Int) := by rw [vx, vy, Int.sub_mul]
  by_cases h0 : i - j = 0
  · rw [hr.1 (by rw [hv, h0, Int.zero_mul])]
    refine ⟨(zero_fn _).1, ?_⟩
    rw [(zero_fn _).2, h0, Int.zero_mul]
  · have := hr.2 (by rw [hv]; exact fun h => h0 (scale_zero.mp h))
    rw [hv, scale_neg, Int.natAbs_mul, Int.natAbs_natCast] at this
    exact right_ex hz hk this
/-- comparing two exact floats -/
theorem cmp_ex {x y : UInt64} {i j : Int} {k : Nat} (hx : Ex x i k) (hy : Ex y j k) : cmp x y = some (compare i j) := by
  obtain ⟨⟨a, m, e, hx⟩, vx⟩ := hx
  obtain ⟨⟨b, n, f, hy⟩, vy⟩ := hy
  rw [cmp_right hx hy, vx, vy]
  have hp : (0 : Int) < ((2 ^ k : Nat) : Int) := Int.ofNat_lt.mpr (Nat.two_pow_pos k)
  generalize ((2 ^ k : Nat) : Int) = K at *
  congr 1
  rcases Int.lt_trichotomy i j with h | h | h
  · rw [Int.compare_eq_lt.mpr h, Int.compare_eq_lt.mpr (Int.mul_lt_mul_of_pos_right h hp)]
  · subst h; simp
  · rw [Int.compare_eq_gt.mpr h, Int.compare_eq_gt.mpr (Int.mul_lt_mul_of_pos_right h hp)]
theorem isZero_fn {x : UInt64} (hx : Fn x) : isZero x = decide (val x = 0) := by
  obtain ⟨a, m, e, hx⟩ := hx
  rw [val_eq hx]
  unfold isZero
  rw [hx]
  have hp := Nat.two_pow_pos (e + 1074).toNat
  cases m with
  | zero => simp [sgn]
  | succ m =>
    have : (m + 1) * 2 ^ (e + 1074).toNat ≠ 0 := Nat.mul_ne_zero (by omega) (by omega)
    generalize (m + 1) * 2 ^ (e + 1074).toNat = z at *
    have h2 : sgn a z ≠ 0 := by unfold sgn; cases a <;> simp <;> omega
    rw [decide_eq_false h2]
    rfl
theorem isZero_ex {x : UInt64} {i : Int} {k : Nat} (hx : Ex x i k) : isZero x = decide (i = 0) := by
  rw [isZero_fn hx.1, hx.2]
  exact decide_eq_decide.mpr scale_zero
theorem cmp_rv {x y : UInt64} (hx : Fn x) (hy : Fn y) : (rv x < rv y → cmp x y = some .lt) ∧ (rv x = rv y → cmp x y = some .eq) ∧ (rv y < rv x → cmp x y = some .gt) := by
  obtain ⟨a, m, e, hx⟩ := hx
  obtain ⟨b, n, f, hy⟩ := hy
  rw [cmp_right hx hy]
  have h1 := rv_UU x
  have h2 := rv_UU y
  have hU := UU_pos
  refine ⟨fun h => ?_, fun h => ?_, fun h => ?_⟩
  · have : (val x : Rat) < (val y : Rat) := by
      rw [← h1, ← h2]
      exact Rat.mul_lt_mul_of_pos_right h hU
    rw [Int.compare_eq_lt.mpr (by exact_mod_cast this)]
  · have : (val x : Rat) = (val y : Rat) := by rw [← h1, ← h2, h]
    rw [Int.compare_eq_eq.mpr (by exact_mod_cast this)]
  · have : (val y : Rat) < (val x : Rat) := by
      rw [← h1, ← h2]
      exact Rat.mul_lt_mul_of_pos_right h hU
    rw [Int.compare_eq_gt.mpr (by exact_mod_cast this)]
/-- an exact float's value -/
theorem Ex.rv {x : UInt64} {i : Int} (h : Ex x i 1064) : rv x = (i : Rat) / 1024 := by
  have h1 := rv_UU x
  have hU := UU_pos
  rw [h.2, Rat.intCast_mul, natInt] at h1
  have h2 : UU = ((2 ^ 1064 : Nat) : Rat) * 1024 := by
    have : UN = 2 ^ 1064 * 1024 := by rw [UN_eq]; decide +kernel
    rw [UU_UN]
    rw [this, Rat.natCast_mul]
    rfl
  generalize ((2 ^ 1064 : Nat) : Rat) = K at *
  have : (Mine.rv x - (i : Rat) / 1024) * UU = 0 := by grind
  rcases Rat.mul_eq_zero.mp this with h | h <;> grind
theorem Ex.rv1 {x : UInt64} {i : Int} (h : Ex x i 1074) : Mine.rv x = (i : Rat) := by
  have h1 := rv_UU x
  have hU := UU_pos
  rw [h.2, Rat.intCast_mul, natInt] at h1
  have h2 : UU = ((2 ^ 1074 : Nat) : Rat) := UU_eq
  rw [← h2] at h1
  have : (Mine.rv x - (i : Rat)) * UU = 0 := by grind
  rcases Rat.mul_eq_zero.mp this with h | h <;> grind
theorem ofInt_ex (i : Int) (h : i.natAbs ≤ 2 ^ 53) : Ex (ofInt i) i 1074 := right_ex h (by decide) (ofInt_right i)
end Mine
end partFl3

/- the part Fl4 -/
section
open PySem PySem.W PySem.Calls PyProof.Rows PySem.Spec
namespace Mine
theorem fresh_Fl4 (prog : Program) (w : World) (A : Around) (env : Env) (s : Shared) (Q : Flow → Shared → Prop) (E : Value → Shared → Prop) (h : Q .next s) :
    wpAny (model prog w) A (execs [] env) Q E s := by
  w_top off
  walk1
  exact h
end Mine
end
section partFl4
namespace Mine
open PySem.Float64 PySem

theorem p7464 : (2 : Nat) ^ 1074 = 2 ^ 1064 * 1024 := by decide +kernel
theorem p6463 : (2 : Nat) ^ 1064 = 2 ^ 1063 * 2 := by decide +kernel
theorem lf_ex {i : Int} (h : 0 ≤ i ∧ i ≤ 1024) : Ex (lf i) i 1064 := by
  refine right_ex (by omega) (by decide) ?_
  have e : (decide (i < 0) != decide ((1024 : Int) < 0)) = decide (i < 0) := by
    rw [show decide ((1024 : Int) < 0) = false from rfl]; simp
  unfold lf
  rw [e]
  refine ofFrac_right (by decide) ?_ (by decide)
  rw [p7464]
  show i.natAbs * (2 ^ 1064 * 1024) * 1 = i.natAbs * 2 ^ 1064 * 1024
  rw [Nat.mul_one, Nat.mul_assoc]
theorem fltL_lf {i j : Int} (hi : 0 ≤ i ∧ i ≤ 1024) (hj : 0 ≤ j ∧ j ≤ 1024) : fltL (lf i) (lf j) = decide (i < j) := by
  unfold fltL
  rw [cmp_ex (lf_ex hi) (lf_ex hj)]
  rcases Int.lt_trichotomy i j with h | h | h
  · rw [Int.compare_eq_lt.mpr h, decide_eq_true h]; rfl
  · subst h; rw [decide_eq_false (by omega), Int.compare_eq_eq.mpr rfl]; rfl
  · rw [Int.compare_eq_gt.mpr h, decide_eq_false (by omega)]; rfl
theorem feq_lf {i j : Int} (hi : 0 ≤ i ∧ i ≤ 1024) (hj : 0 ≤ j ∧ j ≤ 1024) : feq (lf i) (lf j) = decide (i = j) := by
  unfold feq
  rw [cmp_ex (lf_ex hi) (lf_ex hj)]
  rcases Int.lt_trichotomy i j with h | h | h
  · rw [Int.compare_eq_lt.mpr h, decide_eq_false (by omega)]; rfl
  · subst h; rw [decide_eq_true rfl, Int.compare_eq_eq.mpr rfl]; rfl
  · rw [Int.compare_eq_gt.mpr h, decide_eq_false (by omega)]; rfl
theorem cmp_self {x : UInt64} (h : Fn x) : (cmp x x == some .eq) = true := by rw [(cmp_rv h h).2.1 rfl]; rfl
section
variable {i0 i1 i2 lo hi : Int} (b0 : 0 ≤ i0 ∧ i0 ≤ 1024) (b1 : 0 ≤ i1 ∧ i1 ≤ 1024) (b2 : 0 ≤ i2 ∧ i2 ≤ 1024)
  (al : lo = i0 ∨ lo = i1 ∨ lo = i2) (bl : lo ≤ i0 ∧ lo ≤ i1 ∧ lo ≤ i2) (ah : hi = i0 ∨ hi = i1 ∨ hi = i2) (bh : i0 ≤ hi ∧ i1 ≤ hi ∧ i2 ≤ hi)
include b0 b1 b2 ah bh in
theorem max3_lf : max3 (lf i0) (lf i1) (lf i2) = lf hi := by
  unfold max3
  rw [fltL_lf b0 b1, fltL_lf b1 b2, fltL_lf b0 b2]
  by_cases h1 : i0 < i1 <;> by_cases h2 : i1 < i2 <;> by_cases h3 : i0 < i2 <;> simp only [h1, h2, h3, decide_true, decide_false, if_true, if_false, Bool.false_eq_true] <;> congr 1 <;> omega
include b0 b1 b2 al bl in
theorem min3_lf : min3 (lf i0) (lf i1) (lf i2) = lf lo := by
  unfold min3
  rw [fltL_lf b1 b0, fltL_lf b2 b1, fltL_lf b2 b0]
  by_cases h1 : i1 < i0 <;> by_cases h2 : i2 < i1 <;> by_cases h3 : i2 < i0 <;> simp only [h1, h2, h3, decide_true, decide_false, if_true, if_false, Bool.false_eq_true] <;> congr 1 <;> omega
end
theorem Fn.of {x : UInt64} (h : isFinite x = true) : Fn x := by
  unfold isFinite at h
  cases e : decode x with
  | nan => rw [e] at h; cases h
  | inf s => rw [e] at h; cases h
  | fin a m k => exact ⟨a, m, k, e⟩
theorem c1 : Ex 4607182418800017408 1 1074 := ⟨Fn.of (by decide +kernel), by decide +kernel⟩
theorem c2 : Ex 4611686018427387904 2 1074 := ⟨Fn.of (by decide +kernel), by decide +kernel⟩
theorem c4 : Ex 4616189618054758400 4 1074 := ⟨Fn.of (by decide +kernel), by decide +kernel⟩
theorem c6 : Ex 4618441417868443648 6 1074 := ⟨Fn.of (by decide +kernel), by decide +kernel⟩
theorem ch : Ex 4602678819172646912 512 1064 := ⟨Fn.of (by decide +kernel), by decide +kernel⟩
theorem c2' : Ex 4611686018427387904 2048 1064 := ⟨c2.1, by decide +kernel⟩

theorem Ex.sign {x : UInt64} {i : Int} {k : Nat} (h : Ex x i k) (hi : 0 < i) : ∃ m e, decode x = .fin false m e ∧ m ≠ 0 := by
  obtain ⟨⟨a, m, e, hx⟩, vx⟩ := h
  have hp : (0 : Int) < ((2 ^ k : Nat) : Int) := Int.ofNat_lt.mpr (Nat.two_pow_pos k)
  have hv := Int.mul_pos hi hp
  rw [← vx, val_eq hx] at hv
  have h0 : m = 0 → m * 2 ^ (e + 1074).toNat = 0 := fun h => by rw [h, Nat.zero_mul]
  generalize m * 2 ^ (e + 1074).toNat = M at *
  unfold sgn at hv
  cases a
  · refine ⟨m, e, hx, fun h => ?_⟩
    rw [h0 h] at hv
    simp at hv
  · simp at hv
    omega
/-- the quotient of two exact floats is that of the whole numbers -/
theorem div_ex {x y : UInt64} {i j : Int} {k : Nat} (hx : Ex x i k) (hy : Ex y j k) (hi : 0 < i) (hj : 0 < j) : Right (div x y) false (i.natAbs * 2 ^ 1074) j.natAbs := by
  obtain ⟨m, e, dx, hm⟩ := hx.sign hi
  obtain ⟨n, f, dy, hn⟩ := hy.sign hj
  obtain ⟨t, h1, h2, h3, h4⟩ := div_right dx dy hn
  have ex : (val x).natAbs = i.natAbs * 2 ^ k := by rw [hx.2, Int.natAbs_mul, Int.natAbs_natCast]
  have ey : (val y).natAbs = j.natAbs * 2 ^ k := by rw [hy.2, Int.natAbs_mul, Int.natAbs_natCast]
  rw [ex, ey] at h3 h4
  have hK := Nat.two_pow_pos k
  generalize 2 ^ k = K at *
  generalize 2 ^ 1074 = U at *
  unfold Right
  generalize (2 ^ 54 - 1) * 2 ^ 2045 = c at *
  refine ⟨t, h1, h2, h3.trans ?_, fun q t' => ?_⟩
  · rw [show j.natAbs * K * c = K * (j.natAbs * c) by ac_rfl, show 2 * (i.natAbs * K * U) = K * (2 * (i.natAbs * U)) by ac_rfl]
    exact ⟨fun h => Nat.le_of_mul_le_mul_left h hK, fun h => Nat.mul_le_mul_left K h⟩
  · have e : ∀ v, dist (i.natAbs * K * U) (j.natAbs * K * v) = K * dist (i.natAbs * U) (j.natAbs * v) := by
      intro v
      rw [← dist_mul]
      congr 1 <;> ac_rfl
    have := h4 q t'
    rw [e, e] at this
    exact ⟨Nat.le_of_mul_le_mul_left this.1 hK, fun hne he => this.2 hne (by rw [he])⟩
theorem qf_right {a b : Int} (ha : 0 ≤ a) (hb : 0 < b) : Right (qf a b) false (a.natAbs * 2 ^ 1074) b.natAbs := by
  have e : (decide (a < 0) != decide (b < 0)) = false := by
    rw [decide_eq_false (by omega), decide_eq_false (by omega)]; rfl
  unfold qf
  rw [e]
  exact ofFrac_right (by omega) rfl (by omega)
theorem div_qf {x y : UInt64} {i j : Int} {k : Nat} (hx : Ex x i k) (hy : Ex y j k) (hi : 0 < i) (hj : 0 < j) : qf i j = div x y :=
  right_unique (qf_right (by omega) hj) (div_ex hx hy hi hj) (by omega) (by omega) rfl
theorem qf_ex {s : Int} (hs : 0 ≤ s) (h : s ≤ 4096) : Ex (qf s 2048) s 1063 := by
  refine right_ex (by omega) (by decide) ?_
  have e : (decide (s < 0) != decide ((2048 : Int) < 0)) = decide (s < 0) := by
    rw [show decide ((2048 : Int) < 0) = false from rfl]; simp
  unfold qf
  rw [e]
  refine ofFrac_right (by decide) ?_ (by decide)
  rw [p7464, p6463]
  show s.natAbs * (2 ^ 1063 * 2 * 1024) * 1 = s.natAbs * 2 ^ 1063 * 2048
  generalize 2 ^ 1063 = z
  rw [Nat.mul_one, Nat.mul_assoc z, Nat.mul_assoc]
section
variable {i0 i1 i2 lo hi : Int} (b0 : 0 ≤ i0 ∧ i0 ≤ 1024) (b1 : 0 ≤ i1 ∧ i1 ≤ 1024) (b2 : 0 ≤ i2 ∧ i2 ≤ 1024)
  (al : lo = i0 ∨ lo = i1 ∨ lo = i2) (bl : lo ≤ i0 ∧ lo ≤ i1 ∧ lo ≤ i2) (ah : hi = i0 ∨ hi = i1 ∨ hi = i2) (bh : i0 ≤ hi ∧ i1 ≤ hi ∧ i2 ≤ hi)
include b0 b1 b2 al bl ah bh
theorem rgbL_lf (hlt : lo < hi) : qf (lo + hi) 2048 = rgbL (lf i0) (lf i1) (lf i2) := by
  unfold rgbL
  rw [max3_lf b0 b1 b2 ah bh, min3_lf b0 b1 b2 al bl, Int.add_comm]
  exact div_qf (add_ex (lf_ex (by omega)) (lf_ex (by omega)) (by omega) (by decide)) c2' (by omega) (by omega)
theorem fle_lf (hlt : lo < hi) : fle (rgbL (lf i0) (lf i1) (lf i2)) 4602678819172646912 = decide (lo + hi ≤ 1024) := by
  rw [← rgbL_lf b0 b1 b2 al bl ah bh hlt]
  have h : Ex 4602678819172646912 1024 1063 := ⟨ch.1, by decide +kernel⟩
  unfold fle
  rw [cmp_ex (qf_ex (s := lo + hi) (by omega) (by omega)) h]
  rcases Int.lt_trichotomy (lo + hi) 1024 with h | h | h
  · rw [Int.compare_eq_lt.mpr h, decide_eq_true (by omega)]; rfl
  · rw [h, decide_eq_true (by omega), Int.compare_eq_eq.mpr rfl]; rfl
  · rw [Int.compare_eq_gt.mpr h, decide_eq_false (by omega)]; rfl
theorem rng_ex : Ex (sub (max3 (lf i0) (lf i1) (lf i2)) (min3 (lf i0) (lf i1) (lf i2))) (hi - lo) 1064 := by
  rw [max3_lf b0 b1 b2 ah bh, min3_lf b0 b1 b2 al bl]
  exact sub_ex (lf_ex (by omega)) (lf_ex (by omega)) (by omega) (by decide)
theorem sum_ex : Ex (add (max3 (lf i0) (lf i1) (lf i2)) (min3 (lf i0) (lf i1) (lf i2))) (hi + lo) 1064 := by
  rw [max3_lf b0 b1 b2 ah bh, min3_lf b0 b1 b2 al bl]
  exact add_ex (lf_ex (by omega)) (lf_ex (by omega)) (by omega) (by decide)
theorem two_ex : Ex (sub (sub 4611686018427387904 (max3 (lf i0) (lf i1) (lf i2))) (min3 (lf i0) (lf i1) (lf i2))) (2048 - hi - lo) 1064 := by
  rw [max3_lf b0 b1 b2 ah bh, min3_lf b0 b1 b2 al bl]
  exact sub_ex (sub_ex c2' (lf_ex (by omega)) (by omega) (by decide)) (lf_ex (by omega)) (by omega) (by decide)
theorem rgbS_lf (hlt : lo < hi) : qf (hi - lo) (if 2048 - lo - hi < lo + hi then 2048 - lo - hi else lo + hi) = rgbS (lf i0) (lf i1) (lf i2) := by
  unfold rgbS
  rw [fle_lf b0 b1 b2 al bl ah bh hlt]
  by_cases h : lo + hi ≤ 1024
  · rw [decide_eq_true h, if_pos rfl, if_neg (show ¬ (2048 - lo - hi < lo + hi) by omega), Int.add_comm lo hi]
    exact div_qf (rng_ex b0 b1 b2 al bl ah bh) (sum_ex b0 b1 b2 al bl ah bh) (by omega) (by omega)
  · rw [decide_eq_false h, if_neg (show ¬ (false = true) by decide), if_pos (show 2048 - lo - hi < lo + hi by omega), show 2048 - lo - hi = 2048 - hi - lo by omega]
    exact div_qf (rng_ex b0 b1 b2 al bl ah bh) (two_ex b0 b1 b2 al bl ah bh) (by omega) (by omega)
theorem z1_lf (hlt : lo < hi) : isZero (sub (max3 (lf i0) (lf i1) (lf i2)) (min3 (lf i0) (lf i1) (lf i2))) = false := by
  rw [isZero_ex (rng_ex b0 b1 b2 al bl ah bh), decide_eq_false (by omega)]
theorem z2_lf (hlt : lo < hi) : isZero (add (max3 (lf i0) (lf i1) (lf i2)) (min3 (lf i0) (lf i1) (lf i2))) = false := by
  rw [isZero_ex (sum_ex b0 b1 b2 al bl ah bh), decide_eq_false (by omega)]
theorem z3_lf (hlt : lo < hi) : isZero (sub (sub 4611686018427387904 (max3 (lf i0) (lf i1) (lf i2))) (min3 (lf i0) (lf i1) (lf i2))) = false := by
  rw [isZero_ex (two_ex b0 b1 b2 al bl ah bh), decide_eq_false (by omega)]
theorem hG_lf (hlt : lo < hi) : feq (min3 (lf i0) (lf i1) (lf i2)) (max3 (lf i0) (lf i1) (lf i2)) = false := by
  rw [max3_lf b0 b1 b2 ah bh, min3_lf b0 b1 b2 al bl, feq_lf (by omega) (by omega), decide_eq_false (by omega)]
theorem rgbL_fn (hlt : lo < hi) : Fn (rgbL (lf i0) (lf i1) (lf i2)) := by
  rw [← rgbL_lf b0 b1 b2 al bl ah bh hlt]
  exact (qf_ex (by omega) (by omega)).1
theorem rgbS_fn (hlt : lo < hi) : Fn (rgbS (lf i0) (lf i1) (lf i2)) := by
  rw [← rgbS_lf b0 b1 b2 al bl ah bh hlt]
  have hb : 0 < (if 2048 - lo - hi < lo + hi then 2048 - lo - hi else lo + hi) := by split <;> omega
  have hle : hi - lo ≤ 1024 := by omega
  have h0 : 0 ≤ hi - lo := by omega
  generalize (if 2048 - lo - hi < lo + hi then 2048 - lo - hi else lo + hi) = d at *
  generalize hi - lo = s at *
  obtain ⟨t, e, hlt, _⟩ := right_err (qf_right h0 hb) (by omega) (k := 1081) (by omega) (by
    have e1 : (2 : Nat) ^ 53 * 2 ^ 1081 = 2 ^ 1074 * 2 ^ 60 := by decide +kernel
    rw [e1]
    have h1 : s.natAbs ≤ 1024 := by omega
    have h2 : 1 ≤ d.natAbs := by omega
    calc s.natAbs * 2 ^ 1074 ≤ 2 ^ 60 * 2 ^ 1074 := Nat.mul_le_mul_right _ (by omega)
      _ = 1 * (2 ^ 1074 * 2 ^ 60) := by rw [Nat.one_mul, Nat.mul_comm]
      _ ≤ _ := Nat.mul_le_mul_right _ h2)
  rw [e]
  exact .pack hlt
end
/-- of a grey -/
theorem gray_lf {i : Int} (b : 0 ≤ i ∧ i ≤ 1024) : feq (min3 (lf i) (lf i) (lf i)) (max3 (lf i) (lf i) (lf i)) = true ∧ rgbL (lf i) (lf i) (lf i) = lf i ∧ (cmp (lf i) (lf i) == some .eq) = true := by
  have e1 := max3_lf (hi := i) b b b (.inl rfl) (by omega)
  have e2 := min3_lf (lo := i) b b b (.inl rfl) (by omega)
  refine ⟨?_, ?_, cmp_self (lf_ex b).1⟩
  · rw [e1, e2, feq_lf b b, decide_eq_true rfl]
  · unfold rgbL
    rw [e1, e2]
    by_cases h : i = 0
    · subst h; decide +kernel
    · rw [← div_qf (add_ex (lf_ex b) (lf_ex b) (by omega) (by decide)) c2' (by omega) (by omega)]
      refine right_unique (qf_right (by omega) (by omega)) (qf_right (a := i) (b := 1024) (by omega) (by omega)) (by omega) (by omega) ?_
      have : (i + i).natAbs = i.natAbs * 2 := by omega
      rw [this]
      show i.natAbs * 2 * 2 ^ 1074 * 1024 = i.natAbs * 2 ^ 1074 * 2048
      generalize 2 ^ 1074 = z
      rw [Nat.mul_assoc, Nat.mul_assoc, Nat.mul_assoc]
      congr 1
      omega
end Mine
end partFl4

/- the part Fl5 -/
section
open PySem PySem.W PySem.Calls PyProof.Rows PySem.Spec
namespace Mine
theorem fresh_Fl5 (prog : Program) (w : World) (A : Around) (env : Env) (s : Shared) (Q : Flow → Shared → Prop) (E : Value → Shared → Prop) (h : Q .next s) :
    wpAny (model prog w) A (execs [] env) Q E s := by
  w_top off
  walk1
  exact h
end Mine
end
section partFl5
namespace Mine
open PySem.Float64 PySem

/-- the errors of a rounding below 8 and below 8192 -/
noncomputable def eps : Rat := ((2 ^ 3 : Nat) : Rat) / 18014398509481984
noncomputable def eta : Rat := ((2 ^ 13 : Nat) : Rat) / 18014398509481984
theorem eps_eq : eps = 1 / 2251799813685248 := by decide +kernel
theorem eta_eq : eta = 1 / 2199023255552 := by decide +kernel
theorem two3 : ((2 ^ 3 : Nat) : Rat) = 8 := rfl
theorem two13 : ((2 ^ 13 : Nat) : Rat) = 8192 := rfl
theorem add8 {x y : UInt64} (hx : Fn x) (hy : Fn y) (h1 : rv x + rv y ≤ 8) (h2 : -8 ≤ rv x + rv y) : Near (add x y) (rv x + rv y) eps := add_near 3 (by decide) hx hy (by rw [two3]; exact h1) (by rw [two3]; exact h2)
theorem sub8 {x y : UInt64} (hx : Fn x) (hy : Fn y) (h1 : rv x - rv y ≤ 8) (h2 : -8 ≤ rv x - rv y) : Near (sub x y) (rv x - rv y) eps := sub_near 3 (by decide) hx hy (by rw [two3]; exact h1) (by rw [two3]; exact h2)
theorem mul8 {x y : UInt64} (hx : Fn x) (hy : Fn y) (h1 : rv x * rv y ≤ 8) (h2 : -8 ≤ rv x * rv y) : Near (mul x y) (rv x * rv y) eps := mul_near 3 (by decide) hx hy (by rw [two3]; exact h1) (by rw [two3]; exact h2)
theorem div8 {x y : UInt64} (hx : Fn x) (hy : Fn y) (h0 : rv y ≠ 0) (h1 : rv x / rv y ≤ 8) (h2 : -8 ≤ rv x / rv y) : Near (div x y) (rv x / rv y) eps := div_near 3 (by decide) hx hy h0 (by rw [two3]; exact h1) (by rw [two3]; exact h2)
theorem add13 {x y : UInt64} (hx : Fn x) (hy : Fn y) (h1 : rv x + rv y ≤ 8192) (h2 : -8192 ≤ rv x + rv y) : Near (add x y) (rv x + rv y) eta := add_near 13 (by decide) hx hy (by rw [two13]; exact h1) (by rw [two13]; exact h2)
theorem mul13 {x y : UInt64} (hx : Fn x) (hy : Fn y) (h1 : rv x * rv y ≤ 8192) (h2 : -8192 ≤ rv x * rv y) : Near (mul x y) (rv x * rv y) eta := mul_near 13 (by decide) hx hy (by rw [two13]; exact h1) (by rw [two13]; exact h2)

theorem decode_m {x : UInt64} {a : Bool} {m : Nat} {e : Int} (h : decode x = .fin a m e) : m ≤ 2 ^ 53 := by
  unfold decode at h
  simp only at h
  split at h
  · split at h <;> cases h
  · split at h
    · cases h; lia
    · cases h; lia
theorem one_fn : decode one = .fin false (2 ^ 52) (-52) := by
  obtain ⟨m, e, h, hv⟩ := decode_pack false (t := 1023 * 2 ^ 52) (by decide +kernel)
  have h1 : (pack false (1023 * 2 ^ 52)).toNat = 1023 * 2 ^ 52 := pack_toNat false (by decide)
  unfold one
  unfold decode
  rw [h1]
  rfl
theorem one_eq : one = 4607182418800017408 := by decide +kernel

/-- the remainder by one of a float of the open interval -/
theorem fmod_one {x : UInt64} (hx : Fn x) (h1 : rv x < 1) (h2 : -1 < rv x) : Fn (fmod x one) ∧ val (fmod x one) = val x := by
  obtain ⟨a, m, e, hx⟩ := hx
  have hU := UU_pos
  have hv := rv_UU x
  have hlt : (val x).natAbs < 2 ^ 1074 := by
    have q1 : (val x : Rat) < UU := by rw [← hv]; have := Rat.mul_lt_mul_of_pos_right h1 hU; grind
    have q2 : -UU < (val x : Rat) := by rw [← hv]; have := Rat.mul_lt_mul_of_pos_right h2 hU; grind
    have e : UU = (((2 ^ 1074 : Nat) : Int) : Rat) := by rw [natInt]; exact UU_eq
    rw [e] at q1 q2
    rw [← Rat.intCast_neg] at q2
    have q1' : val x < ((2 ^ 1074 : Nat) : Int) := by exact_mod_cast q1
    have q2' : -((2 ^ 1074 : Nat) : Int) < val x := by exact_mod_cast q2
    generalize 2 ^ 1074 = z at *
    lia
  have hva := val_natAbs hx
  have he := decode_ge hx
  have hm := decode_m hx
  have hf : fmod x one = ofBin a ((sgn false (m * 2 ^ (e - min e (-52)).toNat)).toNat % (sgn false (2 ^ 52 * 2 ^ (-52 - min e (-52)).toNat)).toNat) (min e (-52)) := by
    unfold fmod
    rw [hx, one_fn]
    simp only
    rw [if_neg (by decide)]
    rfl
  have t1 : (sgn false (m * 2 ^ (e - min e (-52)).toNat)).toNat = m * 2 ^ (e - min e (-52)).toNat := by unfold sgn; simp only [Bool.false_eq_true, if_false]; exact Int.toNat_natCast _
  have t2 : (sgn false (2 ^ 52 * 2 ^ (-52 - min e (-52)).toNat)).toNat = 2 ^ 52 * 2 ^ (-52 - min e (-52)).toNat := by unfold sgn; simp only [Bool.false_eq_true, if_false]; exact Int.toNat_natCast _
  rw [t1, t2] at hf
  have e1 : m * 2 ^ (e - min e (-52)).toNat * 2 ^ (min e (-52) + 1074).toNat = m * 2 ^ (e + 1074).toNat := by
    have q : (e - min e (-52)).toNat + (min e (-52) + 1074).toNat = (e + 1074).toNat := by lia
    rw [Nat.mul_assoc, ← Nat.pow_add, q]
  have e2 : 2 ^ 52 * 2 ^ (-52 - min e (-52)).toNat * 2 ^ (min e (-52) + 1074).toNat = 2 ^ 1074 := by
    have q : 52 + ((-52 - min e (-52)).toNat + (min e (-52) + 1074).toNat) = 1074 := by lia
    rw [Nat.mul_assoc, ← Nat.pow_add, ← Nat.pow_add, q]
  have hsm : m * 2 ^ (e - min e (-52)).toNat < 2 ^ 52 * 2 ^ (-52 - min e (-52)).toNat := by
    refine Nat.lt_of_mul_lt_mul_right (a := 2 ^ (min e (-52) + 1074).toNat) ?_
    rw [e1, e2, ← hva]
    exact hlt
  rw [Nat.mod_eq_of_lt hsm] at hf
  rw [hf]
  have hR : Right (ofBin a (m * 2 ^ (e - min e (-52)).toNat) (min e (-52))) a (m * 2 ^ (e + 1074).toNat) 1 := by
    show Right (ofFrac a (shift (m * 2 ^ (e - min e (-52)).toNat) 1 (min e (-52))).1 (shift (m * 2 ^ (e - min e (-52)).toNat) 1 (min e (-52))).2) _ _ _
    refine ofFrac_right (shift_pos _ _ _ (by decide)) ?_ (by decide)
    have := shift_one (m * 2 ^ (e - min e (-52)).toNat) (min e (-52)) 1074 (by lia)
    rw [Nat.mul_one, this]
    have e3 : (min e (-52) + ((1074 : Nat) : Int)).toNat = (min e (-52) + 1074).toNat := by lia
    rw [e3, e1]
  by_cases hm0 : m = 0
  · subst hm0
    simp only [Nat.zero_mul] at hR ⊢
    obtain ⟨f1, f2⟩ := right_exact (j := 0) (k := 0) (by decide) (by decide) (by rw [Nat.zero_mul]; exact hR)
    refine ⟨f1, ?_⟩
    rw [f2, val_eq hx, Nat.zero_mul, Nat.zero_mul]
  · have hk : (e + 1074).toNat ≤ 1900 := by
      rcases Nat.lt_or_ge 1900 (e + 1074).toNat with h | h
      · exfalso
        have a1 : 2 ^ 1074 ≤ 2 ^ (e + 1074).toNat := Nat.pow_le_pow_right (by decide) (by lia)
        have a2 : 1 * 2 ^ (e + 1074).toNat ≤ m * 2 ^ (e + 1074).toNat := Nat.mul_le_mul_right _ (by lia)
        rw [hva] at hlt
        lia
      · exact h
    obtain ⟨f1, f2⟩ := right_exact hm hk hR
    exact ⟨f1, by rw [f2, val_eq hx]⟩
theorem rv_of_val {x y : UInt64} (h : val x = val y) : rv x = rv y := by unfold rv; rw [h]
theorem cs_zero : copysign (zero false) one = 0 := by decide +kernel
theorem lt_one_zero : lt one (zero false) = false := by decide +kernel
theorem zero_zero : zero false = 0 := by decide +kernel
theorem fn0 : Fn 0 ∧ rv 0 = 0 := by rw [← zero_zero]; exact ⟨(zero_fn _).1, rv_zero _⟩

/-- what is left by one -/
theorem dm_one {x : UInt64} (hx : Fn x) (h1 : rv x < 1) (h2 : -1 < rv x) :
    Fn (divmod x one).snd ∧ (rv x = 0 → rv (divmod x one).snd = 0) ∧ (0 < rv x → rv (divmod x one).snd = rv x) ∧ (rv x < 0 → Near (divmod x one).snd (rv x + 1) eps) := by
  obtain ⟨f1, f2⟩ := fmod_one hx h1 h2
  have f3 := rv_of_val f2
  have hd : (divmod x one).snd = if isZero (fmod x one) then copysign (zero false) one else if lt one (zero false) != lt (fmod x one) (zero false) then add (fmod x one) one else fmod x one := by
    unfold divmod
    simp only
    split
    · rfl
    · split <;> rfl
  rw [hd, isZero_fn f1, f2, cs_zero, lt_one_zero]
  by_cases h0 : rv x = 0
  · have := rv_eq_zero.mp h0
    rw [decide_eq_true this, if_pos rfl]
    exact ⟨fn0.1, fun _ => fn0.2, fun h => by grind, fun h => by grind⟩
  · have : ¬ val x = 0 := fun h => h0 (rv_eq_zero.mpr h)
    rw [decide_eq_false this, if_neg (by decide)]
    have hc := cmp_rv f1 (zero_fn false).1
    rw [rv_zero, f3] at hc
    by_cases hp : 0 < rv x
    · have e : lt (fmod x one) (zero false) = false := by unfold lt; rw [hc.2.2 hp]; rfl
      rw [e, if_neg (by decide)]
      exact ⟨f1, fun h => absurd h h0, fun _ => f3, fun h => by grind⟩
    · have hn : rv x < 0 := by grind
      have e : lt (fmod x one) (zero false) = true := by unfold lt; rw [hc.1 hn]; rfl
      rw [e, if_pos (by decide)]
      have ho : Fn one ∧ rv one = 1 := by rw [one_eq]; exact ⟨c1.1, by rw [c1.rv1]; rfl⟩
      have := add8 f1 ho.1 (by rw [f3, ho.2]; grind) (by rw [f3, ho.2]; grind)
      rw [f3, ho.2] at this
      exact ⟨this.1, fun h => absurd h h0, fun h => absurd h hp, fun _ => this⟩

theorem right_zero {r : UInt64} {neg : Bool} {D : Nat} (h : Right r neg 0 D) (hD : 0 < D) : Fn r ∧ val r = 0 := by
  obtain ⟨t, rfl, hlt, _, hn⟩ := right_err h hD (k := 0) (by decide) (Nat.zero_le _)
  refine ⟨.pack hlt, ?_⟩
  rw [val_pack _ hlt]
  have := hn 0
  rw [V_zero, Nat.mul_zero] at this
  have h0 : D * V t = 0 := by unfold dist at this; lia
  rcases Nat.mul_eq_zero.mp h0 with h | h
  · lia
  · rw [h]; unfold sgn; cases neg <;> rfl
theorem div_zero {x y : UInt64} (hx : Fn x) (hy : Fn y) (h : rv x = 0) (h0 : rv y ≠ 0) : Fn (div x y) ∧ rv (div x y) = 0 := by
  obtain ⟨a, m, e, hx⟩ := hx
  obtain ⟨b, k, f, hy⟩ := hy
  have hv : val y ≠ 0 := fun h => h0 (rv_eq_zero.mpr h)
  have hk : k ≠ 0 := by
    rintro rfl
    apply hv
    rw [val_eq hy]
    simp [sgn]
  have := div_right hx hy hk
  rw [rv_eq_zero.mp h] at this
  have e : (0 : Int).natAbs * 2 ^ 1074 = 0 := by rw [Int.natAbs_zero, Nat.zero_mul]
  rw [e] at this
  obtain ⟨q1, q2⟩ := right_zero this (by lia)
  exact ⟨q1, rv_eq_zero.mpr q2⟩

theorem abs_fn {x : UInt64} (hx : Fn x) : Fn (abs x) ∧ (rv (abs x) = rv x ∨ rv (abs x) = - rv x) := by
  obtain ⟨a, m, e, hx⟩ := hx
  have hn : isNaN x = false := by unfold isNaN; rw [hx]
  have hl := x.toNat_lt
  have hp : (abs x).toNat = x.toNat % 2 ^ 63 := by
    unfold abs
    rw [if_neg (by simp [hn]), pack_toNat false (Nat.mod_lt _ (by decide))]
    simp
  have hd : decode (abs x) = .fin false m e := by
    have h2 : (abs x).toNat / 2 ^ 52 % 2048 = x.toNat / 2 ^ 52 % 2048 := by
      rw [hp, show (2 : Nat) ^ 63 = 2 ^ 52 * 2048 from rfl, Nat.mod_mul_right_div_self]; exact Nat.mod_mod _ _
    have h3 : (abs x).toNat % 2 ^ 52 = x.toNat % 2 ^ 52 := by
      rw [hp]; exact Nat.mod_mod_of_dvd _ (Nat.pow_dvd_pow 2 (by decide))
    have h4 : ((abs x).toNat / 2 ^ 63 == 1) = false := by
      have : (abs x).toNat / 2 ^ 63 = 0 := by rw [hp]; exact Nat.div_eq_of_lt (Nat.mod_lt _ (by decide))
      rw [this]; rfl
    unfold decode at hx ⊢
    simp only [h2, h3, h4] at hx ⊢
    split at hx
    · split at hx <;> cases hx
    · rename_i h1
      rw [if_neg h1]
      split at hx
      · rename_i h5
        rw [if_pos h5]
        cases hx
        rfl
      · rename_i h5
        rw [if_neg h5]
        cases hx
        rfl
  refine ⟨⟨_, _, _, hd⟩, ?_⟩
  unfold rv
  rw [val_eq hd, val_eq hx]
  unfold sgn
  cases a
  · left; rfl
  · right
    simp only [Bool.false_eq_true, if_false, if_true]
    rw [Rat.intCast_neg]
    have := UU_pos
    grind

theorem trunc_of {z : UInt64} {P : Int} (hz : Fn z) (hP : 0 ≤ P) (h0 : 0 < rv z) (h1 : (P : Rat) ≤ rv z) (h2 : rv z < ((P + 1 : Int) : Rat)) :
    isNaN z = false ∧ isInf z = false ∧ Flt.toInt truncOf z = P := by
  obtain ⟨a, m, e, hz⟩ := hz
  refine ⟨by unfold isNaN; rw [hz], by unfold isInf; rw [hz], ?_⟩
  rw [Flt.toInt_fin hz]
  have hU := UU_pos
  have hv := rv_UU z
  have he := decode_ge hz
  have eU : UU = (((2 ^ 1074 : Nat) : Int) : Rat) := by rw [natInt]; exact UU_eq
  have q0 : 0 < val z := by
    have : (0 : Rat) < (val z : Rat) := by rw [← hv]; exact Rat.mul_pos h0 hU
    exact_mod_cast this
  have q1 : P * ((2 ^ 1074 : Nat) : Int) ≤ val z := by
    have : ((P * ((2 ^ 1074 : Nat) : Int) : Int) : Rat) ≤ (val z : Rat) := by
      rw [← hv, Rat.intCast_mul, ← eU]; exact Rat.mul_le_mul_of_nonneg_right h1 (Rat.le_of_lt hU)
    exact_mod_cast this
  have q2 : val z < (P + 1) * ((2 ^ 1074 : Nat) : Int) := by
    have : (val z : Rat) < (((P + 1) * ((2 ^ 1074 : Nat) : Int) : Int) : Rat) := by
      rw [← hv, Rat.intCast_mul, ← eU]; exact Rat.mul_lt_mul_of_pos_right h2 hU
    exact_mod_cast this
  rw [val_eq hz] at q0 q1 q2
  have ha : a = false := by
    cases a
    · rfl
    · exfalso
      unfold sgn at q0
      simp only [if_true] at q0
      generalize m * 2 ^ (e + 1074).toNat = M at *
      lia
  subst ha
  have hs : ∀ M, sgn false M = (M : Int) := fun M => rfl
  rw [hs] at q1 q2
  unfold truncOf
  rw [if_neg (by decide)]
  unfold floorOf
  rw [hs]
  obtain ⟨p, rfl⟩ := Int.eq_ofNat_of_zero_le hP
  have q1' : p * 2 ^ 1074 ≤ m * 2 ^ (e + 1074).toNat := by
    rw [← Int.natCast_mul] at q1
    exact Int.ofNat_le.mp q1
  have q2' : m * 2 ^ (e + 1074).toNat < (p + 1) * 2 ^ 1074 := by
    rw [show (p : Int) + 1 = ((p + 1 : Nat) : Int) from rfl, ← Int.natCast_mul] at q2
    exact Int.ofNat_lt.mp q2
  split
  · rename_i h
    have e1 : (e + 1074).toNat = e.toNat + 1074 := by lia
    rw [e1, Nat.pow_add, ← Nat.mul_assoc] at q1' q2'
    have hp := Nat.two_pow_pos 1074
    have r1 := Nat.le_of_mul_le_mul_right q1' hp
    have r2 := Nat.lt_of_mul_lt_mul_right q2'
    have : p = m * 2 ^ e.toNat := by lia
    rw [this]
    push_cast
    rfl
  · rename_i h
    have e1 : 1074 = (e + 1074).toNat + (-e).toNat := by lia
    have e2 : (2 : Nat) ^ 1074 = 2 ^ (-e).toNat * 2 ^ (e + 1074).toNat := by rw [← Nat.pow_add, Nat.add_comm, ← e1]
    rw [e2, ← Nat.mul_assoc] at q1' q2'
    have hp := Nat.two_pow_pos (e + 1074).toNat
    have r1 := Nat.le_of_mul_le_mul_right q1' hp
    have r2 := Nat.lt_of_mul_lt_mul_right q2'
    have e3 : (2 : Int) ^ (-e).toNat = ((2 ^ (-e).toNat : Nat) : Int) := by push_cast; rfl
    rw [e3]
    have : (m : Int).fdiv ((2 ^ (-e).toNat : Nat) : Int) = ((m / 2 ^ (-e).toNat : Nat) : Int) := by
      rw [Int.fdiv_eq_ediv_of_nonneg _ (Int.natCast_nonneg _)]
      rfl
    rw [this, Nat.div_eq_of_lt_le r1 r2]
end Mine
end partFl5

section rulesB
local macro_rules | `(tactic| omega) => `(tactic| lia)

/- the part R8 -/
section
open PySem PySem.W PySem.Calls PyProof.Rows PySem.Spec
namespace Mine
theorem fresh_R8 (prog : Program) (w : World) (A : Around) (env : Env) (s : Shared) (Q : Flow → Shared → Prop) (E : Value → Shared → Prop) (h : Q .next s) :
    wpAny (model prog w) A (execs [] env) Q E s := by
  w_top off
  walk1
  exact h
end Mine
end
section partR8
open PySem PySem.W PySem.Calls PyProof.Rows PySem.Spec
set_option maxHeartbeats 1600000
namespace Mine
/-- a while loop whose turn's end the walk does not open -/
theorem whileLoopS {prog : Program} {w : World} {A : Around} {s : Shared} {E : Value → Shared → Prop} {Q : Flow → Shared → Prop} {test body env pos} (I : Nat → Shared → Prop)
    (turn : ∀ n s, I n s → wpAny (model prog w) A (isTrue test env (eval test env)) (fun b s₂ =>
        if b = true then wpAny (model prog w) A (execs body env) (fun f s₃ => match f with
            | .next | .cont => Step I n s₃
            | .brk => Q .next s₃
            | .ret v => Q (.ret v) s₃) E s₂
        else Q .next s₂) E s)
    (n : Nat) (h : I n s) (hE : PassesOwn (model prog w) A env E := by passes_own) : wpAny (model prog w) A (exec (.While test body [] pos) env) Q E s := by
  refine wpAny_While (codeAny_whileLoop I ?_ n h)
  intro n s' hI
  refine wpAny_mono (turn n s' hI) (fun b s₂ h₂ => ?_) hE
  cases b with
  | false =>
    simp only [Bool.false_eq_true, if_false] at h₂ ⊢
    exact wpAny_execs_nil h₂
  | true =>
    simp only [if_true] at h₂ ⊢
    refine wpAny_mono h₂ (fun f s₃ h₃ => ?_) hE
    cases f with
    | next => exact h₃
    | cont => exact h₃
    | brk => exact h₃
    | ret v => exact h₃
theorem ints_kf0 : ∀ {vs : List Value} {ns : List Int}, IntsAre vs ns → kf_ints vs = true
  | _, _, .nil => rfl
  | _, _, .cons (vs := vs) n t h => (ints_kf0 h : kf_ints vs = true)
theorem ints_kf {vs : List Value} {ns : List Int} (h : IntsAre vs ns) (k : Int) : vs.any (isInt k) = decide (k ∈ ns) := by
  rw [any_isInt k h]
  by_cases hk : k ∈ ns
  · rw [decide_eq_true hk, List.any_eq_true]; exact ⟨k, hk, by simp⟩
  · rw [decide_eq_false hk, List.any_eq_false]
    intro x hx
    simp only [beq_iff_eq]
    rintro rfl
    exact hk hx
theorem isInt_int (k n : Int) (t : Tok) : isInt k (.int n t) = (n == k) := rfl
theorem ints_del : ∀ {vs : List Value} {ns : List Int} {k : Int}, IntsAre vs ns → k ∈ ns → ∃ j q, kf_at k vs = some j ∧ ki_delL vs j = some q ∧ IntsAre q (ns.erase k)
  | _, _, _, .nil, h => by cases h
  | _, _, k, .cons (vs := vs) (ns := ns) n t h, hk => by
    by_cases e : n = k
    · subst e
      refine ⟨0, vs, ?_, rfl, ?_⟩
      · unfold kf_at
        rw [isInt_int, beq_self_eq_true]; rfl
      · rw [List.erase_cons_head]; exact h
    · have hk' : k ∈ ns := by
        rcases List.mem_cons.mp hk with h | h
        · exact absurd h.symm e
        · exact h
      obtain ⟨j, q, h1, h2, h3⟩ := ints_del h hk'
      refine ⟨j + 1, .int n t :: q, ?_, ?_, ?_⟩
      · unfold kf_at
        rw [isInt_int, show (n == k) = false by simpa using e, h1]; rfl
      · unfold ki_delL
        rw [h2]
      · rw [List.erase_cons_tail (by simpa using e)]
        exact .cons n t h3
theorem kl_last_snoc : ∀ (p : List Value) (y : Value), kl_last (p ++ [y]) = some (p, y)
  | [], y => rfl
  | x :: p, y => by
    show (match kl_last (p ++ [y]) with | some (p, y) => some (x :: p, y) | none => some ([], x)) = _
    rw [kl_last_snoc p y]
/-- the last of a list of numbers -/
theorem ints_last : ∀ {vs : List Value} {ns : List Int}, IntsAre vs ns → ns ≠ [] → ∃ p k t q, kl_last vs = some (p, .int k t) ∧ ns = q ++ [k] ∧ IntsAre p q
  | _, _, .nil, h => absurd rfl h
  | _, _, .cons (vs := vs) (ns := ns) n t h, _ => by
    by_cases e : ns = []
    · subst e
      cases h
      exact ⟨[], n, t, [], rfl, rfl, .nil⟩
    · obtain ⟨p, k, u, q, h1, h2, h3⟩ := ints_last h e
      refine ⟨.int n t :: p, k, u, n :: q, ?_, by rw [h2]; rfl, .cons n t h3⟩
      unfold kl_last
      rw [h1]
theorem ints_get {vs : List Value} {ns : List Int} (h : IntsAre vs ns) {i : Nat} {x : Int} (hx : ns[i]? = some x) : ∃ t, vs[i]? = some (.int x t) := by
  induction h generalizing i with
  | nil => cases hx
  | cons n t h ih =>
    cases i with
    | zero => cases hx; exact ⟨t, rfl⟩
    | succ i => exact ih hx
theorem ints_snoc {vs : List Value} {ns : List Int} (h : IntsAre vs ns) (k : Int) (t : Tok) : IntsAre (vs ++ [.int k t]) (ns ++ [k]) := h.append (.cons k t .nil)
/-- the six neighbours -/
noncomputable def steps : List Int := [1, 8, 9, -1, -8, -9]
/-- the search has asked the first a of ps; what is left is ss -/
structure Bfs (C : List Int) (M : Nat) (ps ss : List Int) (a : Nat) : Prop where
  nodup : ss.Nodup
  all : ∀ c ∈ C, c ∈ ps ∨ c ∈ ss
  done : ∀ j x, j < a → ps[j]? = some x → ∀ d ∈ steps, x + d ∉ ss
  size : ps.length + ss.length = M
/-- a set of spots that hangs together and touches all three sides -/
structure Spans (C : List Int) : Prop where
  left : ∃ x ∈ C, x % 8 = 0
  right : ∃ x ∈ C, x % 9 = 0
  low : ∃ x ∈ C, 31 < x
  conn : ∀ S : Int → Prop, (∃ x ∈ C, S x) → (∀ x ∈ C, ∀ y ∈ C, S x → (∃ d ∈ steps, y = x + d) → S y) → ∀ x ∈ C, S x
/-- when all of ps have been asked, the set lies in it or in what is left -/
theorem Bfs.over {C : List Int} {M : Nat} {ps ss : List Int} (hC : Spans C) (h : Bfs C M ps ss ps.length) : (∀ c ∈ C, c ∈ ps) ∨ (∀ c ∈ C, c ∈ ss) := by
  by_cases hx : ∃ x ∈ C, x ∈ ps
  · left
    refine hC.conn (fun c => c ∈ ps) hx fun x hx y hy hxp ⟨d, hd, e⟩ => ?_
    rcases h.all y hy with h1 | h1
    · exact h1
    · exfalso
      obtain ⟨j, hj, e2⟩ := List.getElem_of_mem hxp
      refine h.done j x hj (by rw [List.getElem?_eq_getElem hj, e2]) d hd ?_
      rw [← e]
      exact h1
  · right
    intro c hc
    rcases h.all c hc with h1 | h1
    · exact absurd ⟨c, hc, h1⟩ hx
    · exact h1
theorem Bfs.step {C : List Int} {M : Nat} {ps ss : List Int} {a i : Nat} {x d : Int} (h : Bfs C M ps ss a) (hx : ps[a]? = some x) (hd : steps[i]? = some d) (hi : ∀ j e, j < i → steps[j]? = some e → x + e ∉ ss) (hin : x + d ∈ ss) :
    Bfs C M (ps ++ [x + d]) (ss.erase (x + d)) a ∧ (ps ++ [x + d])[a]? = some x ∧ (∀ j e, j < i + 1 → steps[j]? = some e → x + e ∉ ss.erase (x + d)) := by
  have hlt : a < ps.length := by
    rcases Nat.lt_or_ge a ps.length with h | h
    · exact h
    · rw [List.getElem?_eq_none h] at hx; cases hx
  have hne : x + d ∉ ss.erase (x + d) := fun hm => by
    have := (h.nodup.mem_erase_iff).mp hm
    exact this.1 rfl
  refine ⟨⟨h.nodup.erase _, ?_, ?_, ?_⟩, ?_, ?_⟩
  · intro c hc
    by_cases e : c = x + d
    · left; rw [e]; simp
    · rcases h.all c hc with h1 | h1
      · left; simp [h1]
      · right; exact (List.mem_erase_of_ne e).mpr h1
  · intro j y hj hy d' hd' hm
    rw [List.getElem?_append_left (by omega)] at hy
    exact h.done j y hj hy d' hd' (List.mem_of_mem_erase hm)
  · rw [List.length_append, List.length_erase_of_mem hin]
    have := h.size
    have : 0 < ss.length := List.length_pos_of_mem hin
    simp only [List.length_cons, List.length_nil]
    omega
  · rw [List.getElem?_append_left hlt]; exact hx
  · intro j e hj he hm
    by_cases e2 : j = i
    · subst e2
      rw [hd] at he
      cases he
      exact hne hm
    · exact hi j e (by omega) he (List.mem_of_mem_erase hm)
theorem Bfs.next {C : List Int} {M : Nat} {ps ss : List Int} {a : Nat} {x : Int} (h : Bfs C M ps ss a) (hx : ps[a]? = some x) (hi : ∀ j e, j < 6 → steps[j]? = some e → x + e ∉ ss) : Bfs C M ps ss (a + 1) := by
  refine ⟨h.nodup, h.all, ?_, h.size⟩
  intro j y hj hy d hd
  by_cases e : j = a
  · subst e
    rw [hx] at hy
    cases hy
    obtain ⟨i, hi', e2⟩ := List.getElem_of_mem hd
    refine hi i d hi' ?_
    rw [List.getElem?_eq_getElem hi', e2]
  · exact h.done j y (by omega) hy d hd
theorem ints_at {vs : List Value} {ns : List Int} (h : IntsAre vs ns) : ∀ {i : Nat} {v : Value}, vs[i]? = some v → ∃ x t, v = .int x t ∧ ns[i]? = some x := by
  induction h with
  | nil => intro i v hv; cases hv
  | cons n t h ih =>
    intro i v hv
    cases i with
    | zero => cases hv; exact ⟨n, t, rfl, rfl⟩
    | succ i => exact ih hv
theorem take_snoc {α : Type} {l : List α} {i : Nat} {x : α} (h : l[i]? = some x) : l.take (i + 1) = l.take i ++ [x] := by rw [List.take_add_one, h]; rfl
theorem off1_mem {D : Addr} : ∀ {l : List (Addr × Obj)}, LCg.Off1 D l → ∀ q ∈ l, q.1 ≠ D
  | [], _, _, h => nomatch h
  | _ :: _, h, q, hq => by
    rcases List.mem_cons.mp hq with rfl | hq
    · exact h.1
    · exact off1_mem h.2 q hq
theorem mm_as {mm : Str → Option Value} {x : Str} {v : Value} (h : mm x = some v) : (fun y => if y = x then some v else mm y) = mm := by
  funext y
  split
  · rename_i q; rw [q]; exact h.symm
  · rfl
theorem news_isl {h₀ h : Heap} {L D : Addr} {news : List (Addr × Obj)} {its : Array Value} {n : Nat} (N : News h₀ L h news) (hm : (D, W.listOf its n) ∈ news) : h.IsList D its := ⟨_, (N _ hm).1, rfl, _, rfl⟩
theorem strs_get {vs : List Value} {ns : List Str} (h : StrsAre vs ns) {i : Nat} {x : Str} (hx : ns[i]? = some x) : ∃ t, vs[i]? = some (.str x t) := by
  induction h generalizing i with
  | nil => cases hx
  | cons n t h ih =>
    cases i with
    | zero => cases hx; exact ⟨t, rfl⟩
    | succ i => exact ih hx
theorem getD_some {α : Type} {l : List α} {i : Nat} (h : i < l.length) (d : α) : l[i]? = some (l.getD i d) := by
  rw [List.getD_eq_getElem?_getD, List.getElem?_eq_getElem h]; rfl

end Mine
end partR8

/- the part R9 -/
section
open PySem PySem.W PySem.Calls PyProof.Rows PySem.Spec
namespace Mine
theorem fresh_R9 (prog : Program) (w : World) (A : Around) (env : Env) (s : Shared) (Q : Flow → Shared → Prop) (E : Value → Shared → Prop) (h : Q .next s) :
    wpAny (model prog w) A (execs [] env) Q E s := by
  w_top off
  walk1
  exact h
end Mine
end
section partR9
open PySem PySem.W PySem.Calls PyProof.Rows PySem.Spec
set_option maxHeartbeats 1600000
namespace Mine
section strlists
open PySem.Spec PyProof.V
theorem ks_canLayAll0 : ∀ ns : List Str, (∀ x ∈ ns, PyData.strOk x = true) → PyData.canLayAll0 (ns.map PyData.str) = true
  | [], _ => rfl
  | x :: r, h => by simp [PyData.canLayAll0, PyData.canLay0, ks_canLayAll0 r (fun y hy => h y (List.mem_cons_of_mem _ hy)), h x (List.mem_cons_self ..)]
theorem ks_depthAll : ∀ ns : List Str, PyData.depthAll (ns.map PyData.str) = 0
  | [] => rfl
  | _ :: r => by simp [PyData.depthAll, PyData.depth, ks_depthAll r]
theorem ks_shaped (ns : List Str) (h : ∀ x ∈ ns, PyData.strOk x = true) : SeqAt.shaped (.list (ns.map PyData.str)) = true := by
  simp [SeqAt.shaped, PyData.canLay0, PyData.depth, ks_canLayAll0 ns h, ks_depthAll]
theorem ks_sameAll : ∀ ns ms : List Str, PySem.Spec.sameAll (ns.map PyData.str) (ms.map PyData.str) = decide (ns = ms)
  | [], [] => by simp [PySem.Spec.sameAll]
  | [], _ :: _ => by simp [PySem.Spec.sameAll]
  | _ :: _, [] => by simp [PySem.Spec.sameAll]
  | a :: r, b :: t => by
    simp only [List.map_cons, PySem.Spec.sameAll, PySem.Spec.same, ks_sameAll r t]
    by_cases h : a = b <;> by_cases h' : r = t <;> simp [h, h']
theorem ks_same (ns ms : List Str) : PySem.Spec.same (.list (ns.map PyData.str)) (.list (ms.map PyData.str)) = decide (ns = ms) := by
  simp only [PySem.Spec.same]; exact ks_sameAll ns ms
theorem ks_carried : ∀ {vs : List Value} {ns : List Str}, StrsAre vs ns → CarriedAll vs (ns.map PyData.str)
  | _, _, .nil => .nil
  | _, _, .cons _ t r => .cons (.str _ t) (ks_carried r)
variable {prog : Program} {w : World} {A : Around} {E : Value → Shared → Prop} {s : Shared} {a b : Addr} {xs ys : List Value} {ns ms : List Str} {Q : Value → Shared → Prop}
theorem ks_ne (ha : s.heap.IsList a xs.toArray) (hb : s.heap.IsList b ys.toArray) (hi : StrsAre xs ns) (hj : StrsAre ys ms) (ho : ∀ x ∈ ns, PyData.strOk x = true) (ho2 : ∀ x ∈ ms, PyData.strOk x = true) (hu : A.units + 64 < cLine) (h : Q (.bool (!decide (ns = ms))) s) :
    wpAny (model prog w) A (compareOp .NotEq (.ref a) (.ref b)) Q E s :=
  ne_dataH_same (reads_newData ha (ks_carried hi)) (reads_newData hb (ks_carried hj)) (ks_shaped _ ho) (ks_shaped _ ho2) hu (SeqAt.noMix_of_shape (.list .str) rfl _ _ (list_map_has fun _ => rfl) (list_map_has fun _ => rfl)) (by rw [ks_same]; exact h)
end strlists
section dicts
theorem valueAt_stored {kvs : List (Str × Value)} {k k' : Str} {v : Value} : valueAt (stored kvs k v) k' = if k' = k then some v else valueAt kvs k' := by
  unfold stored
  by_cases hany : (kvs.any fun kv => decide (kv.1 = k)) = true
  · rw [if_pos hany]
    unfold valueAt
    by_cases e : k' = k
    · subst e
      rw [if_pos rfl]
      induction kvs with
      | nil => simp at hany
      | cons a r ih =>
        by_cases ha : a.1 = k'
        · simp [ha]
        · have : (r.any fun kv => decide (kv.1 = k')) = true := by simpa [ha] using hany
          have ih := ih this
          simp only [List.map_cons, ha, if_false, List.find?_cons, decide_false]
          exact ih
    · rw [if_neg e]
      induction kvs with
      | nil => simp at hany
      | cons a r ih =>
        by_cases hk : a.1 = k
        · have hk' : ¬ a.1 = k' := fun h => e (h ▸ hk)
          have hk2 : ¬ k = k' := fun h => e h.symm
          simp only [List.map_cons, hk, if_true, List.find?_cons]
          by_cases hr : (r.any fun kv => decide (kv.1 = k)) = true
          · simp only [decide_eq_false hk2]
            exact ih hr
          · simp only [decide_eq_false hk2]
            have : r.map (fun kv => if kv.1 = k then (kv.1, v) else kv) = r := by
              have hne : ∀ x ∈ r, ¬ x.1 = k := fun x hx hk => hr (List.any_eq_true.mpr ⟨x, hx, decide_eq_true hk⟩)
              conv => rhs; rw [← List.map_id r]
              exact List.map_congr_left fun x hx => by simp [hne x hx]
            rw [this]
        · have : (r.any fun kv => decide (kv.1 = k)) = true := by simpa [hk] using hany
          have ih := ih this
          simp only [List.map_cons, hk, if_false, List.find?_cons]
          by_cases hk' : a.1 = k'
          · simp [hk']
          · simp only [decide_eq_false hk']
            exact ih
  · rw [if_neg hany]
    have hne : ∀ x ∈ kvs, ¬ x.1 = k := fun x hx hk => hany (List.any_eq_true.mpr ⟨x, hx, decide_eq_true hk⟩)
    unfold valueAt
    rw [List.find?_append]
    by_cases e : k' = k
    · subst e
      rw [if_pos rfl]
      have : kvs.find? (fun kv => decide (kv.1 = k')) = none := List.find?_eq_none.mpr fun x hx => by simp [hne x hx]
      rw [this]
      simp
    · rw [if_neg e]
      have : ([(k, v)] : List (Str × Value)).find? (fun kv => decide (kv.1 = k')) = none := by simp [Ne.symm e]
      rw [this]
      simp
theorem henc_str : ∀ a b : Str, PySem.Spec.same (PyData.str a) (PyData.str b) = decide (a = b) := fun a b => by
  simp only [PySem.Spec.same]
  by_cases h : a = b
  · subst h; simp
  · rw [decide_eq_false h]; simpa using h
end dicts

end Mine
end partR9

/- the part R10 -/
section
open PySem PySem.W PySem.Calls PyProof.Rows PySem.Spec
namespace Mine
theorem fresh_R10 (prog : Program) (w : World) (A : Around) (env : Env) (s : Shared) (Q : Flow → Shared → Prop) (E : Value → Shared → Prop) (h : Q .next s) :
    wpAny (model prog w) A (execs [] env) Q E s := by
  w_top off
  walk1
  exact h
end Mine
end
section partR10
open PySem PySem.W PySem.Calls PyProof.Rows PySem.Spec
set_option maxHeartbeats 1600000
namespace Mine
section comp2
open LCg
variable {prog : Program} {w : World} {A : Around} {R : Result → Shared → Prop} {s : Shared}
theorem comp2_t0 (elt t0 i0 t1 i1 : Expr) (scope : Scope) (pos : Pos) (it acc : Value) (env : Env) :
    compTurn (.ListComp elt [⟨t0, i0, [], 0⟩, ⟨t1, i1, [], 0⟩] scope pos) 0 it acc env = (standAt i0.pos >>= fun _ => pyNext it >>= fun r => match r with
      | none => pure (.done .next)
      | some v => letOwnedTupleGo t0 it v >>= fun _ => assign t0 env v >>= fun _ => eval i1 env >>= fun x => standAt i1.pos >>= fun _ => foldedSetIterable i1 env x >>= fun x =>
          holding [x] (pyIter x) >>= fun i => runOwn (.compStart (.ListComp elt [⟨t0, i0, [], 0⟩, ⟨t1, i1, [], 0⟩] scope pos) 1 i acc env) env >>= fun _ =>
          again (.compLoop (.ListComp elt [⟨t0, i0, [], 0⟩, ⟨t1, i1, [], 0⟩] scope pos) 0 it acc env)) := by rfl
theorem comp2_t1 (elt t0 i0 t1 i1 : Expr) (scope : Scope) (pos : Pos) (it acc : Value) (env : Env) :
    compTurn (.ListComp elt [⟨t0, i0, [], 0⟩, ⟨t1, i1, [], 0⟩] scope pos) 1 it acc env = (standAt i1.pos >>= fun _ => pyNext it >>= fun r => match r with
      | none => pure (.done .next)
      | some v => letOwnedTupleGo t1 it v >>= fun _ => assign t1 env v >>= fun _ =>
        (eval elt env >>= fun x => call (.builtin "list.append") [acc, x] >>= fun _ => pure ()) >>= fun _ =>
          again (.compLoop (.ListComp elt [⟨t0, i0, [], 0⟩, ⟨t1, i1, [], 0⟩] scope pos) 1 it acc env)) := by rfl
theorem comp2_loop1 {elt t0 i0 t1 i1 : Expr} {scope : Scope} {pos : Pos} {it acc : Value} {env : Env} (I : Nat → Shared → Prop)
    (turn : ∀ n s, I n s → wpAny (model prog w) A (pyNext it) (fun r s₁ => match r with
      | none => R (.ok .next) s₁
      | some v => wpAny (model prog w) A (assign t1 env v) (fun _ s₂ => wpAny (model prog w) A (eval elt env) (fun x s₄ =>
              wpAny (model prog w) A (call (.builtin "list.append") [acc, x]) (fun _ s₅ => Step I n s₅) (fun _ _ => False) s₄) (fun _ _ => False) s₂) (fun _ _ => False) s₁) (fun _ _ => False) s)
    (n : Nat) (h : I n s) (ht : ∀ v, letOwnedTupleGo t1 it v = pure () := by intro _; rfl) :
    codeAny (model prog w) A (.compLoop (.ListComp elt [⟨t0, i0, [], 0⟩, ⟨t1, i1, [], 0⟩] scope pos) 1 it acc env) R s := by
  refine codeAny_loop rfl I (fun n s hI => ?_) n h
  show wpAny _ A ((compTurn (.ListComp elt [⟨t0, i0, [], 0⟩, ⟨t1, i1, [], 0⟩] scope pos) 1 it acc env).onRaise (fun x => do noteFrame x env; theTreesLotGoes x)) _ _ s
  refine wpAny_noted ?_
  rw [comp2_t1]
  refine wpAny_bind (wpAny_standAt (wpAny_bind (wpAny_mono (turn n s hI) (fun r s₁ h₁ => ?_) fun _ _ h' => h'.elim)))
  cases r with
  | none => exact wpAny_pure h₁
  | some v =>
    refine wpAny_bind (wpAny_of_eq (ht v) ?_)
    refine wpAny_bind (wpAny_mono h₁ (fun _ s₂ h₂ => ?_) fun _ _ h' => h'.elim)
    exact wpAny_bind (wpAny_bind (wpAny_mono h₂ (fun x s₄ h₄ => wpAny_bind (wpAny_mono h₄ (fun _ s₅ h₅ => wpAny_pure (wpAny_pure ⟨rfl, h₅⟩)) fun _ _ h' => h'.elim)) fun _ _ h' => h'.elim))
theorem comp2_loop0 {elt t0 i0 t1 i1 : Expr} {scope : Scope} {pos : Pos} {it acc : Value} {env : Env} (I : Nat → Shared → Prop)
    (turn : ∀ n s, I n s → wpAny (model prog w) A (pyNext it) (fun r s₁ => match r with
      | none => R (.ok .next) s₁
      | some v => wpAny (model prog w) A (assign t0 env v) (fun _ s₂ => wpAny (model prog w) A (eval i1 env) (fun x s₃ => wpAny (model prog w) A (pyIter x) (fun i s₄ =>
              codeAny (model prog w) A (.compStart (.ListComp elt [⟨t0, i0, [], 0⟩, ⟨t1, i1, [], 0⟩] scope pos) 1 i acc env) (fun r s₅ => match r with | .ok _ => Step I n s₅ | .error _ => False) s₄) (fun _ _ => False) s₃) (fun _ _ => False) s₂) (fun _ _ => False) s₁) (fun _ _ => False) s)
    (n : Nat) (h : I n s) (ht : ∀ v, letOwnedTupleGo t0 it v = pure () := by intro _; rfl) (hf : ∀ x, foldedSetIterable i1 env x = pure x := by intro _; rfl) :
    codeAny (model prog w) A (.compLoop (.ListComp elt [⟨t0, i0, [], 0⟩, ⟨t1, i1, [], 0⟩] scope pos) 0 it acc env) R s := by
  refine codeAny_loop rfl I (fun n s hI => ?_) n h
  show wpAny _ A ((compTurn (.ListComp elt [⟨t0, i0, [], 0⟩, ⟨t1, i1, [], 0⟩] scope pos) 0 it acc env).onRaise (fun x => do noteFrame x env; theTreesLotGoes x)) _ _ s
  refine wpAny_noted ?_
  rw [comp2_t0]
  refine wpAny_bind (wpAny_standAt (wpAny_bind (wpAny_mono (turn n s hI) (fun r s₁ h₁ => ?_) fun _ _ h' => h'.elim)))
  cases r with
  | none => exact wpAny_pure h₁
  | some v =>
    refine wpAny_bind (wpAny_of_eq (ht v) ?_)
    refine wpAny_bind (wpAny_mono h₁ (fun _ s₂ h₂ => wpAny_bind (wpAny_mono h₂ (fun x s₃ h₃ => ?_) fun _ _ h' => h'.elim)) fun _ _ h' => h'.elim)
    refine wpAny_bind (wpAny_standAt (wpAny_bind (wpAny_of_eq (hf x) ?_)))
    refine wpAny_bind (wpAny_holding (wpAny_mono h₃ (fun i s₄ h₄ => ?_) fun _ _ h' => h'.elim))
    refine wpAny_bind (wpAny_runOwn ?_)
    refine codeAny_mono h₄ (fun r s₅ h₅ => ?_)
    cases r with
    | ok f => exact wpAny_pure ⟨rfl, h₅⟩
    | error e => exact h₅.elim
theorem comp2_start1 {elt t0 i0 t1 i1 : Expr} {scope : Scope} {pos : Pos} {it acc : Value} {env : Env}
    (h0 : codeAny (model prog w) A (.compLoop (.ListComp elt [⟨t0, i0, [], 0⟩, ⟨t1, i1, [], 0⟩] scope pos) 1 it acc env) R s)
    (h : wpAny (model prog w) A (pyIter it) (fun it' s' => codeAny (model prog w) A (.compLoop (.ListComp elt [⟨t0, i0, [], 0⟩, ⟨t1, i1, [], 0⟩] scope pos) 1 it' acc env) R s')
      (fun _ _ => False) s) :
    codeAny (model prog w) A (.compStart (.ListComp elt [⟨t0, i0, [], 0⟩, ⟨t1, i1, [], 0⟩] scope pos) 1 it acc env) R s := by
  refine codeAny_of_tree ?_
  show wpAny _ _ ((compStart (.ListComp elt [⟨t0, i0, [], 0⟩, ⟨t1, i1, [], 0⟩] scope pos) 1 it acc env).onRaise (fun x => do noteFrame x env; standAt theWindowsPlace)) _ _ s
  refine wpAny_notedAt ?_
  unfold compStart
  show wpAny _ _ (ask >>= _) _ _ s
  refine wpAny_bind (wpAny_askSetting (wpAny_ite ?_))
  split
  · first
      | exact wpAny_bind (wpAny_pure (wpAny_pure (And.intro rfl h0)))
      | exact wpAny_pure (And.intro rfl h0)
  · first
      | exact wpAny_bind (wpAny_rule (wpAny_bind (wpAny_standAt (wpAny_bind (wpAny_mono h (fun it' s' h' => wpAny_pure (And.intro rfl h')) fun _ _ x => x.elim)))))
      | (refine wpAny_bind (wpAny_rule ?_); show wpAny _ _ (standAt i1.pos >>= _) _ _ s; exact wpAny_bind (wpAny_standAt (wpAny_bind (wpAny_mono h (fun it' s' h' => wpAny_pure (And.intro rfl h')) fun _ _ x => x.elim))))
end comp2
section comp2top
open LCg
variable {prog : Program} {w : World} {A : Around} {E : Value → Shared → Prop} {s : Shared} {h₀ : Heap} {L : Addr} {m : Str → Option Value} {env : Env}
theorem rng_self {I : Addr} {x : Int} {n : Nat} {oI : Obj} {news : List (Addr × Obj)} {Q : Value → Shared → Prop} (hh : A.handled = none) (N : News h₀ L s.heap news) (hm : (I, oI) ∈ news) (hI : RngIt oI x n 1) (h : Q (.ref I) s) : wpAny (model prog w) A (pyIter (.ref I)) Q E s := by
  refine (range_walks (prog := prog) (w := w) (I := I) hh x n).self 0 s Q E ?_ h
  have := hI _ _ (N _ hm).1
  simpa using this
/-- how the two loops end -/
noncomputable def End2 (h₀ : Heap) (L : Addr) (m : Str → Option Value) (C D : Addr) (Q : Value → Shared → Prop) (r : Result) (s' : Shared) : Prop :=
  match r with
  | .ok _ => ∃ oC m' ys news', Fr h₀ L s'.heap m ∧ News h₀ L s'.heap ((C, oC) :: (D, lst ys) :: news') ∧ NsObj oC m' ∧ (∀ p ∈ (D, lst ys) :: news', p.1 ≠ C) ∧
      (∀ h, Fr h₀ L h m → News h₀ L h ((D, lst ys) :: news') → Q (.ref D) { s' with heap := h })
  | .error _ => False
noncomputable def Src2 (prog : Program) (w : World) (A : Around) (h₀ : Heap) (L : Addr) (m : Str → Option Value) (env : Env) (e : Expr) (scope : Scope) (cl : List (Str × Addr)) (Q : Value → Shared → Prop) (xv : Value) (s₁ : Shared) : Prop :=
  ∃ r a b t u v n news, xv = .ref r ∧ A.handled = none ∧ Fr h₀ L s₁.heap m ∧ News h₀ L s₁.heap news ∧ IsRange s₁.heap r a b 1 t u v ∧ Builtin.Range.small a b 1 = true ∧ Builtin.Range.rangeSize a b 1 = ((n : Nat) : Int) ∧
    ∀ I oI C oC D h tk, Fr h₀ L h m → News h₀ L h ((I, oI) :: (C, oC) :: (D, lst []) :: news) → NsObj oC (fun _ => none) → RngIt oI a n 1 → Off3 I C D news → ((@Ne Nat I C) ∧ (@Ne Nat I D) ∧ (@Ne Nat C D)) → ((@Ne Nat C L) ∧ h₀.get? C = none) →
      codeAny (model prog w) A (.compLoop e 0 (.ref I) (.ref D) (compEnvC scope cl C env)) (End2 h₀ L m C D Q) { s₁ with heap := h, toks := tk }
theorem ListComp2 {elt i0 i1 : Expr} {x y : Str} {px py : Pos} {scope : Scope} {cl : List (Str × Addr)} {pos : Pos} {Q : Value → Shared → Prop} (F₀ : Fr h₀ L s.heap m)
    (hclos : closureFor scope env = pure cl) (hcell : ∀ y ∈ scope.names, y.2 ≠ .cell) (hkind : scope.kind = .function)
    (hnames : ∀ y ∈ scope.names, y.2 = .local → scope.names.lookup y.1 = some .local)
    (h : wpAny (model prog w) A (eval i0 env) (Src2 prog w A h₀ L m env (.ListComp elt [⟨.Name x px, i0, [], 0⟩, ⟨.Name y py, i1, [], 0⟩] scope pos) scope cl Q) E s)
    (hs : ∀ x, foldedSetIterable i0 env x = pure x := by intro _; rfl) :
    wpAny (model prog w) A (eval (.ListComp elt [⟨.Name x px, i0, [], 0⟩, ⟨.Name y py, i1, [], 0⟩] scope pos) env) Q E s := by
  rw [eval_ListComp]
  refine wpAny_comprehension_free (use := none) rfl hs hclos hkind hnames (wpAny_mono h (fun xv s₁ h₁ => ?_) fun _ _ e => e)
  obtain ⟨r, a, b, t, u, v, n, news, rfl, hh, F, N, hr, hsm, hn, K⟩ := h₁
  refine wpAny_pyIter_range hr hsm ?_
  have hRI : RngIt ({ cls := .type "range_iterator", data := .fields #[rawInt a, rawInt (Builtin.Range.rangeSize a b 1), rawInt 1] } : Obj) a n 1 := by rw [hn]; exact fun _ _ e => e
  have hfr : ({ cls := .type "range_iterator", data := .fields #[rawInt a, rawInt (Builtin.Range.rangeSize a b 1), rawInt 1] } : Obj).isFreed = false := rfl
  generalize ({ cls := .type "range_iterator", data := .fields #[rawInt a, rawInt (Builtin.Range.rangeSize a b 1), rawInt 1] } : Obj) = oI at *
  refine wpAny_newObj_type (wpAny_newFunctionEnv hcell (by intro y hy; simp at hy) (fun h₁ hns₁ hsb₁ => ?_) hkind)
  dsimp only at hns₁ hsb₁ ⊢
  have F1 := F.push oI
  have N1 : News h₀ L (s₁.heap.push oI) ((s₁.heap.objs.size, oI) :: news) := News.push F N _ hfr
  have F2 := F1.push (lst [])
  have N2 : News h₀ L ((s₁.heap.push oI).push (lst [])) (((s₁.heap.push oI).objs.size, lst []) :: (s₁.heap.objs.size, oI) :: news) := News.push F1 N1 _ rfl
  have hD : (s₁.heap.push oI).objs.size = s₁.heap.objs.size + 1 := Heap.size_push ..
  have hC : ((s₁.heap.push oI).push (lst [])).objs.size = s₁.heap.objs.size + 1 + 1 := by rw [Heap.size_push, hD]
  have lts : ∀ q ∈ news, q.1 < s₁.heap.objs.size := fun q hq => Heap.lt_size (N q hq).1
  replace hsb₁ : Heap.SameBut ((s₁.heap.push oI).push (lst [])).objs.size (((s₁.heap.push oI).push (lst [])).push { cls := .type "dict", data := .dict #[] }) h₁ := hsb₁
  replace hns₁ : h₁.Ns ((s₁.heap.push oI).push (lst [])).objs.size (fun _ => none) := hns₁
  have F3 := F2.push ({ cls := .type "dict", data := .dict #[] } : Obj)
  have N3 := News.push F2 N2 ({ cls := .type "dict", data := .dict #[] } : Obj) rfl
  have zC := N3 _ (List.mem_cons_self ..)
  have hCL : (@Ne Nat ((s₁.heap.push oI).push (lst [])).objs.size L) := zC.2.1
  have hC0 : h₀.get? ((s₁.heap.push oI).push (lst [])).objs.size = none := zC.2.2
  have F4 : Fr h₀ L h₁ m := F3.change hsb₁ hCL hC0
  obtain ⟨oC, hoC, hoC2⟩ := ns_obj hns₁
  have N4 : News h₀ L h₁ ((s₁.heap.objs.size, oI) :: (((s₁.heap.push oI).push (lst [])).objs.size, oC) :: ((s₁.heap.push oI).objs.size, lst []) :: news) := by
    intro q hq
    simp only [List.mem_cons] at hq
    rcases hq with rfl | rfl | rfl | hq
    · have z := N3 (s₁.heap.objs.size, oI) (by simp)
      exact ⟨hsb₁.extBut _ _ (by rw [hC]; exact Nat.ne_of_lt (by omega)) z.1, z.2⟩
    · exact ⟨hoC, hCL, hC0⟩
    · have z := N3 ((s₁.heap.push oI).objs.size, lst []) (by simp)
      exact ⟨hsb₁.extBut _ _ (by rw [hC, hD]; exact Nat.ne_of_lt (by omega)) z.1, z.2⟩
    · have z := N3 q (by simp [hq])
      have : @LT.lt Nat _ q.1 s₁.heap.objs.size := lts q hq
      exact ⟨hsb₁.extBut _ _ (by rw [hC]; exact Nat.ne_of_lt (by omega)) z.1, z.2⟩
  have hoff : Off3 s₁.heap.objs.size ((s₁.heap.push oI).push (lst [])).objs.size (s₁.heap.push oI).objs.size news := Off3.of fun q hq => by
    have : @LT.lt Nat _ q.1 s₁.heap.objs.size := lts q hq
    rw [hC, hD]
    exact ⟨Nat.ne_of_lt this, Nat.ne_of_lt (by omega), Nat.ne_of_lt (by omega)⟩
  have loop := K s₁.heap.objs.size oI _ oC _ h₁ (s₁.toks + ([] : List (Str × Value)).length) F4 N4 hoC2 hRI hoff ⟨by show @Ne Nat _ _; rw [hC]; exact Nat.ne_of_lt (by omega), by show @Ne Nat _ _; rw [hD]; exact Nat.ne_of_lt (by omega), by show @Ne Nat _ _; rw [hC, hD]; exact Nat.ne_of_gt (by omega)⟩ ⟨hCL, hC0⟩
  have fin : ∀ r' s', End2 h₀ L m ((s₁.heap.push oI).push (lst [])).objs.size (s₁.heap.push oI).objs.size Q r' s' → compPost (model prog w) A E none Q (.ref (s₁.heap.push oI).objs.size) ((s₁.heap.push oI).push (lst [])).objs.size r' s' := by
    intro r' s' he
    cases r' with
    | error e => exact he.elim
    | ok f =>
      obtain ⟨oC', m', ys, news', F', N', hn', off', K'⟩ := he
      refine ⟨m', hn'.ns (N' _ (List.mem_cons_self ..)).1, fun h'' hs'' => K' h'' (F'.change hs'' hCL hC0) fun q hq => ?_⟩
      have z := N' q (List.mem_cons_of_mem _ hq)
      exact ⟨hs''.extBut _ _ (off' q hq) z.1, z.2⟩
  have loop' := codeAny_mono loop fin
  exact codeAny_compStart_list loop' (rng_self hh N4 (List.mem_cons_self ..) hRI loop')
end comp2top
section comp2more
open LCg
variable {prog : Program} {w : World} {A : Around} {E : Value → Shared → Prop} {s : Shared} {h₀ : Heap} {L : Addr} {m : Str → Option Value} {env : Env}
theorem assign_comp {x : Str} {px : Pos} {scope : Scope} {cl : List (Str × Addr)} {C : Addr} {oC : Obj} {m₂ : Str → Option Value} {v : Value} {news : List (Addr × Obj)} {Q : Unit → Shared → Prop} (hx : scope.names.lookup x = some .local) (hkind : scope.kind = .function)
    (F : Fr h₀ L s.heap m) (N : News h₀ L s.heap ((C, oC) :: news)) (hC : NsObj oC m₂) (off : ∀ p ∈ news, p.1 ≠ C)
    (h : ∀ h' oC', Fr h₀ L h' m → News h₀ L h' ((C, oC') :: news) → NsObj oC' (fun z => if z = x then some v else m₂ z) → Q () { s with heap := h', toks := s.toks + 1 }) :
    wpAny (model prog w) A (assign (.Name x px) (compEnvC scope cl C env) v) Q E s := by
  have z := N _ (List.mem_cons_self ..)
  refine wpAny_assign_Name (wpAny_storeName_local (lookup_relabel_local hx) (hC.ns z.1) (fun h₃ hn₃ hs₃ => ?_) (by simp [compEnvC, relabel, hkind]))
  obtain ⟨oC', heC, hoC⟩ := ns_obj hn₃
  refine h h₃ oC' (F.change hs₃ z.2.1 z.2.2) (fun q hq => ?_) hoC
  rcases List.mem_cons.mp hq with rfl | hq
  · exact ⟨heC, z.2⟩
  · have y := N q (List.mem_cons_of_mem _ hq)
    exact ⟨hs₃.extBut _ _ (off q hq) y.1, y.2⟩
theorem append_comp {D : Addr} {ys : List Value} {y : Value} {news : List (Addr × Obj)} {Q : Value → Shared → Prop}
    (F : Fr h₀ L s.heap m) (N : News h₀ L s.heap ((D, lst ys) :: news)) (off : ∀ p ∈ news, p.1 ≠ D) (hz : ys.length ≤ sizeLine)
    (h : ∀ h', Fr h₀ L h' m → News h₀ L h' ((D, lst (ys ++ [y])) :: news) → Q .none { s with heap := h' }) :
    wpAny (model prog w) A (call (.builtin "list.append") [.ref D, y]) Q E s := by
  have z := N _ (List.mem_cons_self ..)
  refine append_at (hsz := by show ys.toArray.size ≤ sizeLine; rw [List.size_toArray]; exact hz) z.1 fun h₅ hs₅ hD₅ => ?_
  refine h h₅ (F.change hs₅ z.2.1 z.2.2) fun q hq => ?_
  rcases List.mem_cons.mp hq with rfl | hq
  · exact ⟨hD₅.trans (congrArg some (lst_snoc ys y)), z.2⟩
  · have y := N q (List.mem_cons_of_mem _ hq)
    exact ⟨hs₅.extBut _ _ (off q hq) y.1, y.2⟩
end comp2more

end Mine
end partR10

/- the part R11 -/
section
open PySem PySem.W PySem.Calls PyProof.Rows PySem.Spec
namespace Mine
theorem fresh_R11 (prog : Program) (w : World) (A : Around) (env : Env) (s : Shared) (Q : Flow → Shared → Prop) (E : Value → Shared → Prop) (h : Q .next s) :
    wpAny (model prog w) A (execs [] env) Q E s := by
  w_top off
  walk1
  exact h
end Mine
end
section partR11
open PySem PySem.W PySem.Calls PyProof.Rows PySem.Spec
set_option maxHeartbeats 1600000
namespace Mine
section filt
open LCg
variable {prog : Program} {w : World} {A : Around} {E : Value → Shared → Prop} {s : Shared} {h₀ : Heap} {L : Addr} {m : Str → Option Value} {env : Env}
/-- the turns of a comprehension with a test, by an invariant -/
theorem rest_genT {ct elt : Expr} {x : Str} {scope : Scope} {cl : List (Str × Addr)} {S : List (Addr × Obj) → Prop} {P : Nat → Value → Prop} {Fin : List Value → List (Addr × Obj) → Prop} {n : Nat} (Inv : Nat → List Value → List (Addr × Obj) → Prop) {news : List (Addr × Obj)}
    (h0 : Inv 0 [] news)
    (turn : ∀ i ys news v I oI C oC D m₂ h tk (E' : Value → Shared → Prop), i < n → Inv i ys news → P i v → NsObj oC m₂ → m₂ x = some v → Fr h₀ L h m → News h₀ L h ((I, oI) :: (C, oC) :: (D, lst ys) :: news) → Off3 I C D news → ((@Ne Nat I C) ∧ (@Ne Nat I D) ∧ (@Ne Nat C D)) →
      wpAny (model prog w) A (isTrue ct (compEnvC scope cl C env) (eval ct (compEnvC scope cl C env))) (fun ok s' => if ok = true then
        wpAny (model prog w) A (eval elt (compEnvC scope cl C env)) (CompEnd h₀ L m { s with heap := h, toks := tk } I oI C oC D (lst ys) S (fun y news' => Inv (i + 1) (ys ++ [y]) news')) E' s'
        else CompEnd h₀ L m { s with heap := h, toks := tk } I oI C oC D (lst ys) S (fun _ news' => Inv (i + 1) ys news') Value.none s') E' { s with heap := h, toks := tk })
    (fin : ∀ ys news, Inv n ys news → Fin ys news) : LCt.CompRestT prog w A h₀ L m env ct elt x scope cl s S P Fin n 0 [] news := by
  have key : ∀ (k i : Nat) (ys : List Value) (news : List (Addr × Obj)), i + k = n → Inv i ys news → LCt.CompRestT prog w A h₀ L m env ct elt x scope cl s S P Fin k i ys news := by
    intro k
    induction k with
    | zero => intro i ys news hi hI; obtain rfl : i = n := by omega
              exact LCt.CompRestT.zero (fin ys news hI)
    | succ k ih =>
      intro i ys news hi hI
      refine LCt.CompRestT.succ ?_
      intro v I oI C oC D m₂ h tk E' hP hC hx F N off ne
      refine wpAny_mono (turn i ys news v I oI C oC D m₂ h tk E' (by omega) hI hP hC hx F N off ne) (fun ok s₂ hq => ?_) fun _ _ e => e
      cases ok with
      | true =>
        rw [if_pos rfl] at hq ⊢
        refine wpAny_mono hq (fun y s₃ hq => ?_) fun _ _ e => e
        obtain ⟨h', tk', nw, e, F', N', off', hS, hI'⟩ := hq
        exact ⟨h', tk', nw, e, F', N', off', hS, ih (i + 1) _ _ (by omega) hI'⟩
      | false =>
        rw [if_neg (by decide)] at hq ⊢
        obtain ⟨h', tk', nw, e, F', N', off', hS, hI'⟩ := hq
        exact ⟨h', tk', nw, e, F', N', off', hS, ih (i + 1) _ _ (by omega) hI'⟩
  exact key n 0 [] news (by omega) h0
end filt

end Mine
end partR11

/- the part R2 -/
section
open PySem PySem.W PySem.Calls PyProof.Rows PySem.Spec
namespace Mine
theorem fresh_R2 (prog : Program) (w : World) (A : Around) (env : Env) (s : Shared) (Q : Flow → Shared → Prop) (E : Value → Shared → Prop) (h : Q .next s) :
    wpAny (model prog w) A (execs [] env) Q E s := by
  w_top off
  walk1
  exact h
end Mine
end
section partR2
open PySem PySem.W PySem.Calls PyProof.Rows PySem.Spec
set_option maxHeartbeats 1600000
namespace Mine
section citer
open Builtin
/-- the same at its end -/
noncomputable abbrev ciEnd : Obj := { cls := .type "callable_iterator", data := .fields #[.none, .none, .bool true] }
/-- the iterator that iter(call, '') makes -/
noncomputable abbrev ciObj (q : Addr) (e : Str) (te : Tok) (b : Bool) : Obj := { cls := .type "callable_iterator", data := .fields #[.ref q, .str e te, .bool b] }
theorem tl_method_call : typeLookup (.type "method") "__call__" = pure (some (.builtin "method.__call__")) := by
  rw [typeLookup_type, builtinLookup_eq_fast]; kernel_rfl
theorem slot_ci_next : Slot "callable_iterator" "__next__" "callable_iterator.__next__" :=
  .of (owner := "callable_iterator") (n := "__next__") (by rw [typeLookup_type, builtinLookup_eq_fast]; kernel_rfl) (by decide +kernel) (by decide +kernel) (by decide +kernel)
    (by first | exact .inl (by decide +kernel) | exact .inr (by decide +kernel)) (by rw [isSubtype_type]; kernel_rfl)
theorem entry_ci_next : entryFor table "callable_iterator.__next__" = some Builtin.«callable_iterator.__next__» := entryFor_of_tree (by kernel_rfl)
theorem args_ci_next (a : Value) : argsOk "callable_iterator.__next__" ⟨[a], []⟩ := by unfold argsOk; kernel_rfl
theorem args_iter2 (a b : Value) : argsOk "iter" ⟨[a, b], []⟩ := by unfold argsOk; kernel_rfl
section
variable {M : Model} {A : Around} {E : Value → Shared → Prop} {s : Shared}
theorem wpAny_callBorrowed {f : Value} {pos : List Value} {Q : Value → Shared → Prop}
    (hc : codeAny M A (.call f ⟨pos, []⟩) (fun r s' => match r with | .ok (.ret v) => Q v s' | .ok _ => False | .error e => E e s') s) : wpAny M A (callBorrowed f pos) Q E s :=
  fun Γ p hΓ => by
    unfold callBorrowed
    rw [Sem.wp_call]
    refine wpCode_mono (fun r s' x => ?_) (hc _ p rfl (hΓ.enter _ none p (by intro x; cases x)))
    rcases r with e | fl
    · exact x
    · cases fl <;> first | exact x | exact x.elim
end
variable {prog : Program} {w : World} {A : Around} {E : Value → Shared → Prop} {s : Shared} {h₀ : Heap} {L I q f x : Addr} {m : Str → Option Value} {news : List (Addr × Obj)} {te : Tok} {e : Str}

theorem ci_iter {Q : Value → Shared → Prop} (F : Fr h₀ L s.heap m) (N : News h₀ L s.heap news) (hq : (q, methodObj (.ref f) (.ref x)) ∈ news)
    (h : ∀ I h', Fr h₀ L h' m → News h₀ L h' ((I, ciObj q e te false) :: news) → (∀ p ∈ news, p.1 < I) → Q (.ref I) { s with heap := h' }) :
    wpAny (model prog w) A (call (.builtin "iter") [.ref q, .str e te]) Q E s := by
  refine call_function_entry (by decide +kernel) (by decide +kernel) kdk_entry_iter (args_iter2 _ _) ?_
  unfold Builtin.«iter»
  refine wpAny_bind (m := someArgs "iter" 1 2 _) (wpAny_of_eq (a := [Value.ref q, .str e te]) (by first | rfl | kernel_rfl!) ?_)
  dsimp only
  refine wpAny_bind (wpAny_specialOf (name := Str.ofString "__call__") (T := "method") ⟨_, (N _ hq).1, rfl⟩ tl_method_call ?_)
  refine wpAny_ite_split (fun hab => absurd hab (by simp)) (fun _ => ?_)
  refine (wpAny_bind (wpAny_rule (wpAny_bind ?_)))
  unfold newFields
  refine wpAny_newObj_type ?_
  exact wpAny_pure ⟨_, rfl, h _ _ (F.push _) (News.push F N _ rfl) (fun q hq => Heap.lt_size (N q hq).1)⟩

theorem borrows_method {ob : Obj} {fd : FuncData} {Q : Bool → Shared → Prop} (F : Fr h₀ L s.heap m) (N : News h₀ L s.heap news) (hq : (q, methodObj (.ref f) (.ref x)) ∈ news)
    (hf : h₀.get? f = some ob) (hfd : ob.data = .func fd) (h : Q true s) : wpAny (model prog w) A (borrowsExactly (.ref q)) Q E s := by
  unfold borrowsExactly
  dsimp only
  refine wpAny_bind (wpAny_load (N _ hq).1 ?_)
  dsimp only
  rw [if_pos (by decide +kernel)]
  refine wpAny_bind (wpAny_load (F.keep _ _ hf) ?_)
  rw [hfd]
  exact wpAny_pure h

theorem ci_next {Q : Option Value → Shared → Prop} {ob : Obj} {fd : FuncData} (hh : A.handled = none) (F : Fr h₀ L s.heap m) (N : News h₀ L s.heap news) (hI : (I, ciObj q (Str.ofString "") te false) ∈ news) (hq : (q, methodObj (.ref f) (.ref x)) ∈ news)
    (hf : h₀.get? f = some ob) (hfd : ob.data = .func fd)
    (hc : codeAny (model prog w) A.in1 (.call (.ref f) ⟨[.ref x], []⟩) (fun r s' => match r with
      | .ok (.ret v) => ∃ o t n', v = .str o t ∧ Fr h₀ L s'.heap m ∧ News h₀ L s'.heap ((I, ciObj q (Str.ofString "") te false) :: n') ∧ (∀ p ∈ n', p.1 ≠ I) ∧ (q, methodObj (.ref f) (.ref x)) ∈ n' ∧ (o ≠ Str.ofString "" → Q (some v) s') ∧
          (o = Str.ofString "" → ∀ h', Fr h₀ L h' m → News h₀ L h' ((I, ciEnd) :: n') → Q none { s' with heap := h' })
      | .ok _ => False
      | .error e => False) s) :
    wpAny (model prog w) A (pyNext (.ref I)) Q E s := by
  unfold pyNext
  have hTI : s.TypeIs (.ref I) "callable_iterator" := ⟨_, (N _ hI).1, rfl⟩
  refine wpAny_bind (wpAny_attempt (wpAny_callSpecial?_slot (name := Str.ofString "__next__") hTI slot_ci_next
    (wpAny_call_entry slot_ci_next hTI entry_ci_next ?_ (args_ci_next _))))
  show wpAny _ _ (field (.ref I) 2 >>= _) _ _ s
  refine wpAny_bind (wpAny_field (N _ hI).1 rfl (x := .bool false) rfl ?_)
  rw [if_neg (by decide)]
  show wpAny _ _ (field (.ref I) 0 >>= _) _ _ s
  refine wpAny_bind (wpAny_field (N _ hI).1 rfl (x := .ref q) rfl ?_)
  refine wpAny_bind (wpAny_attempt ?_)
  unfold callOutOfASlot
  refine wpAny_bind (borrows_method F N hq hf hfd ?_)
  rw [if_pos rfl]
  refine wpAny_callBorrowed (method_call (N _ hq).1 (codeAny_mono hc fun r s' x => ?_))
  rcases r with e | fl
  · exact x.elim
  rcases fl with _ | _ | _ | v
  · exact x.elim
  · exact x.elim
  · exact x.elim
  obtain ⟨o, t, n', rfl, F', N', hn, hq', h1, h2⟩ := x
  have hI' := (N' _ (List.mem_cons_self ..)).1
  dsimp only
  show wpAny _ _ (field (.ref I) 2 >>= _) _ _ s'
  refine wpAny_bind (wpAny_field hI' rfl (x := .bool false) rfl ?_)
  rw [if_neg (by decide)]
  refine wpAny_bind (wpAny_field hI' rfl (x := .str (Str.ofString "") te) rfl ?_)
  refine wpAny_bind (wpAny_holding (wpAny_eqBool_str ?_))
  by_cases ho : Str.ofString "" = o
  · rw [decide_eq_true ho]
    refine wpAny_ite_split (fun hab => absurd hab (by decide)) (fun _ => ?_)
    refine wpAny_bind (wpAny_rule (wpAny_bind ?_))
    refine wpAny_bind (m := field (.ref I) 0) (wpAny_field hI' rfl (x := .ref q) rfl ?_)
    refine wpAny_bind ?_
    unfold slotLetsGo
    dsimp only
    refine wpAny_bind (borrows_method F' N' (List.mem_cons_of_mem _ hq') hf hfd ?_)
    rw [if_pos rfl]
    refine wpAny_pure ?_
    obtain ⟨F1, N1⟩ := news_upd (pre := []) (o' := ⟨.type "callable_iterator", none, .fields #[.none, .str (Str.ofString "") te, .bool false], #[]⟩) (f := Obj.mapFields (·.setIfInBounds 0 .none)) F' N' (fun q hq => nomatch hq) hn rfl rfl
    refine wpAny_bind (wpAny_setField hI' rfl (by simp) ?_)
    obtain ⟨F2, N2⟩ := news_upd (pre := []) (o' := ⟨.type "callable_iterator", none, .fields #[.none, .none, .bool false], #[]⟩) (f := Obj.mapFields (·.setIfInBounds 1 .none)) F1 N1 (fun q hq => nomatch hq) hn rfl rfl
    refine wpAny_bind (wpAny_setField (N1 _ (List.mem_cons_self ..)).1 rfl (by simp) ?_)
    obtain ⟨F3, N3⟩ := news_upd (pre := []) (o' := ⟨.type "callable_iterator", none, .fields #[.none, .none, .bool true], #[]⟩) (f := Obj.mapFields (·.setIfInBounds 2 (.bool true))) F2 N2 (fun q hq => nomatch hq) hn rfl rfl
    refine wpAny_setField (N2 _ (List.mem_cons_self ..)).1 rfl (by simp) ?_
    show wpAny _ _ (newExc (.type "StopIteration") [] >>= _) _ _ _
    refine wpAny_bind ?_
    simp only [newExc, newTuple]
    refine wpAny_bind (wpAny_newObj_type ?_ (by size_fits))
    refine wpAny_bind (m := firstArgMember _ _) (wpAny_of_eq (a := Value.none) (by first | rfl | (simp only [firstArgMember]; rfl)) ?_)
    refine wpAny_newObj_type ?_ (by size_fits)
    simp only [raiseNew]
    refine wpAny_bind (wpAny_handled ?_)
    rw [show A.in1.handled = none from hh]
    refine wpAny_bind (wpAny_pure (wpAny_throw ?_))
    refine wpAny_bind (wpAny_isInstance (T := "StopIteration") (b := true) ⟨_, Heap.get?_push_size _ rfl, rfl⟩ isSubtype_stop ?_)
    exact wpAny_pure (h2 ho.symm _ (Fr.pushS (Fr.pushS F3 _) _) (News.pushKeep (News.pushKeep N3 _) _))
  · rw [decide_eq_false ho]
    refine wpAny_ite_split (fun _ => ?_) (fun hab => absurd hab (by decide))
    exact wpAny_pure ⟨_, rfl, wpAny_pure (h1 (fun e => ho e.symm))⟩
theorem ci_over {Q : Option Value → Shared → Prop} (hh : A.handled = none) (F : Fr h₀ L s.heap m) (N : News h₀ L s.heap news) (hI : (I, ciEnd) ∈ news)
    (h : ∀ h', Fr h₀ L h' m → News h₀ L h' news → Q none { s with heap := h' }) :
    wpAny (model prog w) A (pyNext (.ref I)) Q E s := by
  unfold pyNext
  have hTI : s.TypeIs (.ref I) "callable_iterator" := ⟨_, (N _ hI).1, rfl⟩
  refine wpAny_bind (wpAny_attempt (wpAny_callSpecial?_slot (name := Str.ofString "__next__") hTI slot_ci_next
    (wpAny_call_entry slot_ci_next hTI entry_ci_next ?_ (args_ci_next _))))
  show wpAny _ _ (field (.ref I) 2 >>= _) _ _ s
  refine wpAny_bind (wpAny_field (N _ hI).1 rfl (x := .bool true) rfl ?_)
  rw [if_pos (by decide)]
  refine wpAny_bind (wpAny_rule (wpAny_bind ?_))
  show wpAny _ _ (newExc (.type "StopIteration") [] >>= _) _ _ _
  refine wpAny_bind ?_
  simp only [newExc, newTuple]
  refine wpAny_bind (wpAny_newObj_type ?_ (by size_fits))
  refine wpAny_bind (m := firstArgMember _ _) (wpAny_of_eq (a := Value.none) (by first | rfl | (simp only [firstArgMember]; rfl)) ?_)
  refine wpAny_newObj_type ?_ (by size_fits)
  simp only [raiseNew]
  refine wpAny_bind (wpAny_handled ?_)
  rw [show A.in1.handled = none from hh]
  refine wpAny_bind (wpAny_pure (wpAny_throw ?_))
  refine wpAny_bind (wpAny_isInstance (T := "StopIteration") (b := true) ⟨_, Heap.get?_push_size _ rfl, rfl⟩ isSubtype_stop ?_)
  exact wpAny_pure (h _ (Fr.pushS (Fr.pushS F _) _) (News.pushKeep (News.pushKeep N _) _))
theorem slot_ci_iter : Slot "callable_iterator" "__iter__" "callable_iterator.__iter__" :=
  .of (owner := "callable_iterator") (n := "__iter__") (by rw [typeLookup_type, builtinLookup_eq_fast]; kernel_rfl) (by decide +kernel) (by decide +kernel) (by decide +kernel)
    (by first | exact .inl (by decide +kernel) | exact .inr (by decide +kernel)) (by rw [isSubtype_type]; kernel_rfl)
theorem entry_ci_iter : entryFor table "callable_iterator.__iter__" = some Builtin.«dict_keyiterator.__iter__» :=
  entryFor_alias (id' := "dict_keyiterator.__iter__") (by kernel_rfl) rfl (by decide +kernel) (by kernel_rfl)
theorem args_ci_iter (a : Value) : argsOk "callable_iterator.__iter__" ⟨[a], []⟩ := by unfold argsOk; kernel_rfl
theorem ci_pyIter {Q : Value → Shared → Prop} (N : News h₀ L s.heap news) (hI : (I, ciObj q e te false) ∈ news) (h : Q (.ref I) s) : wpAny (model prog w) A (pyIter (.ref I)) Q E s := by
  have hTI : s.TypeIs (.ref I) "callable_iterator" := ⟨_, (N _ hI).1, rfl⟩
  refine wpAny_pyIter_slot hTI slot_ci_iter (wpAny_call_entry slot_ci_iter hTI entry_ci_iter ?_ (args_ci_iter _))
  exact wpAny_bind (wpAny_pure (wpAny_pure ⟨_, rfl, "callable_iterator", _, hTI, slot_ci_next.lookup, h⟩))
end citer

end Mine
end partR2

/- the part FColl -/
section
open PySem PySem.W PySem.Calls PyProof.Rows PySem.Spec
namespace Mine
theorem fresh_FColl (prog : Program) (w : World) (A : Around) (env : Env) (s : Shared) (Q : Flow → Shared → Prop) (E : Value → Shared → Prop) (h : Q .next s) :
    wpAny (model prog w) A (execs [] env) Q E s := by
  w_top off
  walk1
  exact h
end Mine
end
section partFColl
open PySem PySem.W PySem.Calls PyProof.Rows PySem.Spec
set_option maxHeartbeats 1600000
namespace Mine
open K
theorem strcoll_told (rest : List (Addr × Obj)) (a b : Str) (ta tb : Tok) :
    Told w p loose mean mg mb 1 (.ref 28) [.str a ta, .str b tb] rest (fun r n' => n' = rest ∧ ∃ t, r = .int (b2i (decide (b.cps.toList < a.cps.toList)) - b2i (decide (a.cps.toList < b.cps.toList))) t) := by
  unfold Told
  k_fill
  intro dp un gd env outer A₀ base h₀ L m s Q B F X N T CH hf hk hd hu hret
  k_dflt (refine' enterP (binds := [("a", .str a ta), ("b", .str b tb)]) ?k1 ?k2 ?k3 ?k4 ?k5 ?kc ?kA ?kF ?kK ?k6 ?k7 ?k8 ?k9 ?kB ?_ ?c2 ?c3 ?c4 ?c5)
  case kA => exact rfl
  case kF => assumption
  case kK => assumption
  case k1 => k_asm
  case k2 => k_asm
  case k3 => k_asm
  case k4 => k_asm
  case k5 => k_asm
  case kc => assumption
  case k6 => k_dflt k_is
  case k7 => k_dflt k_is
  case k8 => (try simp only [depth_under_make, depth_under_kw, depth_in1, depth_deeper, depth_caller] at *); simp only [recursionLimit] at *; omega
  case k9 => exact BindsTo.of_eq rfl
  case c2 => exact rfl
  case c3 => exact rfl
  case c4 => exact rfl
  case c5 => decide
  case kB => exact locs rfl
  intro g L1 h1 FG F1 N1 B1 X1 T1 CH1 l1
  dsimp only [List.reverse, List.reverseAux] at F1
  try dsimp only
  k_fold
  k_steps
  exact hret _ _ _ rest (by assumption) (by assumption) ⟨rfl, _, rfl⟩

end Mine
end partFColl

/- the part FRead -/
section
open PySem PySem.W PySem.Calls PyProof.Rows PySem.Spec
namespace Mine
theorem fresh_FRead (prog : Program) (w : World) (A : Around) (env : Env) (s : Shared) (Q : Flow → Shared → Prop) (E : Value → Shared → Prop) (h : Q .next s) :
    wpAny (model prog w) A (execs [] env) Q E s := by
  w_top off
  walk1
  exact h
end Mine
end
section partFRead
open PySem PySem.W PySem.Calls PyProof.Rows PySem.Spec
set_option maxHeartbeats 1600000
namespace Mine
open K
theorem slice_one (l : List Nat) (k : Nat) : Txt.slice (S l) (some ((k : Int) + 1 - 1)) (some ((k : Int) + 1)) = S (l[k]?.toList) := by
  by_cases h : k < l.length
  · have e := slice_closesL (x := S l) (i := (k : Int)) (j := (k : Int) + 1) (by omega) (by omega) (by rw [S_len]; omega)
    have e2 := eq_of_beq e
    have hk1 : ((k : Int) + 1 - 1) = k := by omega
    rw [hk1, e2]
    show (⟨_⟩ : Str) = ⟨_⟩
    congr 1
    have h1 : ((k : Int) + 1 - k).toNat = 1 := by omega
    rw [h1, Int.toNat_natCast, List.getElem?_eq_getElem h]
    simp only [Option.toList]
    rw [List.drop_eq_getElem_cons h]
    rfl
  · have hn : l[k]? = none := List.getElem?_eq_none (by omega)
    have hs : Builtin.Str.strSliceIndices (some ((k : Int) + 1 - 1)) (some ((k : Int) + 1)) 1 (S l).length = [] := by
      rw [S_len]
      unfold Builtin.Str.strSliceIndices
      have e1 : max 0 (min (if (k : Int) + 1 - 1 < 0 then (k : Int) + 1 - 1 + (l.length : Int) else (k : Int) + 1 - 1) (l.length : Int)) = l.length := by
        rw [if_neg (by omega)]; omega
      have e2 : max 0 (min (if (k : Int) + 1 < 0 then (k : Int) + 1 + (l.length : Int) else (k : Int) + 1) (l.length : Int)) = l.length := by
        rw [if_neg (by omega)]; omega
      show sliceRange (if (1 : Int) > 0 then max 0 (min (if (k : Int) + 1 - 1 < 0 then (k : Int) + 1 - 1 + (l.length : Int) else (k : Int) + 1 - 1) (l.length : Int)) else _) (if (1 : Int) > 0 then max 0 (min (if (k : Int) + 1 < 0 then (k : Int) + 1 + (l.length : Int) else (k : Int) + 1) (l.length : Int)) else _) 1 = []
      rw [if_pos (show (1 : Int) > 0 by decide), if_pos (show (1 : Int) > 0 by decide), e1, e2]
      unfold sliceRange
      rw [if_pos (show (1 : Int) > 0 by decide), if_neg (by omega)]
      rfl
    unfold Txt.slice
    rw [hs, hn]
    split
    · rename_i h0
      have : l.length = 0 := by
        rw [S_len] at h0
        simpa using (eq_of_beq (Bool.and_eq_true_iff.mp h0).2).symm
      rw [List.length_eq_zero_iff.mp this]; rfl
    · rfl
local macro_rules | `(tactic| walk_at "eval Name") => `(tactic| ((with_reducible show wpAny _ _ (eval (Expr.Name _ _) (envX _ _ _ _ _ (_ :: _))) _ _ _); k_dflt (refine' nameX_F ?N ?c ?m ?d ?_ ?a ?b; (case b => rfl); (case a => rfl); (case N => k_asm); (case c => rfl); (case m => first | exact List.mem_cons_of_mem _ (by assumption) | assumption); (case d => assumption); k_whole)))
theorem read_told (rest : List (Addr × Obj)) (text : List Nat) {fr fc ct ca la : Addr} {foc ot oa : Obj} {vs : Array Value} {qual : Str} {doc pm ctv : Value} {tq tt : Tok}
    (hfr : (fr, fnMade (Str.ofString "read") qual rdP rdB rdS [(Str.ofString "text", ct), (Str.ofString "at", ca)] doc pm fc ctv) ∈ rest)
    (hfc : (fc, foc) ∈ rest) (hfd : foc.data = .fields vs) (hfv : vs[1]? = some (.str qual tq))
    (hct : (ct, ot) ∈ rest) (hot : ot.data = .cell (some (.str (S text) tt))) (hca : (ca, oa) ∈ rest) (hoa : oa.data = .cell (some (.ref la)))
    (hla : ∀ q ∈ rest, q.1 ≠ la) (k : Nat) (t t1 : Tok) (e : Nat) (hk62 : k + 1 < 2 ^ 62) (hsz : (S text).length ≤ sizeLine) :
    Told w p loose mean mg mb 1 (.ref fr) [.int 1 t1] ((la, W.listOf #[.int k t] e) :: rest) (fun r n' => (∃ t' e', n' = (la, W.listOf #[.int (k + 1 : Nat) t'] e') :: rest) ∧ ∃ t2, r = .str (S (text[k]?.toList)) t2) := by
  unfold rdB rdP rdS at hfr
  dsimp only at hfr
  unfold Told
  k_fill
  intro dp un gd env outer A₀ base h₀ L m s Q B F X N T CH hf hk hd hu hret
  k_dflt (refine' enterN (binds := [("size", .int 1 t1)]) ?k1 ?k2 ?k3 ?k4 ?k5 ?kc ?kA ?kF ?kK ?k6 ?k7 ?k7a ?k7b ?k8 ?k9 ?kB ?_ ?c2 ?c3 ?c4 ?c5)
  case kA => exact rfl
  case kF => assumption
  case kK => assumption
  case k1 => k_asm
  case k2 => k_asm
  case k3 => k_asm
  case k4 => k_asm
  case k5 => k_asm
  case kc => assumption
  case k6 => exact List.mem_cons_of_mem _ hfr
  case k7 => exact List.mem_cons_of_mem _ hfc
  case k7a => assumption
  case k7b => assumption
  case k8 => simp only [recursionLimit] at *; omega
  case k9 => exact BindsTo.of_eq rfl
  case c2 => exact rfl
  case c3 => exact rfl
  case c4 => exact rfl
  case c5 => decide
  case kB => exact locs rfl
  intro g2 L2 h2 FG2 F2 N2 B2 X2 T2 CH2 l2
  dsimp only [List.reverse, List.reverseAux] at F2
  try dsimp only
  k_fold
  walk1
  walk1
  walk1
  k_steps
  have hv : Txt.slice (S text) (some (([[(k : Int)].getD (Int.toNat 0) 0 + 1].getD (Int.toNat 0) 0) - 1)) (some ([[(k : Int)].getD (Int.toNat 0) 0 + 1].getD (Int.toNat 0) 0)) = S (text[k]?.toList) := slice_one text k
  refine hret _ _ _ _ (by assumption) (by assumption) ⟨⟨_, _, rfl⟩, _, by rw [hv]⟩

end Mine
end partFRead

/- the part FStream -/
section
open PySem PySem.W PySem.Calls PyProof.Rows PySem.Spec
namespace Mine
theorem fresh_FStream (prog : Program) (w : World) (A : Around) (env : Env) (s : Shared) (Q : Flow → Shared → Prop) (E : Value → Shared → Prop) (h : Q .next s) :
    wpAny (model prog w) A (execs [] env) Q E s := by
  w_top off
  walk1
  exact h
end Mine
end
section partFStream
open PySem PySem.W PySem.Calls PyProof.Rows PySem.Spec
set_option maxHeartbeats 1600000
namespace Mine
open K
local macro_rules | `(tactic| walk_at "setAttr ref") => `(tactic| (k_here; k_dflt (refine' setAttr_fn ?F ?N ?U ?_; (case F => k_asm); (case N => k_asm); (case U => k_updF); k_whole); intro d' t' h' tk' F' N' l1'; (try dsimp only at N'); (try k_lt l1')))
theorem stream_told (rest : List (Addr × Obj)) (text : List Nat) (ta : Tok) (hr : ∀ q ∈ rest, q.1 ≠ 84) (hsz : (S text).length ≤ sizeLine) :
   Told w p loose mean mg mb 2 (.ref 89) [.str (S text) ta] ((84, tabObj #[]) :: rest)
     (fun r n' => ∃ fs la t st lo ps, r = .ref fs ∧ n' = (la, W.listOf #[.int 0 t] 0) :: (84, tabObj ps) :: (st ++ rest) ∧ Strm w p loose mean mg mb st fs text la ∧ (∀ q ∈ st, lo ≤ q.1 ∧ q.1 ≠ la) ∧ Rst lo rest ∧ lo ≤ la) := by
  unfold Told
  k_fill
  intro dp un gd env outer A₀ base h₀ L m s Q B F X N T CH hf hk hd hu hret
  k_dflt (refine' enterC (binds := [("text", .str (S text) ta)]) ?k1 ?k2 ?k3 ?k4 ?k5 ?kc ?kA ?kF ?kK ?k6 ?k7 ?k8 ?k9 ?kB ?kD ?_ ?c2 ?c3 ?c4)
  case kA => exact rfl
  case kF => assumption
  case kK => assumption
  case k1 => k_asm
  case k2 => k_asm
  case k3 => k_asm
  case k4 => k_asm
  case k5 => k_asm
  case kc => assumption
  case k6 => k_dflt k_is
  case k7 => k_dflt k_is
  case k8 => (try simp only [depth_under_make, depth_under_kw, depth_in1, depth_deeper, depth_caller] at *); simp only [recursionLimit] at *; omega
  case k9 => exact BindsTo.of_eq rfl
  case c2 => exact rfl
  case c3 => exact rfl
  case c4 => exact rfl
  case kB => exact rfl
  case kD => decide +kernel
  intro g L1 h1 tk1 cells FG F1 N1 Y1 B1 X1 T1 CH1 l1
  try dsimp only
  k_fold
  k_cells Y1
  simp only [List.cons_append, List.nil_append] at N1
  have R0 : Rst L1 rest := fun q hq => l1 q (List.mem_cons_of_mem _ hq)
  replace l1 : (84:Nat) < L1 := l1 (84, tabObj #[]) (List.mem_cons_self ..)
  k_steps
  rename_i oa ot da0 dt0 la h6 l3 h5 oa' da fr fc foc fvs ft fct fdc h4 tk2 fd1 fd2 l4 l5 h3 fs c2 oc2 vs2 t2 ct2 h2 tk3 e1 e2 l6a l6 h7 F7 N7 d t9 h8 tk9 F9 N9 l9 kF kN Tc kX
  have hne : ∀ q ∈ rest, q.1 ≠ la := fun q hq => rest_ne (d := la) R0 (by omega) q hq
  have k1 := news_front (a := [_, _, _, _, _]) kN
  have k2 := news_front (a := [_, _, _, _, _, _, _, _]) k1
  have k3 := news_front (a := [_]) k2
  refine hret _ _ _ _ kF k3 ⟨fs, la, tk1, [_, _, _, _, _, _, _], L1, _, rfl, rfl, ?strm, ?lo, R0, ?le⟩
  case le => show @LE.le Nat instLENat L1 la; omega
  case lo =>
    repeat' (first | exact List.forall_mem_nil _ | refine List.forall_mem_cons.mpr ⟨⟨?_, ?_⟩, ?_⟩)
    all_goals dsimp only
    all_goals first | (show @LE.le Nat instLENat _ _; omega) | (show @Ne Nat _ _; omega)
  case strm =>
    refine ⟨d, fr, t9, _, _, by k_mem, by k_mem, by k_mem, ?_⟩
    intro rest' hsub hla k t t1 e hk62
    have dt : ot.data = .cell (some (.str (S text) ta)) := dt0
    exact read_told rest' text (hsub _ (by k_mem)) (hsub _ (by k_mem)) fd1 fd2 (hsub _ (by k_mem)) dt (hsub _ (by k_mem)) da hla k t t1 e hk62 hsz

end Mine
end partFStream

/- the part FChar -/
section
open PySem PySem.W PySem.Calls PyProof.Rows PySem.Spec
namespace Mine
theorem fresh_FChar (prog : Program) (w : World) (A : Around) (env : Env) (s : Shared) (Q : Flow → Shared → Prop) (E : Value → Shared → Prop) (h : Q .next s) :
    wpAny (model prog w) A (execs [] env) Q E s := by
  w_top off
  walk1
  exact h
end Mine
end
section partFChar
open PySem PySem.W PySem.Calls PyProof.Rows PySem.Spec
set_option maxHeartbeats 1600000
namespace Mine
open K
theorem nl_iff (o : Option Nat) : (S o.toList == Str.ofString "\n") = true ↔ o = some 10 := by
  cases o with
  | none => exact ⟨fun h => absurd h (by decide +kernel), fun h => nomatch h⟩
  | some c =>
    constructor
    · intro h
      have e := eq_of_beq h
      have e2 : (S [c]).cps.toList = (Str.ofString "\n").cps.toList := by rw [show S [c] = Str.ofString "\n" from e]
      have e3 : (Str.ofString "\n").cps.toList = [10] := by decide +kernel
      rw [e3] at e2
      simpa using e2
    · intro h; cases h; decide +kernel
local macro_rules | `(tactic| walk_at "getMethod ref") => `(tactic| (k_here; (with_reducible show wpAny _ _ (getMethod (Value.ref _) (Str.ofString "read") _) _ _ _); k_dflt (refine' getMethod_fn ?N ?f ?d ?_; (case N => k_asm); (case f => k_mem); (case d => k_mem); k_whole)))
theorem char_told (rest : List (Addr × Obj)) (text : List Nat) {x dx la fs pb : Addr} (k : Nat) (ln : Int) (t : Tok) (e : Nat) (a b c d e1 f : Tok)
    (hx : (x, instObj 66 dx) ∈ rest) (hs : Strm w p loose mean mg mb rest fs text la) (hn1 : ∀ q ∈ rest, q.1 ≠ la) (hn2 : ∀ q ∈ rest, q.1 ≠ dx) (hne : @Ne Nat dx la) (hk62 : k + 1 < 2 ^ 62) :
    Told w p loose mean mg mb 3 (.ref 49) [.ref x] ((la, W.listOf #[.int k t] e) :: (dx, dictOf (lexd w ln fs pb a b c d e1 f) 4) :: rest)
      (fun r n' => (∃ t' e' b', n' = (la, W.listOf #[.int (k + 1 : Nat) t'] e') :: (dx, dictOf (lexd w (if text[k]? = some 10 then ln + 1 else ln) fs pb a b' c d e1 f) 4) :: rest) ∧ ∃ t2, r = .str (S (text[k]?.toList)) t2) := by
  generalize hl : (if text[k]? = some 10 then ln + 1 else ln) = ln2
  obtain ⟨d1, fr, tq, fd, fd', m1, m2, m3, hread⟩ := hs.made
  unfold Told
  k_fill
  intro dp un gd env outer A₀ base h₀ L m s Q B F X N T CH hf hk hd hu hret
  k_dflt (refine' enterP (binds := [("self", .ref x)]) ?k1 ?k2 ?k3 ?k4 ?k5 ?kc ?kA ?kF ?kK ?k6 ?k7 ?k8 ?k9 ?kB ?_ ?c2 ?c3 ?c4 ?c5)
  case kA => exact rfl
  case kF => assumption
  case kK => assumption
  case k1 => k_asm
  case k2 => k_asm
  case k3 => k_asm
  case k4 => k_asm
  case k5 => k_asm
  case kc => assumption
  case k6 => k_dflt k_is
  case k7 => k_dflt k_is
  case k8 => (try simp only [depth_under_make, depth_under_kw, depth_in1, depth_deeper, depth_caller] at *); simp only [recursionLimit] at *; omega
  case k9 => exact BindsTo.of_eq rfl
  case c2 => exact rfl
  case c3 => exact rfl
  case c4 => exact rfl
  case c5 => decide
  case kB => exact locs rfl
  intro g L1 h1 FG F1 N1 B1 X1 T1 CH1 l1
  dsimp only [List.reverse, List.reverseAux] at F1
  try dsimp only
  k_fold
  k_steps
  k_dflt (refine' Told.use B1 ?F X1 ?N T1 CH1 (hread ((dx, dictOf (lexd w ln fs pb a b c d e1 f) 4) :: rest) (fun q hq => List.mem_cons_of_mem _ hq) (List.forall_mem_cons.mpr ⟨hne, hn1⟩) k t _ e hk62) rfl rfl rfl ?hd ?hu ?_)
  case F => assumption
  case N => assumption
  case hd => simp only at *; omega
  case hu => simp only at *; omega
  rintro r h3 tk3 n3 F3 N3 ⟨⟨t3, e3, rfl⟩, t2, rfl⟩
  k_steps
  · rename_i hc _ _ _ _ _ _ _
    rw [if_pos ((nl_iff _).mp hc)] at hl
    subst hl
    exact hret _ _ _ _ (by assumption) (by assumption) ⟨⟨_, _, _, rfl⟩, _, rfl⟩
  · by_cases h10 : text[k]? = some 10
    · exact Bool.noConfusion (((nl_iff _).mpr h10).symm.trans (by assumption))
    · rw [if_neg h10] at hl
      subst hl
      exact hret _ _ _ _ (by assumption) (by assumption) ⟨⟨_, _, _, rfl⟩, _, rfl⟩

end Mine
end partFChar

/- the part FPush -/
section
open PySem PySem.W PySem.Calls PyProof.Rows PySem.Spec
namespace Mine
theorem fresh_FPush (prog : Program) (w : World) (A : Around) (env : Env) (s : Shared) (Q : Flow → Shared → Prop) (E : Value → Shared → Prop) (h : Q .next s) :
    wpAny (model prog w) A (execs [] env) Q E s := by
  w_top off
  walk1
  exact h
end Mine
end
section partFPush
open PySem PySem.W PySem.Calls PyProof.Rows PySem.Spec
set_option maxHeartbeats 1600000
namespace Mine
open K
theorem push_told (rest : List (Addr × Obj)) {x dx fs pb : Addr} (vs : List Value) (wd : Str) (tw : Tok) (ln : Int) (e : Nat) (a b c d e1 f : Tok)
    (hx : (x, instObj 66 dx) ∈ rest) (hdx : (dx, dictOf (lexd w ln fs pb a b c d e1 f) 4) ∈ rest) (hn1 : ∀ q ∈ rest, q.1 ≠ pb) (hv : vs.length ≤ 1000) :
    Told w p loose mean mg mb 1 (.ref 63) [.ref x, .str wd tw] ((pb, W.listOf vs.toArray e) :: rest)
      (fun r n' => n' = (pb, W.listOf (vs ++ [Value.str wd tw]).toArray (e + 1)) :: rest ∧ r = Value.none) := by
  unfold Told
  k_fill
  intro dp un gd env outer A₀ base h₀ L m s Q B F X N T CH hf hk hd hu hret
  k_dflt (refine' enterP (binds := [("self", .ref x), ("token", .str wd tw)]) ?k1 ?k2 ?k3 ?k4 ?k5 ?kc ?kA ?kF ?kK ?k6 ?k7 ?k8 ?k9 ?kB ?_ ?c2 ?c3 ?c4 ?c5)
  case kA => exact rfl
  case kF => assumption
  case kK => assumption
  case k1 => k_asm
  case k2 => k_asm
  case k3 => k_asm
  case k4 => k_asm
  case k5 => k_asm
  case kc => assumption
  case k6 => k_dflt k_is
  case k7 => k_dflt k_is
  case k8 => (try simp only [depth_under_make, depth_under_kw, depth_in1, depth_deeper, depth_caller] at *); simp only [recursionLimit] at *; omega
  case k9 => exact BindsTo.of_eq rfl
  case c2 => exact rfl
  case c3 => exact rfl
  case c4 => exact rfl
  case c5 => decide
  case kB => exact locs rfl
  intro g L1 h1 FG F1 N1 B1 X1 T1 CH1 l1
  dsimp only [List.reverse, List.reverseAux] at F1
  try dsimp only
  k_fold
  k_steps
  refine hret _ _ _ _ (by assumption) (by assumption) ⟨?_, rfl⟩
  rw [List.push_toArray]

end Mine
end partFPush

/- the part FNew -/
section
open PySem PySem.W PySem.Calls PyProof.Rows PySem.Spec
namespace Mine
theorem fresh_FNew (prog : Program) (w : World) (A : Around) (env : Env) (s : Shared) (Q : Flow → Shared → Prop) (E : Value → Shared → Prop) (h : Q .next s) :
    wpAny (model prog w) A (execs [] env) Q E s := by
  w_top off
  walk1
  exact h
end Mine
end
section partFNew
open PySem PySem.W PySem.Calls PyProof.Rows PySem.Spec
set_option maxHeartbeats 1600000
namespace Mine
open K
theorem new_told (rest : List (Addr × Obj)) (fs : Addr) :
    ToldW w p loose mean mg mb 2 (.ref 66) [.ref fs] rest
      (fun r n' => ∃ x dx pb a b c d e1 f, r = .ref x ∧ n' = (pb, W.listOf #[] 0) :: (x, instObj 66 dx) :: (dx, dictOf (lexd w 1 fs pb a b c d e1 f) 4) :: rest ∧ (∀ q ∈ rest, q.1 < dx) ∧ @LT.lt Nat _ dx x ∧ @LT.lt Nat _ x pb) := by
  unfold ToldW
  k_fill
  intro dp un gd env outer A₀ base h₀ L m s Q B F X N T CH hf hk hd hu hret
  k_dflt (refine' call_cls ?k1 ?k2 ?k3 ?k4 ?k5 ?k6 ?_)
  case k1 => k_asm
  case k2 => k_asm
  case k3 => k_asm
  case k4 => k_dflt k_is
  case k5 => k_dflt k_is
  case k6 => k_dflt k_is
  intro x dx h2 F2 N2 l1 l2
  have hdx : ∀ q ∈ rest, q.1 ≠ dx := fun q hq => Nat.ne_of_lt (l1 q hq)
  have hlx : ∀ q ∈ rest, q.1 < dx := l1
  have l2' : @LT.lt Nat _ dx x := l2
  clear l1 l2
  k_dflt (refine' enterP (binds := [("self", .ref x), ("fp", .ref fs)]) ?k1 ?k2 ?k3 ?k4 ?k5 ?kc ?kA ?kF ?kK ?k6 ?k7 ?k8 ?k9 ?kB ?_ ?c2 ?c3 ?c4 ?c5)
  case kA => exact rfl
  case kF => assumption
  case kK => assumption
  case k1 => k_asm
  case k2 => k_asm
  case k3 => k_asm
  case k4 => k_asm
  case k5 => k_asm
  case kc => assumption
  case k6 => k_dflt k_is
  case k7 => k_dflt k_is
  case k8 => (try simp only [depth_under_make, depth_under_kw, depth_in1, depth_deeper, depth_caller] at *); simp only [recursionLimit] at *; omega
  case k9 => exact BindsTo.of_eq rfl
  case c2 => exact rfl
  case c3 => exact rfl
  case c4 => exact rfl
  case c5 => decide
  case kB => exact locs rfl
  intro g L1 h1 FG F1 N1 B1 X1 T1 CH1 l1
  dsimp only [List.reverse, List.reverseAux] at F1
  try dsimp only
  k_fold
  k_steps
  rename_i hl _ _ _ _ _ _ _ _
  exact hret _ _ _ _ (by assumption) (by assumption) ⟨x, dx, _, _, _, _, _, _, _, rfl, rfl, hlx, l2', by omega⟩

end Mine
end partFNew

/- the part FPop -/
section
open PySem PySem.W PySem.Calls PyProof.Rows PySem.Spec
namespace Mine
theorem fresh_FPop (prog : Program) (w : World) (A : Around) (env : Env) (s : Shared) (Q : Flow → Shared → Prop) (E : Value → Shared → Prop) (h : Q .next s) :
    wpAny (model prog w) A (execs [] env) Q E s := by
  w_top off
  walk1
  exact h
end Mine
end
section partFPop
open PySem PySem.W PySem.Calls PyProof.Rows PySem.Spec
set_option maxHeartbeats 1600000
namespace Mine
open K
local macro_rules | `(tactic| walk_at "truthy ref") => `(tactic| (k_here; (with_reducible show wpAny _ _ (truthy (Value.ref _)) _ _ _); k_dflt (refine' kgr_truthy (vs := []) ?N ?m ?c ?z ?t ?_; (case N => k_asm); (case m => k_mem); (case c => exact rfl); (case z => exact rfl); (case t => simp); k_whole); (simp only [List.isEmpty_nil, Bool.not_true])))
local macro_rules | `(tactic| walk_at "call builtin:list.pop") => `(tactic| (k_here; k_dflt (refine' kl_popAt (k := 0) ?F ?N ?f ?k ?e ?U ?z ?_; (case F => k_asm); (case N => k_asm); (case U => k_upd); (case f => exact rfl); (case k => simp [seqIndex?]); (case e => exact rfl); (case z => (rw [sizeLine_eq]; simp; omega))); kl_rest))
theorem pop_told (rest : List (Addr × Obj)) {x dx fs pb : Addr} (wd : Str) (tw : Tok) (vs : List Value) (ln : Int) (e : Nat) (a b c d e1 f : Tok)
    (hx : (x, instObj 66 dx) ∈ rest) (hdx : (dx, dictOf (lexd w ln fs pb a b c d e1 f) 4) ∈ rest) (hn1 : ∀ q ∈ rest, q.1 ≠ pb) (hv : vs.length ≤ 1000) :
    Told w p loose mean mg mb 1 (.ref 56) [.ref x] ((pb, W.listOf (.str wd tw :: vs).toArray e) :: rest)
      (fun r n' => (∃ e', n' = (pb, W.listOf vs.toArray e') :: rest) ∧ r = .str wd tw) := by
  unfold Told
  k_fill
  intro dp un gd env outer A₀ base h₀ L m s Q B F X N T CH hf hk hd hu hret
  k_dflt (refine' enterP (binds := [("self", .ref x)]) ?k1 ?k2 ?k3 ?k4 ?k5 ?kc ?kA ?kF ?kK ?k6 ?k7 ?k8 ?k9 ?kB ?_ ?c2 ?c3 ?c4 ?c5)
  case kA => exact rfl
  case kF => assumption
  case kK => assumption
  case k1 => k_asm
  case k2 => k_asm
  case k3 => k_asm
  case k4 => k_asm
  case k5 => k_asm
  case kc => assumption
  case k6 => k_dflt k_is
  case k7 => k_dflt k_is
  case k8 => (try simp only [depth_under_make, depth_under_kw, depth_in1, depth_deeper, depth_caller] at *); simp only [recursionLimit] at *; omega
  case k9 => exact BindsTo.of_eq rfl
  case c2 => exact rfl
  case c3 => exact rfl
  case c4 => exact rfl
  case c5 => decide
  case kB => exact locs rfl
  intro g L1 h1 FG F1 N1 B1 X1 T1 CH1 l1
  dsimp only [List.reverse, List.reverseAux] at F1
  try dsimp only
  k_fold
  k_steps
  exact hret _ _ _ _ (by assumption) (by assumption) ⟨⟨_, rfl⟩, rfl⟩

end Mine
end partFPop

/- the part Lex -/
section
open PySem PySem.W PySem.Calls PyProof.Rows PySem.Spec
namespace Mine
theorem fresh_Lex (prog : Program) (w : World) (A : Around) (env : Env) (s : Shared) (Q : Flow → Shared → Prop) (E : Value → Shared → Prop) (h : Q .next s) :
    wpAny (model prog w) A (execs [] env) Q E s := by
  w_top off
  walk1
  exact h
end Mine
end
section partLex
open PySem PySem.W PySem.Calls PyProof.Rows PySem.Spec
set_option maxHeartbeats 1600000
namespace Mine
/-- the line ends among the first k signs -/
noncomputable def cnt (text : List Nat) (k : Nat) : Nat := (text.take k).count 10
theorem cnt_succ (text : List Nat) (k : Nat) : ((if text[k]? = some 10 then (1 + (cnt text k : Int)) + 1 else 1 + (cnt text k : Int)) : Int) = 1 + (cnt text (k + 1) : Int) := by
  unfold cnt
  by_cases h : k < text.length
  · rw [List.getElem?_eq_getElem h, List.take_succ, List.getElem?_eq_getElem h]
    simp only [Option.toList, List.count_append, Option.some.injEq]
    by_cases e : text[k] = 10
    · rw [e]; simp; omega
    · rw [if_neg e, List.count_singleton]; simp [e]
  · rw [List.getElem?_eq_none (by omega), if_neg (by simp), List.take_succ, List.getElem?_eq_none (by omega)]
    simp
noncomputable def isWs (c : Nat) : Bool := c == 10 || c == 9 || c == 13 || c == 32
/-- behind an opening quote: the token and how many signs are read -/
noncomputable def quo : List Nat → List Nat → Option (List Nat × Nat)
  | [], _ => none
  | c :: r, acc => if c = 34 then some (acc, 1) else if c = 92 then (match r with
      | [] => none
      | d :: r' => (quo r' (acc ++ [d])).map fun x => (x.1, x.2 + 2)) else (quo r (acc ++ [c])).map fun x => (x.1, x.2 + 1)
/-- within a bare word -/
noncomputable def bare : List Nat → List Nat → Option (List Nat × Nat)
  | [], acc => some (acc, 1)
  | c :: r, acc => if isWs c then some (acc, 1) else if c = 92 then (match r with
      | [] => none
      | d :: r' => (bare r' (acc ++ [d])).map fun x => (x.1, x.2 + 2)) else (bare r (acc ++ [c])).map fun x => (x.1, x.2 + 1)
/-- what get_token reads -/
noncomputable def lex : List Nat → Option (List Nat × Nat)
  | [] => some ([], 1)
  | c :: r => if isWs c then (lex r).map fun x => (x.1, x.2 + 1) else if c = 34 then (quo r []).map fun x => (x.1, x.2 + 1) else if c = 92 then (match r with
      | [] => none
      | d :: r' => (bare r' [d]).map fun x => (x.1, x.2 + 2)) else (bare r [c]).map fun x => (x.1, x.2 + 1)
theorem ws_iff (c : Nat) : (Builtin.Str.occurrences (Str.ofString "\n\t\x0d ") (S [c]) 0 (Str.ofString "\n\t\x0d ").length 1).isEmpty = !isWs c := by
  have h := StrLaws.found_one (Str.ofString "\n\t\x0d ") c
  have e : (Str.ofString "\n\t\x0d ").cps.toList = [10, 9, 13, 32] := by decide +kernel
  rw [e] at h
  have h2 : (Builtin.Str.occurrences (Str.ofString "\n\t\x0d ") (S [c]) 0 (Str.ofString "\n\t\x0d ").length 1).isEmpty = !(decide (c ∈ [10, 9, 13, 32])) := by rw [← h, Bool.not_not]
  rw [h2]
  unfold isWs
  congr 1
  rw [Bool.eq_iff_iff]
  simp [or_assoc]
theorem sg_eq (c d : Nat) : (S [c] == S [d]) = decide (c = d) := by
  rw [Bool.eq_iff_iff, decide_eq_true_eq]
  constructor
  · intro h
    have e2 : (S [c]).cps.toList = (S [d]).cps.toList := by rw [show S [c] = S [d] from eq_of_beq h]
    simpa using e2
  · rintro rfl; exact beq_self_eq_true _
theorem q_iff (c : Nat) : (S [c] == Str.ofString "\"") = decide (c = 34) := by rw [show Str.ofString "\"" = S [34] from by decide +kernel, sg_eq]
theorem b_iff (c : Nat) : (S [c] == Str.ofString "\\") = decide (c = 92) := by rw [show Str.ofString "\\" = S [92] from by decide +kernel, sg_eq]
theorem drop_some {l : List Nat} {k c : Nat} (h : l[k]? = some c) : l.drop k = c :: l.drop (k + 1) := by
  obtain ⟨hk, e⟩ := List.getElem?_eq_some_iff.mp h
  rw [List.drop_eq_getElem_cons hk, e]
theorem drop_none {l : List Nat} {k : Nat} (h : l[k]? = none) : l.drop k = [] := List.drop_eq_nil_of_le (List.getElem?_eq_none_iff.mp h)
theorem map_add {o : Option (List Nat × Nat)} {w : List Nat} {i j : Nat} (h : (o.map fun x => (x.1, x.2 + i)) = some (w, j)) : o = some (w, j - i) ∧ i ≤ j := by
  cases o with
  | none => cases h
  | some x => simp only [Option.map_some, Option.some.injEq, Prod.mk.injEq] at h; obtain ⟨h1, h2⟩ := h; exact ⟨by rw [← h1, ← h2, Nat.add_sub_cancel], by omega⟩
theorem quo_pos : ∀ {l acc : List Nat} {w j}, quo l acc = some (w, j) → 0 < j
  | [], _, _, _, h => by cases h
  | c :: r, acc, w, j, h => by
    unfold quo at h
    split at h
    · cases h; omega
    · split at h
      · split at h
        · cases h
        · have := (map_add h).2; omega
      · have := (map_add h).2; omega
theorem bare_pos : ∀ {l acc : List Nat} {w j}, bare l acc = some (w, j) → 0 < j
  | [], _, _, _, h => by cases h; omega
  | c :: r, acc, w, j, h => by
    unfold bare at h
    split at h
    · cases h; omega
    · split at h
      · split at h
        · cases h
        · have := (map_add h).2; omega
      · have := (map_add h).2; omega

end Mine
end partLex

/- the part FTok -/
section
open PySem PySem.W PySem.Calls PyProof.Rows PySem.Spec
namespace Mine
theorem fresh_FTok (prog : Program) (w : World) (A : Around) (env : Env) (s : Shared) (Q : Flow → Shared → Prop) (E : Value → Shared → Prop) (h : Q .next s) :
    wpAny (model prog w) A (execs [] env) Q E s := by
  w_top off
  walk1
  exact h
end Mine
end
section partFTok
open PySem PySem.W PySem.Calls PyProof.Rows PySem.Spec
set_option maxHeartbeats 1600000
namespace Mine
open K
theorem Strm.mono {rest rest' : List (Addr × Obj)} {fs la : Addr} {text : List Nat} (h : Strm w p loose mean mg mb rest fs text la) (hs : ∀ q ∈ rest, q ∈ rest') : Strm w p loose mean mg mb rest' fs text la := by
  obtain ⟨d, fr, tq, fd, fd', m1, m2, m3, hr⟩ := h.made
  exact ⟨d, fr, tq, fd, fd', hs _ m1, hs _ m2, hs _ m3, fun r hq hl => hr r (fun q h => hq q (hs q h)) hl⟩
theorem get49aux {K : Frag} {g : Heap} (X : K.In g) {oc : Value} {od : Option Addr} {fd : FuncData} {osl : Array (Option Value)} (h : K.lookup 49 = some ⟨oc, od, .func fd, osl⟩) : ∃ ob fd', g.get? 49 = some ob ∧ ob.data = .func fd' := ⟨_, _, X _ _ h, rfl⟩
theorem get49 {w : World} {g : Heap} (X : (_root_.Mine.hd.heap_1 w.params).In g) : ∃ ob fd, g.get? 49 = some ob ∧ ob.data = .func fd := by
  have h : PySem.Challenge.rw_kl0066_01 = PySem.Challenge.rw_kl0066_01 → (_root_.Mine.hd.heap_1 w.params).In g → ∃ ob fd, g.get? 49 = some ob ∧ ob.data = .func fd := by
    k_fill
    intro _ X
    k_dflt (refine' get49aux X ?h)
    case h => k_dflt k_is
  exact h rfl X
/-- where get_token stands: at sign k, with the signs of the token so far -/
inductive TSt (w : World) (text : List Nat) (g : Heap) (L1 x I la dx fs pb : Addr) (a c d e1 f : Tok) (rest : List (Addr × Obj)) (s0 : Shared) (ci : Obj) (k : Nat) (acc : List Nat) (s : Shared) : Prop
  | mk' (h : Heap) (tk : Nat) (mm : Str → Option Value) (tt t : Tok) (e : Nat) (b : Tok) : s = { s0 with heap := h, toks := tk } → Fr g L1 h mm → mm (Str.ofString "token") = some (.str (S acc) tt) → mm (Str.ofString "fiter") = some (.ref I) → mm (Str.ofString "self") = some (.ref x) →
    News g L1 h ((I, ci) :: (la, W.listOf #[.int k t] e) :: (dx, dictOf (lexd w (1 + cnt text k) fs pb a b c d e1 f) 4) :: rest) → TSt w text g L1 x I la dx fs pb a c d e1 f rest s0 ci k acc s
/-- the same, opened: its frame told -/
inductive TSo (w : World) (text : List Nat) (g : Heap) (L1 x I la dx fs pb : Addr) (a c d e1 f : Tok) (rest : List (Addr × Obj)) (s0 : Shared) (ci : Obj) (k : Nat) (acc : List Nat) (s : Shared) : Prop
  | mk (h : Heap) (tk : Nat) (mm : Str → Option Value) (tt t : Tok) (e : Nat) (b : Tok) : s = { s0 with heap := h, toks := tk } →
    Fr g L1 h (fun y => if y = Str.ofString "token" then some (.str (S acc) tt) else if y = Str.ofString "fiter" then some (.ref I) else if y = Str.ofString "self" then some (.ref x) else mm y) →
    News g L1 h ((I, ci) :: (la, W.listOf #[.int k t] e) :: (dx, dictOf (lexd w (1 + cnt text k) fs pb a b c d e1 f) 4) :: rest) → TSo w text g L1 x I la dx fs pb a c d e1 f rest s0 ci k acc s
section
variable {w : World} {text : List Nat} {g h : Heap} {L1 x I la dx fs pb : Addr} {a c d e1 f t b tk tt : Tok} {rest nn : List (Addr × Obj)} {s0 s : Shared} {ci : Obj} {k : Nat} {acc : List Nat} {mm : Str → Option Value} {e : Nat}
theorem TSt.mk (F : Fr g L1 h mm) (N : News g L1 h nn) (h1 : mm (Str.ofString "token") = some (.str (S acc) tt)) (h2 : mm (Str.ofString "fiter") = some (.ref I)) (h3 : mm (Str.ofString "self") = some (.ref x))
    (n1 : (I, ci) ∈ nn) (n2 : (la, W.listOf #[.int k t] e) ∈ nn) (n3 : (dx, dictOf (lexd w (1 + cnt text k) fs pb a b c d e1 f) 4) ∈ nn) (n4 : ∀ z ∈ rest, z ∈ nn) :
    TSt w text g L1 x I la dx fs pb a c d e1 f rest s0 ci k acc { heap := h, gens := s0.gens, drawn := s0.drawn, toks := tk, os := s0.os } :=
  .mk' h tk mm tt t e b rfl F h1 h2 h3 (news_of_sub N (sub_cons n1 (sub_cons n2 (sub_cons n3 n4))))
theorem TSt.open (st : TSt w text g L1 x I la dx fs pb a c d e1 f rest s0 ci k acc s) : TSo w text g L1 x I la dx fs pb a c d e1 f rest s0 ci k acc s := by
  obtain ⟨h, tk, mm, tt, t, e, b, rfl, F, h1, h2, h3, N⟩ := st
  exact ⟨h, tk, mm, tt, t, e, b, rfl, know3 F h1 h2 h3, N⟩
end
theorem TSt.next {text : List Nat} {g : Heap} {L1 x I q la dx fs pb : Addr} {te a c d e1 f : Tok} {rest : List (Addr × Obj)} {s0 s : Shared} {k : Nat} {acc : List Nat} {Q : Option Value → Shared → Prop} {E : Value → Shared → Prop}
    {A : Around} {dp un : Nat} {gd : Option (List Code)} {env : Env} {outer : List Env} {A₀ : Around} {base : Heap} (st : TSt w text g L1 x I la dx fs pb a c d e1 f rest s0 (ciObj q (Str.ofString "") te false) k acc s)
    (B : Below A₀ base outer g) (X : (_root_.Mine.hd.heap_1 w.params).In g) (T : Top p loose mean mg mb g) (C : CodeHd g 88 84)
    (hA : A = { handled := none, depth := dp, frames := some (env :: outer), guards := gd, units := un }) (hf : env.frame = some L1) (hk : env.scope.kind = .function) (hdp : dp + 3 < recursionLimit) (hu : un + 1 + 8 * 3 < cLine)
    (hx : (x, instObj 66 dx) ∈ rest) (hq : (q, methodObj (.ref 49) (.ref x)) ∈ rest) (hs : Strm w p loose mean mg mb rest fs text la) (hn1 : ∀ q ∈ rest, q.1 ≠ la) (hn2 : ∀ q ∈ rest, q.1 ≠ dx) (hnI : ∀ q ∈ rest, q.1 ≠ I)
    (hne : @Ne Nat dx la) (hI1 : @Ne Nat I la) (hI2 : @Ne Nat I dx) (hk62 : k + 1 < 2 ^ 62)
    (h1 : ∀ c' s' t2, text[k]? = some c' → TSt w text g L1 x I la dx fs pb a c d e1 f rest s0 (ciObj q (Str.ofString "") te false) (k + 1) acc s' → Q (some (.str (S [c']) t2)) s')
    (h2 : ∀ s', text[k]? = none → TSt w text g L1 x I la dx fs pb a c d e1 f rest s0 ciEnd (k + 1) acc s' → Q none s') : wpAny (model PySem.Challenge.rw_kl0066_01.row.prog w) A (pyNext (.ref I)) Q E s := by
  obtain ⟨h, tk, mm, tt, t, e, b, rfl, F, m1, m2, m3, N⟩ := st
  obtain ⟨ob, fd, o1, o2⟩ := get49 X
  have N' : News g L1 h ((la, W.listOf #[.int k t] e) :: (dx, dictOf (lexd w (1 + cnt text k) fs pb a b c d e1 f) 4) :: (I, ciObj q (Str.ofString "") te false) :: rest) := news_of_sub N (by repeat (first | with_reducible apply sub_nil | with_reducible apply sub_refl | with_reducible refine sub_cons (by with_reducible first | apply at0 | apply at1 | apply at2 | apply at3 | apply at4 | apply at5 | apply at6 | apply at7 | apply at8 | apply at9 | apply at10 | apply at11 | apply at12 | apply at13) ?_ | with_reducible refine sub_tail4 ?_ | with_reducible refine sub_tail ?_))
  refine ci_next (I := I) (q := q) (x := x) (f := 49) (by rw [hA]) F N (List.mem_cons_self ..) (by simp [hq]) o1 o2 ?_
  have hc := char_told ((I, ciObj q (Str.ofString "") te false) :: rest) text (x := x) (dx := dx) (la := la) (fs := fs) (pb := pb) k (1 + cnt text k) t e a b c d e1 f (List.mem_cons_of_mem _ hx) (hs.mono fun _ h => List.mem_cons_of_mem _ h)
    (List.forall_mem_cons.mpr ⟨hI1, hn1⟩) (List.forall_mem_cons.mpr ⟨hI2, hn2⟩) hne hk62
  rw [cnt_succ] at hc
  refine codeAny_mono (Told.useC (E := fun _ _ => False) (un := un + 1) B F X N' T C hc (by rw [hA]) hf hk hdp hu (m := mm)
    (Q := fun v s' => ∃ t2 h' tk' t' e' b', v = .str (S (text[k]?.toList)) t2 ∧ s' = { s0 with heap := h', toks := tk' } ∧ Fr g L1 h' mm ∧ News g L1 h' ((la, W.listOf #[.int (k + 1 : Nat) t'] e') :: (dx, dictOf (lexd w (1 + cnt text (k + 1)) fs pb a b' c d e1 f) 4) :: (I, ciObj q (Str.ofString "") te false) :: rest)) ?_) ?_
  · rintro r h' tk' n' F3 N3 ⟨⟨t', e', b', rfl⟩, t2, rfl⟩
    exact ⟨_, _, _, _, _, _, rfl, rfl, F3, N3⟩
  · intro r s' x
    rcases r with e | fl
    · exact x.elim
    rcases fl with _ | _ | _ | v
    · exact x.elim
    · exact x.elim
    · exact x.elim
    obtain ⟨t2, h', tk', t', e', b', rfl, rfl, F3, N3⟩ := x
    refine ⟨_, _, (la, W.listOf #[.int (k + 1 : Nat) t'] e') :: (dx, dictOf (lexd w (1 + cnt text (k + 1)) fs pb a b' c d e1 f) 4) :: rest, rfl, F3, ?_, ?_, by simp [hq], ?_, ?_⟩
    · exact news_of_sub N3 (by repeat (first | with_reducible apply sub_nil | with_reducible apply sub_refl | with_reducible refine sub_cons (by with_reducible first | apply at0 | apply at1 | apply at2 | apply at3 | apply at4 | apply at5 | apply at6 | apply at7 | apply at8 | apply at9 | apply at10 | apply at11 | apply at12 | apply at13) ?_ | with_reducible refine sub_tail4 ?_ | with_reducible refine sub_tail ?_))
    · exact List.forall_mem_cons.mpr ⟨fun h => hI1 h.symm, List.forall_mem_cons.mpr ⟨fun h => hI2 h.symm, hnI⟩⟩
    · intro ho
      cases hc' : text[k]? with
      | none => rw [hc'] at ho; exact absurd (by decide +kernel) ho
      | some c' =>
        refine h1 c' _ t2 hc' ?_
        refine ⟨h', tk', mm, tt, t', e', b', rfl, F3, m1, m2, m3, news_of_sub N3 (by repeat (first | with_reducible apply sub_nil | with_reducible apply sub_refl | with_reducible refine sub_cons (by with_reducible first | apply at0 | apply at1 | apply at2 | apply at3 | apply at4 | apply at5 | apply at6 | apply at7 | apply at8 | apply at9 | apply at10 | apply at11 | apply at12 | apply at13) ?_ | with_reducible refine sub_tail4 ?_ | with_reducible refine sub_tail ?_))⟩
    · intro ho h'' F4 N4
      cases hc' : text[k]? with
      | none => exact h2 _ hc' ⟨h'', tk', mm, tt, t', e', b', rfl, F4, m1, m2, m3, N4⟩
      | some c' =>
        rw [hc'] at ho
        have e2 : (S [c']).cps.toList = (Str.ofString "").cps.toList := by rw [show S [c'] = Str.ofString "" from ho]
        have e3 : (Str.ofString "").cps.toList = [] := by decide +kernel
        rw [e3] at e2
        simp at e2
theorem TSt.readc {text : List Nat} {g : Heap} {L1 x I la dx fs pb : Addr} {a c d e1 f : Tok} {rest : List (Addr × Obj)} {s0 s : Shared} {ci : Obj} {k : Nat} {acc : List Nat} {Q : Value → Shared → Prop} {E : Value → Shared → Prop}
    {A : Around} {dp un : Nat} {gd : Option (List Code)} {env : Env} {outer : List Env} {A₀ : Around} {base : Heap} (st : TSt w text g L1 x I la dx fs pb a c d e1 f rest s0 ci k acc s)
    (B : Below A₀ base outer g) (X : (_root_.Mine.hd.heap_1 w.params).In g) (T : Top p loose mean mg mb g) (C : CodeHd g 88 84)
    (hA : A = { handled := none, depth := dp, frames := some (env :: outer), guards := gd, units := un }) (hf : env.frame = some L1) (hk : env.scope.kind = .function) (hdp : dp + 3 < recursionLimit) (hu : un + 8 * 3 < cLine)
    (hx : (x, instObj 66 dx) ∈ rest) (hs : Strm w p loose mean mg mb rest fs text la) (hn1 : ∀ q ∈ rest, q.1 ≠ la) (hn2 : ∀ q ∈ rest, q.1 ≠ dx)
    (hne : @Ne Nat dx la) (hI1 : @Ne Nat I la) (hI2 : @Ne Nat I dx) (hk62 : k + 1 < 2 ^ 62)
    (h1 : ∀ s' t2, TSt w text g L1 x I la dx fs pb a c d e1 f rest s0 ci (k + 1) acc s' → Q (.str (S (text[k]?.toList)) t2) s') : wpAny (model PySem.Challenge.rw_kl0066_01.row.prog w) A (call (.ref 49) [.ref x]) Q E s := by
  obtain ⟨h, tk, mm, tt, t, e, b, rfl, F, m1, m2, m3, N⟩ := st
  have N' : News g L1 h ((la, W.listOf #[.int k t] e) :: (dx, dictOf (lexd w (1 + cnt text k) fs pb a b c d e1 f) 4) :: (I, ci) :: rest) := news_of_sub N (by repeat (first | with_reducible apply sub_nil | with_reducible apply sub_refl | with_reducible refine sub_cons (by with_reducible first | apply at0 | apply at1 | apply at2 | apply at3 | apply at4 | apply at5 | apply at6 | apply at7 | apply at8 | apply at9 | apply at10 | apply at11 | apply at12 | apply at13) ?_ | with_reducible refine sub_tail4 ?_ | with_reducible refine sub_tail ?_))
  have hc := char_told ((I, ci) :: rest) text (x := x) (dx := dx) (la := la) (fs := fs) (pb := pb) k (1 + cnt text k) t e a b c d e1 f (List.mem_cons_of_mem _ hx) (hs.mono fun _ h => List.mem_cons_of_mem _ h)
    (List.forall_mem_cons.mpr ⟨hI1, hn1⟩) (List.forall_mem_cons.mpr ⟨hI2, hn2⟩) hne hk62
  rw [cnt_succ] at hc
  refine Told.use B F X N' T C hc hA hf hk hdp hu ?_
  rintro r h' tk' n' F3 N3 ⟨⟨t', e', b', rfl⟩, t2, rfl⟩
  refine h1 _ t2 ⟨h', tk', mm, tt, t', e', b', rfl, F3, m1, m2, m3, news_of_sub N3 (by repeat (first | with_reducible apply sub_nil | with_reducible apply sub_refl | with_reducible refine sub_cons (by with_reducible first | apply at0 | apply at1 | apply at2 | apply at3 | apply at4 | apply at5 | apply at6 | apply at7 | apply at8 | apply at9 | apply at10 | apply at11 | apply at12 | apply at13) ?_ | with_reducible refine sub_tail4 ?_ | with_reducible refine sub_tail ?_))⟩

end Mine
end partFTok

/- the part FTok2 -/
section
open PySem PySem.W PySem.Calls PyProof.Rows PySem.Spec
namespace Mine
theorem fresh_FTok2 (prog : Program) (w : World) (A : Around) (env : Env) (s : Shared) (Q : Flow → Shared → Prop) (E : Value → Shared → Prop) (h : Q .next s) :
    wpAny (model prog w) A (execs [] env) Q E s := by
  w_top off
  walk1
  exact h
end Mine
end
section partFTok2
open PySem PySem.W PySem.Calls PyProof.Rows PySem.Spec
set_option maxHeartbeats 1600000
namespace Mine
open K (w p loose mean mg mb)
local macro_rules | `(tactic| walk_at "truthy ref") => `(tactic| (k_here; (with_reducible show wpAny _ _ (truthy (Value.ref _)) _ _ _); k_dflt (refine' kgr_truthy (vs := []) ?N ?m ?c ?z ?t ?_; (case N => k_asm); (case m => k_mem); (case c => exact rfl); (case z => exact rfl); (case t => simp); k_whole); (simp only [List.isEmpty_nil, Bool.not_true])))
local macro_rules | `(tactic| walk_at "call builtin:iter") => `(tactic| (k_here; k_dflt (refine' ci_iter ?F ?N ?m ?_; (case F => k_asm); (case N => k_asm); (case m => k_mem); k_whole); intro I' h' F' N' l1'; k_lt l1'))
local macro_rules | `(tactic| walk_at "pyIter ref") => `(tactic| (k_here; k_dflt (refine' ci_pyIter ?N ?m ?_; (case N => k_asm); (case m => k_mem); k_whole)))
/-- the loop's state: within the blanks ahead of a token; or through -/
inductive TO (I1 I2 : Nat → List Nat → Shared → Prop) (text wd : List Nat) (k n : Nat) (j : Nat) (s' : Shared) : Prop
  | on (k' : Nat) : I1 k' [] s' → lex (text.drop k') = some (wd, j - 1) → 0 < j → k' + j = k + n + 1 → TO I1 I2 text wd k n j s'
  | off : j = 0 → I2 (k + n) wd s' → TO I1 I2 text wd k n j s'
/-- within a token: the reader f has j' signs to go -/
inductive TI (I1 : Nat → List Nat → Shared → Prop) (f : List Nat → List Nat → Option (List Nat × Nat)) (text wd : List Nat) (M : Nat) (j' : Nat) (s' : Shared) : Prop
  | mk (k2 : Nat) (acc : List Nat) : I1 k2 acc s' → f (text.drop k2) acc = some (wd, j') → k2 + j' = M → acc.length ≤ k2 → TI I1 f text wd M j' s'
namespace Sk_tok_told
noncomputable abbrev zP : Type := (List (Addr × Obj)) × (List Nat) × (Addr) × (Addr) × (Addr) × (Addr) × (Addr) × (Nat) × (Tok) × (Nat) × (Nat) × (Tok) × (Tok) × (Tok) × (Tok) × (Tok) × (Tok) × (List Nat) × (Nat)
noncomputable def zG : zP × CV → Prop := fun ((rest, text, x, dx, la, fs, pb, k, t, e, e2, a, b, c, d, e1, f, wd, n), cvx) => ∀ _ : (x, instObj 66 dx) ∈ rest, ∀ _ : Strm w p loose mean mg mb rest fs text la, ∀ _ : (pb, W.listOf #[] e2) ∈ rest, ∀ _ : ∀ q ∈ rest, q.1 ≠ la, ∀ _ : ∀ q ∈ rest, q.1 ≠ dx, ∀ _ : @Ne Nat dx la, ∀ _ : k + n ≤ 100000, ∀ _ : lex (text.drop k) = some (wd, n),
  ToldAt w p loose mean mg mb 4 (.ref 56) ([.ref x]) ((la, W.listOf #[.int k t] e) :: (dx, dictOf (lexd w (1 + cnt text k) fs pb a b c d e1 f) 4) :: rest) (fun r n' => ∃ t2 t' e' b', r = .str (S wd) t2 ∧ n' = (la, W.listOf #[.int (k + n : Nat) t'] e') :: (dx, dictOf (lexd w (1 + cnt text (k + n)) fs pb a b' c d e1 f) 4) :: rest) cvx
theorem zne : Nonempty (zP × CV) := ⟨(([], [], 0, 0, 0, 0, 0, 0, 0, 0, 0, 0, 0, 0, 0, 0, 0, [], 0), cv0)⟩
noncomputable def zv : zP × CV := @Classical.epsilon _ zne fun c => ¬ zG c
theorem zall (h : zG zv) (c : zP × CV) : zG c := Classical.byContradiction fun hx => @Classical.epsilon_spec _ (fun c => ¬ zG c) ⟨c, hx⟩ h
namespace K
@[irreducible] noncomputable def rest : List (Addr × Obj) := zv.1.1
@[irreducible] noncomputable def text : List Nat := zv.1.2.1
@[irreducible] noncomputable def x : Addr := zv.1.2.2.1
@[irreducible] noncomputable def dx : Addr := zv.1.2.2.2.1
@[irreducible] noncomputable def la : Addr := zv.1.2.2.2.2.1
@[irreducible] noncomputable def fs : Addr := zv.1.2.2.2.2.2.1
@[irreducible] noncomputable def pb : Addr := zv.1.2.2.2.2.2.2.1
@[irreducible] noncomputable def k : Nat := zv.1.2.2.2.2.2.2.2.1
@[irreducible] noncomputable def t : Tok := zv.1.2.2.2.2.2.2.2.2.1
@[irreducible] noncomputable def e : Nat := zv.1.2.2.2.2.2.2.2.2.2.1
@[irreducible] noncomputable def e2 : Nat := zv.1.2.2.2.2.2.2.2.2.2.2.1
@[irreducible] noncomputable def a : Tok := zv.1.2.2.2.2.2.2.2.2.2.2.2.1
@[irreducible] noncomputable def b : Tok := zv.1.2.2.2.2.2.2.2.2.2.2.2.2.1
@[irreducible] noncomputable def c : Tok := zv.1.2.2.2.2.2.2.2.2.2.2.2.2.2.1
@[irreducible] noncomputable def d : Tok := zv.1.2.2.2.2.2.2.2.2.2.2.2.2.2.2.1
@[irreducible] noncomputable def e1 : Tok := zv.1.2.2.2.2.2.2.2.2.2.2.2.2.2.2.2.1
@[irreducible] noncomputable def f : Tok := zv.1.2.2.2.2.2.2.2.2.2.2.2.2.2.2.2.2.1
@[irreducible] noncomputable def wd : List Nat := zv.1.2.2.2.2.2.2.2.2.2.2.2.2.2.2.2.2.2.1
@[irreducible] noncomputable def n : Nat := zv.1.2.2.2.2.2.2.2.2.2.2.2.2.2.2.2.2.2.2
@[irreducible] noncomputable def dp : Nat := zv.2.1
@[irreducible] noncomputable def un : Nat := zv.2.2.1
@[irreducible] noncomputable def gd : Option (List Code) := zv.2.2.2.1
@[irreducible] noncomputable def env : Env := zv.2.2.2.2.1
@[irreducible] noncomputable def outer : List Env := zv.2.2.2.2.2.1
@[irreducible] noncomputable def A₀ : Around := zv.2.2.2.2.2.2.1
@[irreducible] noncomputable def base : Heap := zv.2.2.2.2.2.2.2.1
@[irreducible] noncomputable def h₀ : Heap := zv.2.2.2.2.2.2.2.2.1
@[irreducible] noncomputable def L : Addr := zv.2.2.2.2.2.2.2.2.2.1
@[irreducible] noncomputable def m : Str → Option Value := zv.2.2.2.2.2.2.2.2.2.2.1
@[irreducible] noncomputable def s : Shared := zv.2.2.2.2.2.2.2.2.2.2.2.1
@[irreducible] noncomputable def Q : Value → Shared → Prop := zv.2.2.2.2.2.2.2.2.2.2.2.2
end K
end Sk_tok_told
section
open Sk_tok_told.K
theorem Sk_tok_told.zeq : ((Sk_tok_told.K.rest, Sk_tok_told.K.text, Sk_tok_told.K.x, Sk_tok_told.K.dx, Sk_tok_told.K.la, Sk_tok_told.K.fs, Sk_tok_told.K.pb, Sk_tok_told.K.k, Sk_tok_told.K.t, Sk_tok_told.K.e, Sk_tok_told.K.e2, Sk_tok_told.K.a, Sk_tok_told.K.b, Sk_tok_told.K.c, Sk_tok_told.K.d, Sk_tok_told.K.e1, Sk_tok_told.K.f, Sk_tok_told.K.wd, Sk_tok_told.K.n), (Sk_tok_told.K.dp, Sk_tok_told.K.un, Sk_tok_told.K.gd, Sk_tok_told.K.env, Sk_tok_told.K.outer, Sk_tok_told.K.A₀, Sk_tok_told.K.base, Sk_tok_told.K.h₀, Sk_tok_told.K.L, Sk_tok_told.K.m, Sk_tok_told.K.s, Sk_tok_told.K.Q)) = Sk_tok_told.zv := by with_unfolding_all rfl
noncomputable def Sk_tok_told.zpb : { zPP : Heap → Addr → Heap → Prop // ∀ (hx : (x, instObj 66 dx) ∈ rest) (hs : Strm w p loose mean mg mb rest fs text la) (hpb : (pb, W.listOf #[] e2) ∈ rest) (hn1 : ∀ q ∈ rest, q.1 ≠ la) (hn2 : ∀ q ∈ rest, q.1 ≠ dx) (hne : @Ne Nat dx la) (hk62 : k + n ≤ 100000) (hlex : lex (text.drop k) = some (wd, n)) (B : Below A₀ base outer h₀) (F : Fr h₀ L s.heap m) (X : (_root_.Mine.hd.heap_1 w.params).In h₀) (N : News h₀ L s.heap ((la, W.listOf #[.int k t] e) :: (dx, dictOf (lexd w (1 + cnt text k) fs pb a b c d e1 f) 4) :: rest)) (T : Top p loose mean mg mb h₀) (CH : CodeHd h₀ 88 84) (hf : env.frame = some L) (hk : env.scope.kind = .function) (hd : dp + 4 < recursionLimit) (hu : un + 8 * 4 < cLine)
    (hret : ∀ r h' tk' news', Fr h₀ L h' m → News h₀ L h' news' → (fun r n' => ∃ t2 t' e' b', r = .str (S wd) t2 ∧ n' = (la, W.listOf #[.int (k + n : Nat) t'] e') :: (dx, dictOf (lexd w (1 + cnt text (k + n)) fs pb a b' c d e1 f) 4) :: rest) r news' → Q r { heap := h', gens := s.gens, drawn := s.drawn, toks := tk', os := s.os }), (∀ g L1 h1, zPP g L1 h1) → codeAny (model PySem.Challenge.rw_kl0066_01.row.prog w) { handled := none, depth := dp, frames := some (env :: outer), guards := gd, units := un } (.call (.ref 56) ⟨[.ref x], []⟩) (fun r s' => match r with | .ok (.ret v) => Q v s' | .ok _ => False | .error e => (fun _ _ => False) e s') s } := by
  refine' ⟨_, ?h⟩
  case h =>
    intro hx hs hpb hn1 hn2 hne hk62 hlex B F X N T CH hf hk hd hu hret
    revert X
    k_fill
    intro X HH
    k_dflt (refine' enterP (binds := [("self", .ref x)]) ?k1 ?k2 ?k3 ?k4 ?k5 ?kc ?kA ?kF ?kK ?k6 ?k7 ?k8 ?k9 ?kB ?_ ?c2 ?c3 ?c4 ?c5)
    case kA => exact rfl
    case kF => assumption
    case kK => assumption
    case k1 => k_asm
    case k2 => k_asm
    case k3 => k_asm
    case k4 => k_asm
    case k5 => k_asm
    case kc => assumption
    case k6 => k_dflt k_is
    case k7 => k_dflt k_is
    case k8 => (try simp only [depth_under_make, depth_under_kw, depth_in1, depth_deeper, depth_caller] at *); simp only [recursionLimit] at *; omega
    case k9 => exact BindsTo.of_eq rfl
    case c2 => exact rfl
    case c3 => exact rfl
    case c4 => exact rfl
    case c5 => decide
    case kB => exact locs rfl
    intro g L1 h1
    revert hx hs hpb hn1 hn2 hne hk62 hlex hd hu hret X
    exact HH g L1 h1
noncomputable def Sk_tok_told.zv2 : Heap × Addr × Heap := @Classical.epsilon _ ⟨(default, 0, default)⟩ fun c => ¬ Sk_tok_told.zpb.1 c.1 c.2.1 c.2.2
theorem Sk_tok_told.zall2 (h : Sk_tok_told.zpb.1 Sk_tok_told.zv2.1 Sk_tok_told.zv2.2.1 Sk_tok_told.zv2.2.2) (g : Heap) (L1 : Addr) (h1 : Heap) : Sk_tok_told.zpb.1 g L1 h1 := Classical.byContradiction fun hx => @Classical.epsilon_spec _ (fun c : Heap × Addr × Heap => ¬ Sk_tok_told.zpb.1 c.1 c.2.1 c.2.2) ⟨(g, L1, h1), hx⟩ h
namespace Sk_tok_told.K
@[irreducible] noncomputable def g : Heap := zv2.1
@[irreducible] noncomputable def L1 : Addr := zv2.2.1
@[irreducible] noncomputable def h1 : Heap := zv2.2.2
end Sk_tok_told.K
noncomputable def Sk_tok_told.K.qk : Flow → Shared → Prop := fun fl s' => LeaveK h₀ L m g (fun r s' => match r with | .ok (.ret v) => Q v s' | .ok _ => False | .error e => (fun _ _ => False) e s') (match fl with | .ret v => v | _ => .none) s'
local macro_rules | `(tactic| k_unfold) => `(tactic| ((with_reducible show Sk_tok_told.K.qk _ _); unfold Sk_tok_told.K.qk))
theorem Sk_tok_told.zbody : Sk_tok_told.zpb.1 g L1 h1 := by
  unfold Sk_tok_told.zpb
  dsimp only
  intro hx hs hpb hn1 hn2 hne hk62 hlex hd hu hret X FG F1 N1 B1 X1 T1 CH1 l1
  dsimp only [List.reverse, List.reverseAux] at F1
  try dsimp only
  change wpAny _ _ _ qk _ _
  have hret' : ∀ (h' : Heap) (tk' t2 t' : Tok) (e' : Nat) (b' : Tok) (nn : List (Addr × Obj)), Fr h₀ L h' m → News h₀ L h' nn → (la, W.listOf #[.int (k + n : Nat) t'] e') ∈ nn → (dx, dictOf (lexd w (1 + cnt text (k + n)) fs pb a b' c d e1 f) 4) ∈ nn → (∀ z ∈ rest, z ∈ nn) →
      Q (.str (S wd) t2) { heap := h', gens := s.gens, drawn := s.drawn, toks := tk', os := s.os } := fun h' tk' t2 t' e' b' nn F' N' n1 n2 n3 =>
    hret _ h' tk' ((la, W.listOf #[.int (k + n : Nat) t'] e') :: (dx, dictOf (lexd w (1 + cnt text (k + n)) fs pb a b' c d e1 f) 4) :: rest) F' (fun z hz => N' z (by
      rcases List.mem_cons.mp hz with rfl | hz
      · exact n1
      · rcases List.mem_cons.mp hz with rfl | hz
        · exact n2
        · exact n3 z hz)) ⟨t2, t', e', b', rfl, rfl⟩
  clear hret
  k_steps
  rename_i tk0 ha q hb lq I hc lI h3 F3 N3
  refine wpAny_For ?_
  k_steps
  refine forLoopS (TO (TSt w text g L1 x I la dx fs pb a c d e1 f ((q, methodObj (.ref 49) (.ref x)) :: rest) s (ciObj q (Str.ofString "") (tk0 + 1 + 1 + 1) false)) (TSt w text g L1 x I la dx fs pb a c d e1 f ((q, methodObj (.ref 49) (.ref x)) :: rest) s ciEnd) text wd k n) ?turn (n + 1) ?h0
  case h0 =>
    refine .on k ?_ hlex (by omega) (by omega)
    refine' TSt.mk ?sF ?sN ?s1 ?s2 ?s3 ?n1 ?n2 ?n3 ?n4
    case sF => assumption
    case sN => assumption
    case s1 => exact rfl
    case s2 => exact rfl
    case s3 => exact rfl
    case n1 => (with_reducible first | exact at0 | exact at1 | exact at2 | exact at3 | exact at4 | exact at5 | exact at6 | exact at7 | exact at8 | exact at9 | exact at10 | exact at11 | exact at12 | exact at13)
    case n2 => (with_reducible first | exact at0 | exact at1 | exact at2 | exact at3 | exact at4 | exact at5 | exact at6 | exact at7 | exact at8 | exact at9 | exact at10 | exact at11 | exact at12 | exact at13)
    case n3 => (with_reducible first | exact at0 | exact at1 | exact at2 | exact at3 | exact at4 | exact at5 | exact at6 | exact at7 | exact at8 | exact at9 | exact at10 | exact at11 | exact at12 | exact at13)
    case n4 => exact (by repeat (first | with_reducible apply sub_nil | with_reducible apply sub_refl | with_reducible refine sub_cons (by with_reducible first | apply at0 | apply at1 | apply at2 | apply at3 | apply at4 | apply at5 | apply at6 | apply at7 | apply at8 | apply at9 | apply at10 | apply at11 | apply at12 | apply at13) ?_ | with_reducible refine sub_tail4 ?_ | with_reducible refine sub_tail ?_))
  case turn =>
    have hx' : (x, instObj 66 dx) ∈ (q, methodObj (.ref 49) (.ref x)) :: rest := List.mem_cons_of_mem _ hx
    have hq' : (q, methodObj (.ref 49) (.ref x)) ∈ (q, methodObj (.ref 49) (.ref x)) :: rest := List.mem_cons_self ..
    have hs' := hs.mono (rest' := (q, methodObj (.ref 49) (.ref x)) :: rest) fun z hz => List.mem_cons_of_mem _ hz
    have hn1' : ∀ z ∈ (q, methodObj (.ref 49) (.ref x)) :: rest, z.1 ≠ la := List.forall_mem_cons.mpr ⟨by show @Ne Nat _ _; have := lq.1; omega, hn1⟩
    have hn2' : ∀ z ∈ (q, methodObj (.ref 49) (.ref x)) :: rest, z.1 ≠ dx := List.forall_mem_cons.mpr ⟨by show @Ne Nat _ _; have := lq.2.1; omega, hn2⟩
    have hnI : ∀ z ∈ (q, methodObj (.ref 49) (.ref x)) :: rest, z.1 ≠ I := List.forall_mem_cons.mpr ⟨by show @Ne Nat _ _; have := lI.1; omega, fun z hz => by have := ktn_ltOf lI.2.2.2 z hz; exact Nat.ne_of_lt this⟩
    have hI1 : @Ne Nat I la := by have := lI.2.1; omega
    have hI2 : @Ne Nat I dx := by have := lI.2.2.1; omega
    rintro j s1 (⟨k', st, hl, hj, hkn⟩ | ⟨rfl, st⟩)
    · refine' TSt.next st B1 X1 T1 CH1 ?kA0 ?kf0 ?kk0 ?kd0 ?ku0 hx' hq' hs' hn1' hn2' hnI hne hI1 hI2 ?kz0 ?here0 ?gone0
      case kA0 => exact rfl
      case kf0 => exact rfl
      case kk0 => exact rfl
      case kd0 => (simp only at *; omega)
      case ku0 => (simp only at *; omega)
      case kz0 => omega
      case here0 =>
        intro ch s2 t2 hch st2
        rw [drop_some hch] at hl
        unfold lex at hl
        obtain ⟨h5, tk5, mm5, tt5, t5, e5, b5, rfl, F5, N5⟩ := st2.open
        clear st2
        k_steps
        · rename_i ha1 _ hb1
          rw [ws_iff] at ha1
          rw [q_iff] at hb1
          rw [if_neg (by simpa using ha1), if_pos (by simpa using hb1)] at hl
          obtain ⟨hl2, hle⟩ := map_add hl
          have hlp := quo_pos hl2
          refine wpAny_For ?_
          k_steps
          refine forLoopS (TI (TSt w text g L1 x I la dx fs pb a c d e1 f ((q, methodObj (.ref 49) (.ref x)) :: rest) s (ciObj q (Str.ofString "") (tk0 + 1 + 1 + 1) false)) quo text wd (k + n)) ?qturnu1 (j - 1 - 1) ?qh0u1
          case qh0u1 =>
            refine ⟨k' + 1, [], ?_, by assumption, by omega, by simp⟩
            refine' TSt.mk ?sFu2 ?sNu2 ?s1u2 ?s2u2 ?s3u2 ?n1u2 ?n2u2 ?n3u2 ?n4u2
            case sFu2 => assumption
            case sNu2 => assumption
            case s1u2 => exact rfl
            case s2u2 => exact rfl
            case s3u2 => exact rfl
            case n1u2 => (with_reducible first | exact at0 | exact at1 | exact at2 | exact at3 | exact at4 | exact at5 | exact at6 | exact at7 | exact at8 | exact at9 | exact at10 | exact at11 | exact at12 | exact at13)
            case n2u2 => (with_reducible first | exact at0 | exact at1 | exact at2 | exact at3 | exact at4 | exact at5 | exact at6 | exact at7 | exact at8 | exact at9 | exact at10 | exact at11 | exact at12 | exact at13)
            case n3u2 => (with_reducible first | exact at0 | exact at1 | exact at2 | exact at3 | exact at4 | exact at5 | exact at6 | exact at7 | exact at8 | exact at9 | exact at10 | exact at11 | exact at12 | exact at13)
            case n4u2 => exact (by repeat (first | with_reducible apply sub_nil | with_reducible apply sub_refl | with_reducible refine sub_cons (by with_reducible first | apply at0 | apply at1 | apply at2 | apply at3 | apply at4 | apply at5 | apply at6 | apply at7 | apply at8 | apply at9 | apply at10 | apply at11 | apply at12 | apply at13) ?_ | with_reducible refine sub_tail4 ?_ | with_reducible refine sub_tail ?_))
          case qturnu1 =>
            rintro j4 s4 ⟨k4, acc, st4, hl4, hkn4, hac⟩
            refine' TSt.next st4 B1 X1 T1 CH1 ?kA4u1 ?kf4u1 ?kk4u1 ?kd4u1 ?ku4u1 hx' hq' hs' hn1' hn2' hnI hne hI1 hI2 ?kz4u1 ?here4u1 ?gone4u1
            case kA4u1 => exact rfl
            case kf4u1 => exact rfl
            case kk4u1 => exact rfl
            case kd4u1 => (simp only at *; omega)
            case ku4u1 => (simp only at *; omega)
            case kz4u1 => omega
            case gone4u1 =>
              intro s6 hno
              rw [drop_none hno] at hl4
              cases hl4
            case here4u1 =>
              intro ch4 s6 t6 hch4 st6
              rw [drop_some hch4] at hl4
              unfold quo at hl4
              obtain ⟨h6, tk6, mm6, tt6, t66, e6, b6, rfl, F6, N6⟩ := st6.open
              clear st6
              k_steps
              · have ha4 := ‹(S [ch4] == Str.ofString "\"") = true›
                rw [q_iff] at ha4
                rw [if_pos (by simpa using ha4)] at hl4
                cases hl4
                rw [← hkn4] at hret'
                refine' hret' _ _ _ _ _ _ _ ?dFu3 ?dNu3 ?n2u3 ?n3u3 ?n4u3
                case dFu3 => assumption
                case dNu3 => assumption
                case n2u3 => (with_reducible first | exact at0 | exact at1 | exact at2 | exact at3 | exact at4 | exact at5 | exact at6 | exact at7 | exact at8 | exact at9 | exact at10 | exact at11 | exact at12 | exact at13)
                case n3u3 => (with_reducible first | exact at0 | exact at1 | exact at2 | exact at3 | exact at4 | exact at5 | exact at6 | exact at7 | exact at8 | exact at9 | exact at10 | exact at11 | exact at12 | exact at13)
                case n4u3 => exact (by repeat (first | with_reducible apply sub_nil | with_reducible apply sub_refl | with_reducible refine sub_cons (by with_reducible first | apply at0 | apply at1 | apply at2 | apply at3 | apply at4 | apply at5 | apply at6 | apply at7 | apply at8 | apply at9 | apply at10 | apply at11 | apply at12 | apply at13) ?_ | with_reducible refine sub_tail4 ?_ | with_reducible refine sub_tail ?_))
              · have ha4 := ‹(S [ch4] == Str.ofString "\"") = false›
                have hb4 := ‹(S [ch4] == Str.ofString "\\") = true›
                rw [q_iff] at ha4
                rw [b_iff] at hb4
                rw [if_neg (by simpa using ha4), if_pos (by simpa using hb4)] at hl4
                show wpAny _ _ (call (.ref 49) [.ref x]) _ _ _
                refine' TSt.readc (ci := ciObj q (Str.ofString "") (tk0 + 1 + 1 + 1) false) (k := k4 + 1) (acc := acc) (I := I) ?rstu4 B1 X1 T1 CH1 ?kA5u1 ?kf5u1 ?kk5u1 ?kd5u1 ?ku5u1 hx' hs' hn1' hn2' hne hI1 hI2 ?kz5u1 ?got5u1
                case kA5u1 => exact rfl
                case kf5u1 => exact rfl
                case kk5u1 => exact rfl
                case kd5u1 => (simp only at *; omega)
                case ku5u1 => (simp only at *; omega)
                case kz5u1 => omega
                case rstu4 => refine' TSt.mk ?sFu5 ?sNu5 ?s1u5 ?s2u5 ?s3u5 ?n1u5 ?n2u5 ?n3u5 ?n4u5
                              case sFu5 => assumption
                              case sNu5 => assumption
                              case s1u5 => exact rfl
                              case s2u5 => exact rfl
                              case s3u5 => exact rfl
                              case n1u5 => (with_reducible first | exact at0 | exact at1 | exact at2 | exact at3 | exact at4 | exact at5 | exact at6 | exact at7 | exact at8 | exact at9 | exact at10 | exact at11 | exact at12 | exact at13)
                              case n2u5 => (with_reducible first | exact at0 | exact at1 | exact at2 | exact at3 | exact at4 | exact at5 | exact at6 | exact at7 | exact at8 | exact at9 | exact at10 | exact at11 | exact at12 | exact at13)
                              case n3u5 => (with_reducible first | exact at0 | exact at1 | exact at2 | exact at3 | exact at4 | exact at5 | exact at6 | exact at7 | exact at8 | exact at9 | exact at10 | exact at11 | exact at12 | exact at13)
                              case n4u5 => exact (by repeat (first | with_reducible apply sub_nil | with_reducible apply sub_refl | with_reducible refine sub_cons (by with_reducible first | apply at0 | apply at1 | apply at2 | apply at3 | apply at4 | apply at5 | apply at6 | apply at7 | apply at8 | apply at9 | apply at10 | apply at11 | apply at12 | apply at13) ?_ | with_reducible refine sub_tail4 ?_ | with_reducible refine sub_tail ?_))
                case got5u1 =>
                  intro s7 t7 st7
                  cases hch5 : text[k4 + 1]? with
                  | none => rw [drop_none hch5] at hl4; cases hl4
                  | some d5 =>
                    rw [drop_some hch5] at hl4
                    obtain ⟨hl5, hle5⟩ := map_add hl4
                    obtain ⟨h7, tk7, mm7, tt7, t77, e7, b7, rfl, F7, N7⟩ := st7.open
                    clear st7
                    dsimp only [Option.toList]
                    k_steps
                    show Step _ j4 _
                    refine ⟨j4 - 2, by omega, k4 + 1 + 1, acc ++ [d5], ?_, hl5, by omega, by simp; omega⟩
                    rw [S_app] at *
                    refine' TSt.mk ?sFu6 ?sNu6 ?s1u6 ?s2u6 ?s3u6 ?n1u6 ?n2u6 ?n3u6 ?n4u6
                    case sFu6 => assumption
                    case sNu6 => assumption
                    case s1u6 => exact rfl
                    case s2u6 => exact rfl
                    case s3u6 => exact rfl
                    case n1u6 => (with_reducible first | exact at0 | exact at1 | exact at2 | exact at3 | exact at4 | exact at5 | exact at6 | exact at7 | exact at8 | exact at9 | exact at10 | exact at11 | exact at12 | exact at13)
                    case n2u6 => (with_reducible first | exact at0 | exact at1 | exact at2 | exact at3 | exact at4 | exact at5 | exact at6 | exact at7 | exact at8 | exact at9 | exact at10 | exact at11 | exact at12 | exact at13)
                    case n3u6 => (with_reducible first | exact at0 | exact at1 | exact at2 | exact at3 | exact at4 | exact at5 | exact at6 | exact at7 | exact at8 | exact at9 | exact at10 | exact at11 | exact at12 | exact at13)
                    case n4u6 => exact (by repeat (first | with_reducible apply sub_nil | with_reducible apply sub_refl | with_reducible refine sub_cons (by with_reducible first | apply at0 | apply at1 | apply at2 | apply at3 | apply at4 | apply at5 | apply at6 | apply at7 | apply at8 | apply at9 | apply at10 | apply at11 | apply at12 | apply at13) ?_ | with_reducible refine sub_tail4 ?_ | with_reducible refine sub_tail ?_))
              · have ha4 := ‹(S [ch4] == Str.ofString "\"") = false›
                have hb4 := ‹(S [ch4] == Str.ofString "\\") = false›
                rw [q_iff] at ha4
                rw [b_iff] at hb4
                rw [if_neg (by simpa using ha4), if_neg (by simpa using hb4)] at hl4
                obtain ⟨hl5, hle5⟩ := map_add hl4
                show Step _ j4 _
                refine ⟨j4 - 1, by omega, k4 + 1, acc ++ [ch4], ?_, hl5, by omega, by simp; omega⟩
                rw [S_app] at *
                refine' TSt.mk ?sFu7 ?sNu7 ?s1u7 ?s2u7 ?s3u7 ?n1u7 ?n2u7 ?n3u7 ?n4u7
                case sFu7 => assumption
                case sNu7 => assumption
                case s1u7 => exact rfl
                case s2u7 => exact rfl
                case s3u7 => exact rfl
                case n1u7 => (with_reducible first | exact at0 | exact at1 | exact at2 | exact at3 | exact at4 | exact at5 | exact at6 | exact at7 | exact at8 | exact at9 | exact at10 | exact at11 | exact at12 | exact at13)
                case n2u7 => (with_reducible first | exact at0 | exact at1 | exact at2 | exact at3 | exact at4 | exact at5 | exact at6 | exact at7 | exact at8 | exact at9 | exact at10 | exact at11 | exact at12 | exact at13)
                case n3u7 => (with_reducible first | exact at0 | exact at1 | exact at2 | exact at3 | exact at4 | exact at5 | exact at6 | exact at7 | exact at8 | exact at9 | exact at10 | exact at11 | exact at12 | exact at13)
                case n4u7 => exact (by repeat (first | with_reducible apply sub_nil | with_reducible apply sub_refl | with_reducible refine sub_cons (by with_reducible first | apply at0 | apply at1 | apply at2 | apply at3 | apply at4 | apply at5 | apply at6 | apply at7 | apply at8 | apply at9 | apply at10 | apply at11 | apply at12 | apply at13) ?_ | with_reducible refine sub_tail4 ?_ | with_reducible refine sub_tail ?_))
        · have ha1 := ‹(Builtin.Str.occurrences (Str.ofString "\n\t\x0d ") (S [ch]) 0 (Str.ofString "\n\t\x0d ").length 1).isEmpty = true›
          have hb1 := ‹(S [ch] == Str.ofString "\"") = false›
          have hc1 := ‹(S [ch] == Str.ofString "\\") = true›
          rw [ws_iff] at ha1
          rw [q_iff] at hb1
          rw [b_iff] at hc1
          rw [if_neg (by simpa using ha1), if_neg (by simpa using hb1), if_pos (by simpa using hc1)] at hl
          show wpAny _ _ (call (.ref 49) [.ref x]) _ _ _
          refine' TSt.readc (ci := ciObj q (Str.ofString "") (tk0 + 1 + 1 + 1) false) (k := k' + 1) (acc := []) (I := I) ?rstu8 B1 X1 T1 CH1 ?kA3 ?kf3 ?kk3 ?kd3 ?ku3 hx' hs' hn1' hn2' hne hI1 hI2 ?kz3 ?got3
          case kA3 => exact rfl
          case kf3 => exact rfl
          case kk3 => exact rfl
          case kd3 => (simp only at *; omega)
          case ku3 => (simp only at *; omega)
          case kz3 => omega
          case rstu8 => refine' TSt.mk ?sFu9 ?sNu9 ?s1u9 ?s2u9 ?s3u9 ?n1u9 ?n2u9 ?n3u9 ?n4u9
                        case sFu9 => assumption
                        case sNu9 => assumption
                        case s1u9 => exact rfl
                        case s2u9 => exact rfl
                        case s3u9 => exact rfl
                        case n1u9 => (with_reducible first | exact at0 | exact at1 | exact at2 | exact at3 | exact at4 | exact at5 | exact at6 | exact at7 | exact at8 | exact at9 | exact at10 | exact at11 | exact at12 | exact at13)
                        case n2u9 => (with_reducible first | exact at0 | exact at1 | exact at2 | exact at3 | exact at4 | exact at5 | exact at6 | exact at7 | exact at8 | exact at9 | exact at10 | exact at11 | exact at12 | exact at13)
                        case n3u9 => (with_reducible first | exact at0 | exact at1 | exact at2 | exact at3 | exact at4 | exact at5 | exact at6 | exact at7 | exact at8 | exact at9 | exact at10 | exact at11 | exact at12 | exact at13)
                        case n4u9 => exact (by repeat (first | with_reducible apply sub_nil | with_reducible apply sub_refl | with_reducible refine sub_cons (by with_reducible first | apply at0 | apply at1 | apply at2 | apply at3 | apply at4 | apply at5 | apply at6 | apply at7 | apply at8 | apply at9 | apply at10 | apply at11 | apply at12 | apply at13) ?_ | with_reducible refine sub_tail4 ?_ | with_reducible refine sub_tail ?_))
          case got3 =>
            intro s3 t3 st3
            cases hch3 : text[k' + 1]? with
            | none => rw [drop_none hch3] at hl; cases hl
            | some d3 =>
              rw [drop_some hch3] at hl
              obtain ⟨hl2, hle⟩ := map_add hl
              have hlp := bare_pos hl2
              obtain ⟨h3, tk3, mm3, tt3, t33, e3, b3, rfl, F3, N3⟩ := st3.open
              clear st3
              dsimp only [Option.toList]
              k_steps
              rw [S_app] at *
              refine wpAny_For ?_
              k_steps
              refine forLoopS (TI (TSt w text g L1 x I la dx fs pb a c d e1 f ((q, methodObj (.ref 49) (.ref x)) :: rest) s (ciObj q (Str.ofString "") (tk0 + 1 + 1 + 1) false)) bare text wd (k + n)) ?qturnu10 (j - 1 - 2) ?qh0u10
              case qh0u10 =>
                refine ⟨k' + 1 + 1, [] ++ [d3], ?_, hl2, by omega, by simp; try omega⟩
                refine' TSt.mk ?sFu11 ?sNu11 ?s1u11 ?s2u11 ?s3u11 ?n1u11 ?n2u11 ?n3u11 ?n4u11
                case sFu11 => assumption
                case sNu11 => assumption
                case s1u11 => exact rfl
                case s2u11 => exact rfl
                case s3u11 => exact rfl
                case n1u11 => (with_reducible first | exact at0 | exact at1 | exact at2 | exact at3 | exact at4 | exact at5 | exact at6 | exact at7 | exact at8 | exact at9 | exact at10 | exact at11 | exact at12 | exact at13)
                case n2u11 => (with_reducible first | exact at0 | exact at1 | exact at2 | exact at3 | exact at4 | exact at5 | exact at6 | exact at7 | exact at8 | exact at9 | exact at10 | exact at11 | exact at12 | exact at13)
                case n3u11 => (with_reducible first | exact at0 | exact at1 | exact at2 | exact at3 | exact at4 | exact at5 | exact at6 | exact at7 | exact at8 | exact at9 | exact at10 | exact at11 | exact at12 | exact at13)
                case n4u11 => exact (by repeat (first | with_reducible apply sub_nil | with_reducible apply sub_refl | with_reducible refine sub_cons (by with_reducible first | apply at0 | apply at1 | apply at2 | apply at3 | apply at4 | apply at5 | apply at6 | apply at7 | apply at8 | apply at9 | apply at10 | apply at11 | apply at12 | apply at13) ?_ | with_reducible refine sub_tail4 ?_ | with_reducible refine sub_tail ?_))
              case qturnu10 =>
                rintro j4 s4 ⟨k4, acc, st4, hl4, hkn4, hac⟩
                refine' TSt.next st4 B1 X1 T1 CH1 ?kA4u10 ?kf4u10 ?kk4u10 ?kd4u10 ?ku4u10 hx' hq' hs' hn1' hn2' hnI hne hI1 hI2 ?kz4u10 ?here4u10 ?gone4u10
                case kA4u10 => exact rfl
                case kf4u10 => exact rfl
                case kk4u10 => exact rfl
                case kd4u10 => (simp only at *; omega)
                case ku4u10 => (simp only at *; omega)
                case kz4u10 => omega
                case gone4u10 =>
                  intro s6 hno hno4
                  rw [drop_none hno] at hl4
                  cases hl4
                  try dsimp only
                  k_steps
                  show Step _ j _
                  refine ⟨0, by omega, .off rfl ?_⟩
                  rw [← hkn4]
                  exact hno4
                case here4u10 =>
                  intro ch4 s6 t6 hch4 st6
                  rw [drop_some hch4] at hl4
                  unfold bare at hl4
                  obtain ⟨h6, tk6, mm6, tt6, t66, e6, b6, rfl, F6, N6⟩ := st6.open
                  clear st6
                  k_steps
                  · have ha4 := ‹(Builtin.Str.occurrences (Str.ofString "\n\t\x0d ") (S [ch4]) 0 (Str.ofString "\n\t\x0d ").length 1).isEmpty = true›
                    have hb4 := ‹(S [ch4] == Str.ofString "\\") = true›
                    rw [ws_iff] at ha4
                    rw [b_iff] at hb4
                    rw [if_neg (by simpa using ha4), if_pos (by simpa using hb4)] at hl4
                    show wpAny _ _ (call (.ref 49) [.ref x]) _ _ _
                    refine' TSt.readc (ci := ciObj q (Str.ofString "") (tk0 + 1 + 1 + 1) false) (k := k4 + 1) (acc := acc) (I := I) ?rstu12 B1 X1 T1 CH1 ?kA5u10 ?kf5u10 ?kk5u10 ?kd5u10 ?ku5u10 hx' hs' hn1' hn2' hne hI1 hI2 ?kz5u10 ?got5u10
                    case kA5u10 => exact rfl
                    case kf5u10 => exact rfl
                    case kk5u10 => exact rfl
                    case kd5u10 => (simp only at *; omega)
                    case ku5u10 => (simp only at *; omega)
                    case kz5u10 => omega
                    case rstu12 => refine' TSt.mk ?sFu13 ?sNu13 ?s1u13 ?s2u13 ?s3u13 ?n1u13 ?n2u13 ?n3u13 ?n4u13
                                   case sFu13 => assumption
                                   case sNu13 => assumption
                                   case s1u13 => exact rfl
                                   case s2u13 => exact rfl
                                   case s3u13 => exact rfl
                                   case n1u13 => (with_reducible first | exact at0 | exact at1 | exact at2 | exact at3 | exact at4 | exact at5 | exact at6 | exact at7 | exact at8 | exact at9 | exact at10 | exact at11 | exact at12 | exact at13)
                                   case n2u13 => (with_reducible first | exact at0 | exact at1 | exact at2 | exact at3 | exact at4 | exact at5 | exact at6 | exact at7 | exact at8 | exact at9 | exact at10 | exact at11 | exact at12 | exact at13)
                                   case n3u13 => (with_reducible first | exact at0 | exact at1 | exact at2 | exact at3 | exact at4 | exact at5 | exact at6 | exact at7 | exact at8 | exact at9 | exact at10 | exact at11 | exact at12 | exact at13)
                                   case n4u13 => exact (by repeat (first | with_reducible apply sub_nil | with_reducible apply sub_refl | with_reducible refine sub_cons (by with_reducible first | apply at0 | apply at1 | apply at2 | apply at3 | apply at4 | apply at5 | apply at6 | apply at7 | apply at8 | apply at9 | apply at10 | apply at11 | apply at12 | apply at13) ?_ | with_reducible refine sub_tail4 ?_ | with_reducible refine sub_tail ?_))
                    case got5u10 =>
                      intro s7 t7 st7
                      cases hch5 : text[k4 + 1]? with
                      | none => rw [drop_none hch5] at hl4; cases hl4
                      | some d5 =>
                        rw [drop_some hch5] at hl4
                        obtain ⟨hl5, hle5⟩ := map_add hl4
                        obtain ⟨h7, tk7, mm7, tt7, t77, e7, b7, rfl, F7, N7⟩ := st7.open
                        clear st7
                        dsimp only [Option.toList]
                        k_steps
                        show Step _ j4 _
                        refine ⟨j4 - 2, by omega, k4 + 1 + 1, acc ++ [d5], ?_, hl5, by omega, by simp; omega⟩
                        rw [S_app] at *
                        refine' TSt.mk ?sFu14 ?sNu14 ?s1u14 ?s2u14 ?s3u14 ?n1u14 ?n2u14 ?n3u14 ?n4u14
                        case sFu14 => assumption
                        case sNu14 => assumption
                        case s1u14 => exact rfl
                        case s2u14 => exact rfl
                        case s3u14 => exact rfl
                        case n1u14 => (with_reducible first | exact at0 | exact at1 | exact at2 | exact at3 | exact at4 | exact at5 | exact at6 | exact at7 | exact at8 | exact at9 | exact at10 | exact at11 | exact at12 | exact at13)
                        case n2u14 => (with_reducible first | exact at0 | exact at1 | exact at2 | exact at3 | exact at4 | exact at5 | exact at6 | exact at7 | exact at8 | exact at9 | exact at10 | exact at11 | exact at12 | exact at13)
                        case n3u14 => (with_reducible first | exact at0 | exact at1 | exact at2 | exact at3 | exact at4 | exact at5 | exact at6 | exact at7 | exact at8 | exact at9 | exact at10 | exact at11 | exact at12 | exact at13)
                        case n4u14 => exact (by repeat (first | with_reducible apply sub_nil | with_reducible apply sub_refl | with_reducible refine sub_cons (by with_reducible first | apply at0 | apply at1 | apply at2 | apply at3 | apply at4 | apply at5 | apply at6 | apply at7 | apply at8 | apply at9 | apply at10 | apply at11 | apply at12 | apply at13) ?_ | with_reducible refine sub_tail4 ?_ | with_reducible refine sub_tail ?_))
                  · have ha4 := ‹(Builtin.Str.occurrences (Str.ofString "\n\t\x0d ") (S [ch4]) 0 (Str.ofString "\n\t\x0d ").length 1).isEmpty = true›
                    have hb4 := ‹(S [ch4] == Str.ofString "\\") = false›
                    rw [ws_iff] at ha4
                    rw [b_iff] at hb4
                    rw [if_neg (by simpa using ha4), if_neg (by simpa using hb4)] at hl4
                    obtain ⟨hl5, hle5⟩ := map_add hl4
                    show Step _ j4 _
                    refine ⟨j4 - 1, by omega, k4 + 1, acc ++ [ch4], ?_, hl5, by omega, by simp; omega⟩
                    rw [S_app] at *
                    refine' TSt.mk ?sFu15 ?sNu15 ?s1u15 ?s2u15 ?s3u15 ?n1u15 ?n2u15 ?n3u15 ?n4u15
                    case sFu15 => assumption
                    case sNu15 => assumption
                    case s1u15 => exact rfl
                    case s2u15 => exact rfl
                    case s3u15 => exact rfl
                    case n1u15 => (with_reducible first | exact at0 | exact at1 | exact at2 | exact at3 | exact at4 | exact at5 | exact at6 | exact at7 | exact at8 | exact at9 | exact at10 | exact at11 | exact at12 | exact at13)
                    case n2u15 => (with_reducible first | exact at0 | exact at1 | exact at2 | exact at3 | exact at4 | exact at5 | exact at6 | exact at7 | exact at8 | exact at9 | exact at10 | exact at11 | exact at12 | exact at13)
                    case n3u15 => (with_reducible first | exact at0 | exact at1 | exact at2 | exact at3 | exact at4 | exact at5 | exact at6 | exact at7 | exact at8 | exact at9 | exact at10 | exact at11 | exact at12 | exact at13)
                    case n4u15 => exact (by repeat (first | with_reducible apply sub_nil | with_reducible apply sub_refl | with_reducible refine sub_cons (by with_reducible first | apply at0 | apply at1 | apply at2 | apply at3 | apply at4 | apply at5 | apply at6 | apply at7 | apply at8 | apply at9 | apply at10 | apply at11 | apply at12 | apply at13) ?_ | with_reducible refine sub_tail4 ?_ | with_reducible refine sub_tail ?_))
                  · have ha4 := ‹(Builtin.Str.occurrences (Str.ofString "\n\t\x0d ") (S [ch4]) 0 (Str.ofString "\n\t\x0d ").length 1).isEmpty = false›
                    rw [ws_iff] at ha4
                    rw [if_pos (by simpa using ha4)] at hl4
                    cases hl4
                    rw [← hkn4] at hret'
                    refine' hret' _ _ _ _ _ _ _ ?dFu16 ?dNu16 ?n2u16 ?n3u16 ?n4u16
                    case dFu16 => assumption
                    case dNu16 => assumption
                    case n2u16 => (with_reducible first | exact at0 | exact at1 | exact at2 | exact at3 | exact at4 | exact at5 | exact at6 | exact at7 | exact at8 | exact at9 | exact at10 | exact at11 | exact at12 | exact at13)
                    case n3u16 => (with_reducible first | exact at0 | exact at1 | exact at2 | exact at3 | exact at4 | exact at5 | exact at6 | exact at7 | exact at8 | exact at9 | exact at10 | exact at11 | exact at12 | exact at13)
                    case n4u16 => exact (by repeat (first | with_reducible apply sub_nil | with_reducible apply sub_refl | with_reducible refine sub_cons (by with_reducible first | apply at0 | apply at1 | apply at2 | apply at3 | apply at4 | apply at5 | apply at6 | apply at7 | apply at8 | apply at9 | apply at10 | apply at11 | apply at12 | apply at13) ?_ | with_reducible refine sub_tail4 ?_ | with_reducible refine sub_tail ?_))
        · have ha1 := ‹(Builtin.Str.occurrences (Str.ofString "\n\t\x0d ") (S [ch]) 0 (Str.ofString "\n\t\x0d ").length 1).isEmpty = true›
          have hb1 := ‹(S [ch] == Str.ofString "\"") = false›
          have hc1 := ‹(S [ch] == Str.ofString "\\") = false›
          rw [ws_iff] at ha1
          rw [q_iff] at hb1
          rw [b_iff] at hc1
          rw [if_neg (by simpa using ha1), if_neg (by simpa using hb1), if_neg (by simpa using hc1)] at hl
          obtain ⟨hl2, hle⟩ := map_add hl
          have hlp := bare_pos hl2
          rw [S_app] at *
          refine wpAny_For ?_
          k_steps
          refine forLoopS (TI (TSt w text g L1 x I la dx fs pb a c d e1 f ((q, methodObj (.ref 49) (.ref x)) :: rest) s (ciObj q (Str.ofString "") (tk0 + 1 + 1 + 1) false)) bare text wd (k + n)) ?qturnu17 (j - 1 - 1) ?qh0u17
          case qh0u17 =>
            refine ⟨k' + 1, [] ++ [ch], ?_, hl2, by omega, by simp; try omega⟩
            refine' TSt.mk ?sFu18 ?sNu18 ?s1u18 ?s2u18 ?s3u18 ?n1u18 ?n2u18 ?n3u18 ?n4u18
            case sFu18 => assumption
            case sNu18 => assumption
            case s1u18 => exact rfl
            case s2u18 => exact rfl
            case s3u18 => exact rfl
            case n1u18 => (with_reducible first | exact at0 | exact at1 | exact at2 | exact at3 | exact at4 | exact at5 | exact at6 | exact at7 | exact at8 | exact at9 | exact at10 | exact at11 | exact at12 | exact at13)
            case n2u18 => (with_reducible first | exact at0 | exact at1 | exact at2 | exact at3 | exact at4 | exact at5 | exact at6 | exact at7 | exact at8 | exact at9 | exact at10 | exact at11 | exact at12 | exact at13)
            case n3u18 => (with_reducible first | exact at0 | exact at1 | exact at2 | exact at3 | exact at4 | exact at5 | exact at6 | exact at7 | exact at8 | exact at9 | exact at10 | exact at11 | exact at12 | exact at13)
            case n4u18 => exact (by repeat (first | with_reducible apply sub_nil | with_reducible apply sub_refl | with_reducible refine sub_cons (by with_reducible first | apply at0 | apply at1 | apply at2 | apply at3 | apply at4 | apply at5 | apply at6 | apply at7 | apply at8 | apply at9 | apply at10 | apply at11 | apply at12 | apply at13) ?_ | with_reducible refine sub_tail4 ?_ | with_reducible refine sub_tail ?_))
          case qturnu17 =>
            rintro j4 s4 ⟨k4, acc, st4, hl4, hkn4, hac⟩
            refine' TSt.next st4 B1 X1 T1 CH1 ?kA4u17 ?kf4u17 ?kk4u17 ?kd4u17 ?ku4u17 hx' hq' hs' hn1' hn2' hnI hne hI1 hI2 ?kz4u17 ?here4u17 ?gone4u17
            case kA4u17 => exact rfl
            case kf4u17 => exact rfl
            case kk4u17 => exact rfl
            case kd4u17 => (simp only at *; omega)
            case ku4u17 => (simp only at *; omega)
            case kz4u17 => omega
            case gone4u17 =>
              intro s6 hno hno4
              rw [drop_none hno] at hl4
              cases hl4
              try dsimp only
              k_steps
              show Step _ j _
              refine ⟨0, by omega, .off rfl ?_⟩
              rw [← hkn4]
              exact hno4
            case here4u17 =>
              intro ch4 s6 t6 hch4 st6
              rw [drop_some hch4] at hl4
              unfold bare at hl4
              obtain ⟨h6, tk6, mm6, tt6, t66, e6, b6, rfl, F6, N6⟩ := st6.open
              clear st6
              k_steps
              · have ha4 := ‹(Builtin.Str.occurrences (Str.ofString "\n\t\x0d ") (S [ch4]) 0 (Str.ofString "\n\t\x0d ").length 1).isEmpty = true›
                have hb4 := ‹(S [ch4] == Str.ofString "\\") = true›
                rw [ws_iff] at ha4
                rw [b_iff] at hb4
                rw [if_neg (by simpa using ha4), if_pos (by simpa using hb4)] at hl4
                show wpAny _ _ (call (.ref 49) [.ref x]) _ _ _
                refine' TSt.readc (ci := ciObj q (Str.ofString "") (tk0 + 1 + 1 + 1) false) (k := k4 + 1) (acc := acc) (I := I) ?rstu19 B1 X1 T1 CH1 ?kA5u17 ?kf5u17 ?kk5u17 ?kd5u17 ?ku5u17 hx' hs' hn1' hn2' hne hI1 hI2 ?kz5u17 ?got5u17
                case kA5u17 => exact rfl
                case kf5u17 => exact rfl
                case kk5u17 => exact rfl
                case kd5u17 => (simp only at *; omega)
                case ku5u17 => (simp only at *; omega)
                case kz5u17 => omega
                case rstu19 => refine' TSt.mk ?sFu20 ?sNu20 ?s1u20 ?s2u20 ?s3u20 ?n1u20 ?n2u20 ?n3u20 ?n4u20
                               case sFu20 => assumption
                               case sNu20 => assumption
                               case s1u20 => exact rfl
                               case s2u20 => exact rfl
                               case s3u20 => exact rfl
                               case n1u20 => (with_reducible first | exact at0 | exact at1 | exact at2 | exact at3 | exact at4 | exact at5 | exact at6 | exact at7 | exact at8 | exact at9 | exact at10 | exact at11 | exact at12 | exact at13)
                               case n2u20 => (with_reducible first | exact at0 | exact at1 | exact at2 | exact at3 | exact at4 | exact at5 | exact at6 | exact at7 | exact at8 | exact at9 | exact at10 | exact at11 | exact at12 | exact at13)
                               case n3u20 => (with_reducible first | exact at0 | exact at1 | exact at2 | exact at3 | exact at4 | exact at5 | exact at6 | exact at7 | exact at8 | exact at9 | exact at10 | exact at11 | exact at12 | exact at13)
                               case n4u20 => exact (by repeat (first | with_reducible apply sub_nil | with_reducible apply sub_refl | with_reducible refine sub_cons (by with_reducible first | apply at0 | apply at1 | apply at2 | apply at3 | apply at4 | apply at5 | apply at6 | apply at7 | apply at8 | apply at9 | apply at10 | apply at11 | apply at12 | apply at13) ?_ | with_reducible refine sub_tail4 ?_ | with_reducible refine sub_tail ?_))
                case got5u17 =>
                  intro s7 t7 st7
                  cases hch5 : text[k4 + 1]? with
                  | none => rw [drop_none hch5] at hl4; cases hl4
                  | some d5 =>
                    rw [drop_some hch5] at hl4
                    obtain ⟨hl5, hle5⟩ := map_add hl4
                    obtain ⟨h7, tk7, mm7, tt7, t77, e7, b7, rfl, F7, N7⟩ := st7.open
                    clear st7
                    dsimp only [Option.toList]
                    k_steps
                    show Step _ j4 _
                    refine ⟨j4 - 2, by omega, k4 + 1 + 1, acc ++ [d5], ?_, hl5, by omega, by simp; omega⟩
                    rw [S_app] at *
                    refine' TSt.mk ?sFu21 ?sNu21 ?s1u21 ?s2u21 ?s3u21 ?n1u21 ?n2u21 ?n3u21 ?n4u21
                    case sFu21 => assumption
                    case sNu21 => assumption
                    case s1u21 => exact rfl
                    case s2u21 => exact rfl
                    case s3u21 => exact rfl
                    case n1u21 => (with_reducible first | exact at0 | exact at1 | exact at2 | exact at3 | exact at4 | exact at5 | exact at6 | exact at7 | exact at8 | exact at9 | exact at10 | exact at11 | exact at12 | exact at13)
                    case n2u21 => (with_reducible first | exact at0 | exact at1 | exact at2 | exact at3 | exact at4 | exact at5 | exact at6 | exact at7 | exact at8 | exact at9 | exact at10 | exact at11 | exact at12 | exact at13)
                    case n3u21 => (with_reducible first | exact at0 | exact at1 | exact at2 | exact at3 | exact at4 | exact at5 | exact at6 | exact at7 | exact at8 | exact at9 | exact at10 | exact at11 | exact at12 | exact at13)
                    case n4u21 => exact (by repeat (first | with_reducible apply sub_nil | with_reducible apply sub_refl | with_reducible refine sub_cons (by with_reducible first | apply at0 | apply at1 | apply at2 | apply at3 | apply at4 | apply at5 | apply at6 | apply at7 | apply at8 | apply at9 | apply at10 | apply at11 | apply at12 | apply at13) ?_ | with_reducible refine sub_tail4 ?_ | with_reducible refine sub_tail ?_))
              · have ha4 := ‹(Builtin.Str.occurrences (Str.ofString "\n\t\x0d ") (S [ch4]) 0 (Str.ofString "\n\t\x0d ").length 1).isEmpty = true›
                have hb4 := ‹(S [ch4] == Str.ofString "\\") = false›
                rw [ws_iff] at ha4
                rw [b_iff] at hb4
                rw [if_neg (by simpa using ha4), if_neg (by simpa using hb4)] at hl4
                obtain ⟨hl5, hle5⟩ := map_add hl4
                show Step _ j4 _
                refine ⟨j4 - 1, by omega, k4 + 1, acc ++ [ch4], ?_, hl5, by omega, by simp; omega⟩
                rw [S_app] at *
                refine' TSt.mk ?sFu22 ?sNu22 ?s1u22 ?s2u22 ?s3u22 ?n1u22 ?n2u22 ?n3u22 ?n4u22
                case sFu22 => assumption
                case sNu22 => assumption
                case s1u22 => exact rfl
                case s2u22 => exact rfl
                case s3u22 => exact rfl
                case n1u22 => (with_reducible first | exact at0 | exact at1 | exact at2 | exact at3 | exact at4 | exact at5 | exact at6 | exact at7 | exact at8 | exact at9 | exact at10 | exact at11 | exact at12 | exact at13)
                case n2u22 => (with_reducible first | exact at0 | exact at1 | exact at2 | exact at3 | exact at4 | exact at5 | exact at6 | exact at7 | exact at8 | exact at9 | exact at10 | exact at11 | exact at12 | exact at13)
                case n3u22 => (with_reducible first | exact at0 | exact at1 | exact at2 | exact at3 | exact at4 | exact at5 | exact at6 | exact at7 | exact at8 | exact at9 | exact at10 | exact at11 | exact at12 | exact at13)
                case n4u22 => exact (by repeat (first | with_reducible apply sub_nil | with_reducible apply sub_refl | with_reducible refine sub_cons (by with_reducible first | apply at0 | apply at1 | apply at2 | apply at3 | apply at4 | apply at5 | apply at6 | apply at7 | apply at8 | apply at9 | apply at10 | apply at11 | apply at12 | apply at13) ?_ | with_reducible refine sub_tail4 ?_ | with_reducible refine sub_tail ?_))
              · have ha4 := ‹(Builtin.Str.occurrences (Str.ofString "\n\t\x0d ") (S [ch4]) 0 (Str.ofString "\n\t\x0d ").length 1).isEmpty = false›
                rw [ws_iff] at ha4
                rw [if_pos (by simpa using ha4)] at hl4
                cases hl4
                rw [← hkn4] at hret'
                refine' hret' _ _ _ _ _ _ _ ?dFu23 ?dNu23 ?n2u23 ?n3u23 ?n4u23
                case dFu23 => assumption
                case dNu23 => assumption
                case n2u23 => (with_reducible first | exact at0 | exact at1 | exact at2 | exact at3 | exact at4 | exact at5 | exact at6 | exact at7 | exact at8 | exact at9 | exact at10 | exact at11 | exact at12 | exact at13)
                case n3u23 => (with_reducible first | exact at0 | exact at1 | exact at2 | exact at3 | exact at4 | exact at5 | exact at6 | exact at7 | exact at8 | exact at9 | exact at10 | exact at11 | exact at12 | exact at13)
                case n4u23 => exact (by repeat (first | with_reducible apply sub_nil | with_reducible apply sub_refl | with_reducible refine sub_cons (by with_reducible first | apply at0 | apply at1 | apply at2 | apply at3 | apply at4 | apply at5 | apply at6 | apply at7 | apply at8 | apply at9 | apply at10 | apply at11 | apply at12 | apply at13) ?_ | with_reducible refine sub_tail4 ?_ | with_reducible refine sub_tail ?_))
        · rename_i ha1
          rw [ws_iff] at ha1
          rw [if_pos (by simpa using ha1)] at hl
          obtain ⟨hl2, hle⟩ := map_add hl
          show Step _ j _
          refine ⟨j - 1, by omega, .on (k' + 1) ?_ hl2 (by omega) (by omega)⟩
          refine' TSt.mk ?sFu24 ?sNu24 ?s1u24 ?s2u24 ?s3u24 ?n1u24 ?n2u24 ?n3u24 ?n4u24
          case sFu24 => assumption
          case sNu24 => assumption
          case s1u24 => exact rfl
          case s2u24 => exact rfl
          case s3u24 => exact rfl
          case n1u24 => (with_reducible first | exact at0 | exact at1 | exact at2 | exact at3 | exact at4 | exact at5 | exact at6 | exact at7 | exact at8 | exact at9 | exact at10 | exact at11 | exact at12 | exact at13)
          case n2u24 => (with_reducible first | exact at0 | exact at1 | exact at2 | exact at3 | exact at4 | exact at5 | exact at6 | exact at7 | exact at8 | exact at9 | exact at10 | exact at11 | exact at12 | exact at13)
          case n3u24 => (with_reducible first | exact at0 | exact at1 | exact at2 | exact at3 | exact at4 | exact at5 | exact at6 | exact at7 | exact at8 | exact at9 | exact at10 | exact at11 | exact at12 | exact at13)
          case n4u24 => exact (by repeat (first | with_reducible apply sub_nil | with_reducible apply sub_refl | with_reducible refine sub_cons (by with_reducible first | apply at0 | apply at1 | apply at2 | apply at3 | apply at4 | apply at5 | apply at6 | apply at7 | apply at8 | apply at9 | apply at10 | apply at11 | apply at12 | apply at13) ?_ | with_reducible refine sub_tail4 ?_ | with_reducible refine sub_tail ?_))
      case gone0 => 
        intro s3 hno st3
        rw [drop_none hno] at hl
        have hl2 : wd = [] ∧ j - 1 = 1 := by
          unfold lex at hl
          simp only [Option.some.injEq, Prod.mk.injEq] at hl
          exact ⟨hl.1.symm, hl.2.symm⟩
        obtain ⟨hwd, hl3⟩ := hl2
        rw [hwd] at hret'
        rw [show k + n = k' + 1 by omega] at hret'
        obtain ⟨h5, tk5, mm5, tt5, t5, e5, b5, rfl, F5, N5⟩ := st3.open
        clear st3 st
        dsimp only
        k_steps
        refine' hret' _ _ _ _ _ _ _ ?dFu25 ?dNu25 ?n2u25 ?n3u25 ?n4u25
        case dFu25 => assumption
        case dNu25 => assumption
        case n2u25 => (with_reducible first | exact at0 | exact at1 | exact at2 | exact at3 | exact at4 | exact at5 | exact at6 | exact at7 | exact at8 | exact at9 | exact at10 | exact at11 | exact at12 | exact at13)
        case n3u25 => (with_reducible first | exact at0 | exact at1 | exact at2 | exact at3 | exact at4 | exact at5 | exact at6 | exact at7 | exact at8 | exact at9 | exact at10 | exact at11 | exact at12 | exact at13)
        case n4u25 => exact (by repeat (first | with_reducible apply sub_nil | with_reducible apply sub_refl | with_reducible refine sub_cons (by with_reducible first | apply at0 | apply at1 | apply at2 | apply at3 | apply at4 | apply at5 | apply at6 | apply at7 | apply at8 | apply at9 | apply at10 | apply at11 | apply at12 | apply at13) ?_ | with_reducible refine sub_tail4 ?_ | with_reducible refine sub_tail ?_))
    · obtain ⟨h5, tk5, mm5, tt5, t5, e5, b5, rfl, F5, N5⟩ := st.open
      refine ci_over rfl F5 N5 (List.mem_cons_self ..) (fun h6 F6 N6 => ?_)
      clear F5 N5 st
      dsimp only
      k_steps
      refine' hret' _ _ _ _ _ _ _ ?dFu26 ?dNu26 ?n2u26 ?n3u26 ?n4u26
      case dFu26 => assumption
      case dNu26 => assumption
      case n2u26 => (with_reducible first | exact at0 | exact at1 | exact at2 | exact at3 | exact at4 | exact at5 | exact at6 | exact at7 | exact at8 | exact at9 | exact at10 | exact at11 | exact at12 | exact at13)
      case n3u26 => (with_reducible first | exact at0 | exact at1 | exact at2 | exact at3 | exact at4 | exact at5 | exact at6 | exact at7 | exact at8 | exact at9 | exact at10 | exact at11 | exact at12 | exact at13)
      case n4u26 => exact (by repeat (first | with_reducible apply sub_nil | with_reducible apply sub_refl | with_reducible refine sub_cons (by with_reducible first | apply at0 | apply at1 | apply at2 | apply at3 | apply at4 | apply at5 | apply at6 | apply at7 | apply at8 | apply at9 | apply at10 | apply at11 | apply at12 | apply at13) ?_ | with_reducible refine sub_tail4 ?_ | with_reducible refine sub_tail ?_))
theorem Sk_tok_told.zeq2 : Sk_tok_told.zpb.1 g L1 h1 = Sk_tok_told.zpb.1 Sk_tok_told.zv2.1 Sk_tok_told.zv2.2.1 Sk_tok_told.zv2.2.2 := by with_unfolding_all rfl
theorem Sk_tok_told.zcore (hx : (x, instObj 66 dx) ∈ rest) (hs : Strm w p loose mean mg mb rest fs text la) (hpb : (pb, W.listOf #[] e2) ∈ rest) (hn1 : ∀ q ∈ rest, q.1 ≠ la) (hn2 : ∀ q ∈ rest, q.1 ≠ dx) (hne : @Ne Nat dx la) (hk62 : k + n ≤ 100000) (hlex : lex (text.drop k) = some (wd, n)) (B : Below A₀ base outer h₀) (F : Fr h₀ L s.heap m) (X : (_root_.Mine.hd.heap_1 w.params).In h₀) (N : News h₀ L s.heap ((la, W.listOf #[.int k t] e) :: (dx, dictOf (lexd w (1 + cnt text k) fs pb a b c d e1 f) 4) :: rest)) (T : Top p loose mean mg mb h₀) (CH : CodeHd h₀ 88 84) (hf : env.frame = some L) (hk : env.scope.kind = .function) (hd : dp + 4 < recursionLimit) (hu : un + 8 * 4 < cLine)
    (hret : ∀ r h' tk' news', Fr h₀ L h' m → News h₀ L h' news' → (fun r n' => ∃ t2 t' e' b', r = .str (S wd) t2 ∧ n' = (la, W.listOf #[.int (k + n : Nat) t'] e') :: (dx, dictOf (lexd w (1 + cnt text (k + n)) fs pb a b' c d e1 f) 4) :: rest) r news' → Q r { heap := h', gens := s.gens, drawn := s.drawn, toks := tk', os := s.os }) : codeAny (model PySem.Challenge.rw_kl0066_01.row.prog w) { handled := none, depth := dp, frames := some (env :: outer), guards := gd, units := un } (.call (.ref 56) ⟨[.ref x], []⟩) (fun r s' => match r with | .ok (.ret v) => Q v s' | .ok _ => False | .error e => (fun _ _ => False) e s') s :=
  Sk_tok_told.zpb.2 hx hs hpb hn1 hn2 hne hk62 hlex B F X N T CH hf hk hd hu hret (Sk_tok_told.zall2 (Sk_tok_told.zeq2.mp Sk_tok_told.zbody))
theorem Sk_tok_told.zkey : Sk_tok_told.zG Sk_tok_told.zv := (congrArg Sk_tok_told.zG Sk_tok_told.zeq).mp Sk_tok_told.zcore
end
theorem tok_told (rest : List (Addr × Obj)) (text : List Nat) {x : Addr} {dx : Addr} {la : Addr} {fs : Addr} {pb : Addr} (k : Nat) (t : Tok) (e : Nat) (e2 : Nat) (a : Tok) (b : Tok) (c : Tok) (d : Tok) (e1 : Tok) (f : Tok) (wd : List Nat) (n : Nat) (hx : (x, instObj 66 dx) ∈ rest) (hs : Strm w p loose mean mg mb rest fs text la) (hpb : (pb, W.listOf #[] e2) ∈ rest) (hn1 : ∀ q ∈ rest, q.1 ≠ la) (hn2 : ∀ q ∈ rest, q.1 ≠ dx) (hne : @Ne Nat dx la) (hk62 : k + n ≤ 100000) (hlex : lex (text.drop k) = some (wd, n)) : Told w p loose mean mg mb 4 (.ref 56) ([.ref x]) ((la, W.listOf #[.int k t] e) :: (dx, dictOf (lexd w (1 + cnt text k) fs pb a b c d e1 f) 4) :: rest) (fun r n' => ∃ t2 t' e' b', r = .str (S wd) t2 ∧ n' = (la, W.listOf #[.int (k + n : Nat) t'] e') :: (dx, dictOf (lexd w (1 + cnt text (k + n)) fs pb a b' c d e1 f) 4) :: rest) :=
  told_at fun cvx => Sk_tok_told.zall Sk_tok_told.zkey ((rest, text, x, dx, la, fs, pb, k, t, e, e2, a, b, c, d, e1, f, wd, n), cvx) hx hs hpb hn1 hn2 hne hk62 hlex

end Mine
end partFTok2

/- the part Writ -/
section
open PySem PySem.W PySem.Calls PyProof.Rows PySem.Spec
namespace Mine
theorem fresh_Writ (prog : Program) (w : World) (A : Around) (env : Env) (s : Shared) (Q : Flow → Shared → Prop) (E : Value → Shared → Prop) (h : Q .next s) :
    wpAny (model prog w) A (execs [] env) Q E s := by
  w_top off
  walk1
  exact h
end Mine
end
section partWrit
open PySem PySem.W PySem.Calls PyProof.Rows PySem.Spec
set_option maxHeartbeats 1600000
namespace Mine
noncomputable def encL (hl : List Nat) (c : Nat) : List Nat := if c ∈ hl then [92, c] else [c]
noncomputable def hid (wd : List Nat) : Nat → List Nat
  | 0 => [34, 92]
  | 1 => wd
  | 2 => wd
  | _ => [9, 10, 13, 32, 92] ++ (if wd.take 1 = [34] then [34] else [])
/-- how _law_written writes a word -/
noncomputable def writ (wd : List Nat) (way : Nat) (gp : List Nat) : List Nat :=
  if way < 2 ∨ wd = [] then [34] ++ wd.flatMap (encL (hid wd way)) ++ [34] ++ gp else wd.flatMap (encL (hid wd way)) ++ (if gp = [] then [13] else gp)
theorem strs_snoc {y : PySem.Str} {t : Tok} : ∀ {vs : List Value} {ys : List PySem.Str}, StrsAre vs ys → StrsAre (vs ++ [.str y t]) (ys ++ [y])
  | _, _, .nil => .cons y t .nil
  | _, _, .cons z u r => .cons z u (strs_snoc r)
theorem S_of (x : Str) : x = S x.cps.toList := by show x = ⟨_⟩; simp
theorem joinS0 : ∀ l : List (List Nat), Str.join (Str.ofString "") (l.map S) = S l.flatten
  | [] => by decide +kernel
  | [a] => by show S a = _; simp
  | a :: b :: r => by
    have ih := joinS0 (b :: r)
    show S a ++ Str.ofString "" ++ Str.join (Str.ofString "") ((b :: r).map S) = _
    rw [ih, show Str.ofString "" = S [] from by decide +kernel, S_app, S_app]
    simp
theorem joinS (l : List (List Nat)) : Txt.join (Str.ofString "") (l.map S) = S l.flatten := by
  rw [← joinS0]
  exact StrLaws.glued_eq_join _ _
theorem joinS2 (l : List Nat) (f : Nat → List Nat) : Txt.join (Str.ofString "") (l.map fun c => S (f c)) = S (l.flatMap f) := by
  have h := joinS (l.map f)
  rw [List.map_map] at h
  rw [List.flatMap_def]
  exact h
theorem enc_len (hl : List Nat) (c : Nat) : (encL hl c).length ≤ 2 := by unfold encL; split <;> simp
theorem flat_len (hl : List Nat) : ∀ l : List Nat, (l.flatMap (encL hl)).length ≤ 2 * l.length
  | [] => by simp
  | c :: r => by have := flat_len hl r; have := enc_len hl c; simp only [List.flatMap_cons, List.length_append, List.length_cons]; omega
theorem enc_sum (hl : List Nat) : ∀ l : List Nat, ((l.map fun c => S (encL hl c)).map (·.length)).sum ≤ 2 * l.length
  | [] => by simp
  | c :: r => by have := enc_sum hl r; have h2 := enc_len hl c; have h3 := S_len (encL hl c); simp only [List.map_cons, List.sum_cons, List.length_cons]; omega
theorem in_iff (H : Str) (c : Nat) : (Builtin.Str.occurrences H { cps := #[c] } 0 H.length 1).isEmpty = !decide (c ∈ H.cps.toList) := by
  rw [← StrLaws.found_one, Bool.not_not]
theorem nil_iff (l : List Nat) : (S l == Str.ofString "") = decide (l = []) := by
  rw [Bool.eq_iff_iff, decide_eq_true_eq]
  constructor
  · intro h
    have e2 : (S l).cps.toList = (Str.ofString "").cps.toList := by rw [show S l = Str.ofString "" from eq_of_beq h]
    rw [show (Str.ofString "").cps.toList = [] from by decide +kernel] at e2
    simpa using e2
  · rintro rfl; decide +kernel
theorem slice_first (wd : List Nat) : Txt.slice (S wd) none (some 1) = S (wd.take 1) := by
  cases wd with
  | nil => decide +kernel
  | cons a r =>
    have e := slice_closes_to (x := S (a :: r)) (j := 1) ⟨by omega, by simp; omega⟩
    have e2 := eq_of_beq e
    rw [e2]
    simp
theorem sgl_eq (a : List Nat) (d : Nat) : (S a == S [d]) = decide (a = [d]) := by
  rw [Bool.eq_iff_iff, decide_eq_true_eq]
  constructor
  · intro h
    have e2 : (S a).cps.toList = (S [d]).cps.toList := by rw [show S a = S [d] from eq_of_beq h]
    simpa using e2
  · rintro rfl; exact beq_self_eq_true _
theorem first_iff (wd : List Nat) : (Txt.slice (S wd) none (some 1) == Str.ofString "\"") = decide (wd.take 1 = [34]) := by
  rw [slice_first, show Str.ofString "\"" = S [34] from by decide +kernel, sgl_eq]
theorem writ_q {wd : List Nat} {way : Nat} {gp hl : List Nat} (hh : hid wd way = hl) (h : way < 2 ∨ wd = []) : Str.ofString "\"" ++ S (wd.flatMap (encL hl)) ++ Str.ofString "\"" ++ S gp = S (writ wd way gp) := by
  rw [show Str.ofString "\"" = S [34] from by decide +kernel, S_app, S_app, S_app]
  unfold writ
  rw [if_pos h, hh]
theorem writ_g {wd : List Nat} {way : Nat} {gp hl : List Nat} (hh : hid wd way = hl) (h : ¬ way < 2) (hw : (S wd == Str.ofString "") = false) (hg : ((S gp).length : Int) ≠ 0) : S (wd.flatMap (encL hl)) ++ S gp = S (writ wd way gp) := by
  rw [S_app]
  unfold writ
  rw [nil_iff] at hw
  rw [S_len] at hg
  rw [if_neg (by simp only [decide_eq_false_iff_not] at hw; exact fun q => q.elim h hw), hh, if_neg (by rintro rfl; exact hg rfl)]
theorem writ_e {wd : List Nat} {way : Nat} {gp hl : List Nat} (hh : hid wd way = hl) (h : ¬ way < 2) (hw : (S wd == Str.ofString "") = false) (hg : ((S gp).length : Int) = 0) : S (wd.flatMap (encL hl)) ++ Str.ofString "\x0d" = S (writ wd way gp) := by
  rw [show Str.ofString "\x0d" = S [13] from by decide +kernel, S_app]
  unfold writ
  rw [nil_iff] at hw
  rw [S_len] at hg
  rw [if_neg (by simp only [decide_eq_false_iff_not] at hw; exact fun q => q.elim h hw), hh, if_pos (List.length_eq_zero_iff.mp (by omega : gp.length = 0))]

end Mine
end partWrit

/- the part FWrit -/
section
open PySem PySem.W PySem.Calls PyProof.Rows PySem.Spec
namespace Mine
theorem fresh_FWrit (prog : Program) (w : World) (A : Around) (env : Env) (s : Shared) (Q : Flow → Shared → Prop) (E : Value → Shared → Prop) (h : Q .next s) :
    wpAny (model prog w) A (execs [] env) Q E s := by
  w_top off
  walk1
  exact h
end Mine
end
section partFWrit
open PySem PySem.W PySem.Calls PyProof.Rows PySem.Spec
set_option maxHeartbeats 1600000
namespace Mine
open K
local macro_rules | `(tactic| walk_at "eval ListComp") => `(tactic| (k_here; k_dflt (refine ListComp_S (F₀ := by k_asm) (by with_unfolding_all rfl) (by decide) (by rfl) (by decide) (by rfl) ?_)))
theorem written_told0 (rest : List (Addr × Obj)) (wd gp : List Nat) (tw ty tg : Tok) (hwl : wd.length ≤ 3) (hgl : gp.length ≤ 2) :
    Told w p loose mean mg mb 2 (.ref 82) [.str (S wd) tw, .int 0 ty, .str (S gp) tg] rest (fun r n' => n' = rest ∧ ∃ t, r = .str (S (writ wd 0 gp)) t) := by
  unfold Told
  k_fill
  intro dp un gd env outer A₀ base h₀ L m s Q B F X N T CH hf hk hd hu hret
  k_dflt (refine' enterC (binds := [("word", .str (S wd) tw), ("way", .int 0 ty), ("gap", .str (S gp) tg)]) ?k1 ?k2 ?k3 ?k4 ?k5 ?kc ?kA ?kF ?kK ?k6 ?k7 ?k8 ?k9 ?kB ?kD ?_ ?c2 ?c3 ?c4)
  case kA => exact rfl
  case kF => assumption
  case kK => assumption
  case k1 => k_asm
  case k2 => k_asm
  case k3 => k_asm
  case k4 => k_asm
  case k5 => k_asm
  case kc => assumption
  case k6 => k_dflt k_is
  case k7 => k_dflt k_is
  case k8 => (try simp only [depth_under_make, depth_under_kw, depth_in1, depth_deeper, depth_caller] at *); simp only [recursionLimit] at *; omega
  case k9 => exact BindsTo.of_eq rfl
  case c2 => exact rfl
  case c3 => exact rfl
  case c4 => exact rfl
  case kB => exact rfl
  case kD => decide +kernel
  intro g L1 h1 tk1 cells FG F1 N1 Y1 B1 X1 T1 CH1 l1
  try dsimp only
  k_fold
  k_cells Y1
  simp only [List.cons_append, List.nil_append] at N1
  k_steps
  · have hfr := ‹(Txt.slice (S wd) none (some 1) == Str.ofString "\"") = true›
    rw [first_iff] at hfr
    have hhid : hid wd 0 = [34, 92] := by
      unfold hid
      rfl
    refine ⟨S wd, tw, _, rfl, rfl, by assumption, by assumption, by rw [sizeLine_eq]; show (S wd).length ≤ _; rw [S_len]; omega, ?_⟩
    rintro s₂ ⟨g2, rfl⟩
    refine rest_gen (Inv := fun i ys nn => nn = _ ∧ StrsAre ys ((wd.take i).map fun c => S (encL ([34, 92]) c))) ⟨rfl, .nil⟩ ?turnu1 ?finu1
    case turnu1 =>
      rintro i ys nn v I oI C oC D m₂ h2 tk2 E' hi ⟨rfl, hys⟩ hP hC hx F2 N2 off ne
      obtain ⟨c, u, hc, rfl⟩ := hP
      dsimp only
      have hc2 : wd.take (i + 1) = wd.take i ++ [c] := by rw [List.take_add_one]; simp only [List.getElem?_toArray] at hc; rw [hc]; rfl
      k_steps
      · have hin := ‹(Builtin.Str.occurrences _ { cps := #[c] } 0 _ 1).isEmpty = true›
        rw [in_iff] at hin
        rw [show (Str.ofString "\"\\").cps.toList = [34, 92] from by decide +kernel] at hin
        refine LCg.CompEnd.intro (by assumption) N2 _ (fun _ h => h) off trivial ⟨rfl, ?_⟩
        rw [hc2, List.map_append]
        have he : S (encL ([34, 92]) c) = { cps := #[c] } := by
          unfold encL
          rw [Bool.not_eq_true'] at hin
          rw [if_neg (show ¬ c ∈ ([34, 92]) from of_decide_eq_false hin)]
        simp only [List.map_cons, List.map_nil, he]
        exact strs_snoc hys
      · have hin := ‹(Builtin.Str.occurrences _ { cps := #[c] } 0 _ 1).isEmpty = false›
        rw [in_iff] at hin
        rw [show (Str.ofString "\"\\").cps.toList = [34, 92] from by decide +kernel] at hin
        refine LCg.CompEnd.intro (by assumption) N2 _ (fun _ h => h) off trivial ⟨rfl, ?_⟩
        rw [hc2, List.map_append]
        have he : S (encL ([34, 92]) c) = Str.ofString "\\" ++ { cps := #[c] } := by
          unfold encL
          rw [Bool.not_eq_false'] at hin
          rw [if_pos (show c ∈ ([34, 92]) from of_decide_eq_true hin)]
          exact (by decide +kernel : S [92] = Str.ofString "\\") ▸ (S_app [92] [c]).symm
        simp only [List.map_cons, List.map_nil, he]
        exact strs_snoc hys
    case finu1 =>
      rintro ys nn ⟨rfl, hys⟩ D h2 tk2 F2 N2 off1
      k_steps
      have hbl := flat_len ([34, 92]) wd
      have hbs := enc_sum ([34, 92]) wd
      rw [show (S wd).cps.size = wd.length from S_len wd, List.take_length] at hys
      refine join_list (ys := wd.map fun c => S (encL ([34, 92]) c)) ⟨_, (N2 _ (List.mem_cons_self ..)).1, rfl, _, rfl⟩ (by simpa using hys) (by
        rw [show (Str.ofString "").length = 0 from by decide +kernel]; omega) (fun t5 k5 => ?_)
      rw [joinS2]
      have hbz : (S (wd.flatMap (encL ([34, 92])))).length ≤ 6 := by rw [S_len]; omega
      have hgz : (S gp).length ≤ 2 := by rw [S_len]; omega
      k_steps
      all_goals refine hret _ _ _ _ (by assumption) (news_of_sub (by assumption) ?_) ⟨rfl, _, congrArg (Value.str · _) ?_⟩
      all_goals first
        | exact writ_q hhid (.inl (by decide))
        | exact writ_q hhid (.inr (by have hq := ‹(S wd == Str.ofString "") = true›; rw [nil_iff] at hq; exact of_decide_eq_true hq))
        | exact writ_g hhid (by decide) (by assumption) (by assumption)
        | exact writ_e hhid (by decide) (by assumption) (by assumption)
        | (intro z hz; simp [hz])
  · have hfr := ‹(Txt.slice (S wd) none (some 1) == Str.ofString "\"") = false›
    rw [first_iff] at hfr
    have hhid : hid wd 0 = [34, 92] := by
      unfold hid
      rfl
    refine ⟨S wd, tw, _, rfl, rfl, by assumption, by assumption, by rw [sizeLine_eq]; show (S wd).length ≤ _; rw [S_len]; omega, ?_⟩
    rintro s₂ ⟨g2, rfl⟩
    refine rest_gen (Inv := fun i ys nn => nn = _ ∧ StrsAre ys ((wd.take i).map fun c => S (encL ([34, 92]) c))) ⟨rfl, .nil⟩ ?turnu2 ?finu2
    case turnu2 =>
      rintro i ys nn v I oI C oC D m₂ h2 tk2 E' hi ⟨rfl, hys⟩ hP hC hx F2 N2 off ne
      obtain ⟨c, u, hc, rfl⟩ := hP
      dsimp only
      have hc2 : wd.take (i + 1) = wd.take i ++ [c] := by rw [List.take_add_one]; simp only [List.getElem?_toArray] at hc; rw [hc]; rfl
      k_steps
      · have hin := ‹(Builtin.Str.occurrences _ { cps := #[c] } 0 _ 1).isEmpty = true›
        rw [in_iff] at hin
        rw [show (Str.ofString "\"\\").cps.toList = [34, 92] from by decide +kernel] at hin
        refine LCg.CompEnd.intro (by assumption) N2 _ (fun _ h => h) off trivial ⟨rfl, ?_⟩
        rw [hc2, List.map_append]
        have he : S (encL ([34, 92]) c) = { cps := #[c] } := by
          unfold encL
          rw [Bool.not_eq_true'] at hin
          rw [if_neg (show ¬ c ∈ ([34, 92]) from of_decide_eq_false hin)]
        simp only [List.map_cons, List.map_nil, he]
        exact strs_snoc hys
      · have hin := ‹(Builtin.Str.occurrences _ { cps := #[c] } 0 _ 1).isEmpty = false›
        rw [in_iff] at hin
        rw [show (Str.ofString "\"\\").cps.toList = [34, 92] from by decide +kernel] at hin
        refine LCg.CompEnd.intro (by assumption) N2 _ (fun _ h => h) off trivial ⟨rfl, ?_⟩
        rw [hc2, List.map_append]
        have he : S (encL ([34, 92]) c) = Str.ofString "\\" ++ { cps := #[c] } := by
          unfold encL
          rw [Bool.not_eq_false'] at hin
          rw [if_pos (show c ∈ ([34, 92]) from of_decide_eq_true hin)]
          exact (by decide +kernel : S [92] = Str.ofString "\\") ▸ (S_app [92] [c]).symm
        simp only [List.map_cons, List.map_nil, he]
        exact strs_snoc hys
    case finu2 =>
      rintro ys nn ⟨rfl, hys⟩ D h2 tk2 F2 N2 off1
      k_steps
      have hbl := flat_len ([34, 92]) wd
      have hbs := enc_sum ([34, 92]) wd
      rw [show (S wd).cps.size = wd.length from S_len wd, List.take_length] at hys
      refine join_list (ys := wd.map fun c => S (encL ([34, 92]) c)) ⟨_, (N2 _ (List.mem_cons_self ..)).1, rfl, _, rfl⟩ (by simpa using hys) (by
        rw [show (Str.ofString "").length = 0 from by decide +kernel]; omega) (fun t5 k5 => ?_)
      rw [joinS2]
      have hbz : (S (wd.flatMap (encL ([34, 92])))).length ≤ 6 := by rw [S_len]; omega
      have hgz : (S gp).length ≤ 2 := by rw [S_len]; omega
      k_steps
      all_goals refine hret _ _ _ _ (by assumption) (news_of_sub (by assumption) ?_) ⟨rfl, _, congrArg (Value.str · _) ?_⟩
      all_goals first
        | exact writ_q hhid (.inl (by decide))
        | exact writ_q hhid (.inr (by have hq := ‹(S wd == Str.ofString "") = true›; rw [nil_iff] at hq; exact of_decide_eq_true hq))
        | exact writ_g hhid (by decide) (by assumption) (by assumption)
        | exact writ_e hhid (by decide) (by assumption) (by assumption)
        | (intro z hz; simp [hz])
theorem written_told1 (rest : List (Addr × Obj)) (wd gp : List Nat) (tw ty tg : Tok) (hwl : wd.length ≤ 3) (hgl : gp.length ≤ 2) :
    Told w p loose mean mg mb 2 (.ref 82) [.str (S wd) tw, .int 1 ty, .str (S gp) tg] rest (fun r n' => n' = rest ∧ ∃ t, r = .str (S (writ wd 1 gp)) t) := by
  unfold Told
  k_fill
  intro dp un gd env outer A₀ base h₀ L m s Q B F X N T CH hf hk hd hu hret
  k_dflt (refine' enterC (binds := [("word", .str (S wd) tw), ("way", .int 1 ty), ("gap", .str (S gp) tg)]) ?k1 ?k2 ?k3 ?k4 ?k5 ?kc ?kA ?kF ?kK ?k6 ?k7 ?k8 ?k9 ?kB ?kD ?_ ?c2 ?c3 ?c4)
  case kA => exact rfl
  case kF => assumption
  case kK => assumption
  case k1 => k_asm
  case k2 => k_asm
  case k3 => k_asm
  case k4 => k_asm
  case k5 => k_asm
  case kc => assumption
  case k6 => k_dflt k_is
  case k7 => k_dflt k_is
  case k8 => (try simp only [depth_under_make, depth_under_kw, depth_in1, depth_deeper, depth_caller] at *); simp only [recursionLimit] at *; omega
  case k9 => exact BindsTo.of_eq rfl
  case c2 => exact rfl
  case c3 => exact rfl
  case c4 => exact rfl
  case kB => exact rfl
  case kD => decide +kernel
  intro g L1 h1 tk1 cells FG F1 N1 Y1 B1 X1 T1 CH1 l1
  try dsimp only
  k_fold
  k_cells Y1
  simp only [List.cons_append, List.nil_append] at N1
  k_steps
  · have hfr := ‹(Txt.slice (S wd) none (some 1) == Str.ofString "\"") = true›
    rw [first_iff] at hfr
    have hhid : hid wd 1 = wd := by
      unfold hid
      rfl
    refine ⟨S wd, tw, _, rfl, rfl, by assumption, by assumption, by rw [sizeLine_eq]; show (S wd).length ≤ _; rw [S_len]; omega, ?_⟩
    rintro s₂ ⟨g2, rfl⟩
    refine rest_gen (Inv := fun i ys nn => nn = _ ∧ StrsAre ys ((wd.take i).map fun c => S (encL (wd) c))) ⟨rfl, .nil⟩ ?turnu3 ?finu3
    case turnu3 =>
      rintro i ys nn v I oI C oC D m₂ h2 tk2 E' hi ⟨rfl, hys⟩ hP hC hx F2 N2 off ne
      obtain ⟨c, u, hc, rfl⟩ := hP
      dsimp only
      have hc2 : wd.take (i + 1) = wd.take i ++ [c] := by rw [List.take_add_one]; simp only [List.getElem?_toArray] at hc; rw [hc]; rfl
      k_steps
      · have hin := ‹(Builtin.Str.occurrences _ { cps := #[c] } 0 _ 1).isEmpty = true›
        rw [in_iff] at hin
        skip
        refine LCg.CompEnd.intro (by assumption) N2 _ (fun _ h => h) off trivial ⟨rfl, ?_⟩
        rw [hc2, List.map_append]
        have he : S (encL (wd) c) = { cps := #[c] } := by
          unfold encL
          rw [Bool.not_eq_true'] at hin
          rw [if_neg (show ¬ c ∈ (wd) from of_decide_eq_false hin)]
        simp only [List.map_cons, List.map_nil, he]
        exact strs_snoc hys
      · have hin := ‹(Builtin.Str.occurrences _ { cps := #[c] } 0 _ 1).isEmpty = false›
        rw [in_iff] at hin
        skip
        refine LCg.CompEnd.intro (by assumption) N2 _ (fun _ h => h) off trivial ⟨rfl, ?_⟩
        rw [hc2, List.map_append]
        have he : S (encL (wd) c) = Str.ofString "\\" ++ { cps := #[c] } := by
          unfold encL
          rw [Bool.not_eq_false'] at hin
          rw [if_pos (show c ∈ (wd) from of_decide_eq_true hin)]
          exact (by decide +kernel : S [92] = Str.ofString "\\") ▸ (S_app [92] [c]).symm
        simp only [List.map_cons, List.map_nil, he]
        exact strs_snoc hys
    case finu3 =>
      rintro ys nn ⟨rfl, hys⟩ D h2 tk2 F2 N2 off1
      k_steps
      have hbl := flat_len (wd) wd
      have hbs := enc_sum (wd) wd
      rw [show (S wd).cps.size = wd.length from S_len wd, List.take_length] at hys
      refine join_list (ys := wd.map fun c => S (encL (wd) c)) ⟨_, (N2 _ (List.mem_cons_self ..)).1, rfl, _, rfl⟩ (by simpa using hys) (by
        rw [show (Str.ofString "").length = 0 from by decide +kernel]; omega) (fun t5 k5 => ?_)
      rw [joinS2]
      have hbz : (S (wd.flatMap (encL (wd)))).length ≤ 6 := by rw [S_len]; omega
      have hgz : (S gp).length ≤ 2 := by rw [S_len]; omega
      k_steps
      all_goals refine hret _ _ _ _ (by assumption) (news_of_sub (by assumption) ?_) ⟨rfl, _, congrArg (Value.str · _) ?_⟩
      all_goals first
        | exact writ_q hhid (.inl (by decide))
        | exact writ_q hhid (.inr (by have hq := ‹(S wd == Str.ofString "") = true›; rw [nil_iff] at hq; exact of_decide_eq_true hq))
        | exact writ_g hhid (by decide) (by assumption) (by assumption)
        | exact writ_e hhid (by decide) (by assumption) (by assumption)
        | (intro z hz; simp [hz])
  · have hfr := ‹(Txt.slice (S wd) none (some 1) == Str.ofString "\"") = false›
    rw [first_iff] at hfr
    have hhid : hid wd 1 = wd := by
      unfold hid
      rfl
    refine ⟨S wd, tw, _, rfl, rfl, by assumption, by assumption, by rw [sizeLine_eq]; show (S wd).length ≤ _; rw [S_len]; omega, ?_⟩
    rintro s₂ ⟨g2, rfl⟩
    refine rest_gen (Inv := fun i ys nn => nn = _ ∧ StrsAre ys ((wd.take i).map fun c => S (encL (wd) c))) ⟨rfl, .nil⟩ ?turnu4 ?finu4
    case turnu4 =>
      rintro i ys nn v I oI C oC D m₂ h2 tk2 E' hi ⟨rfl, hys⟩ hP hC hx F2 N2 off ne
      obtain ⟨c, u, hc, rfl⟩ := hP
      dsimp only
      have hc2 : wd.take (i + 1) = wd.take i ++ [c] := by rw [List.take_add_one]; simp only [List.getElem?_toArray] at hc; rw [hc]; rfl
      k_steps
      · have hin := ‹(Builtin.Str.occurrences _ { cps := #[c] } 0 _ 1).isEmpty = true›
        rw [in_iff] at hin
        skip
        refine LCg.CompEnd.intro (by assumption) N2 _ (fun _ h => h) off trivial ⟨rfl, ?_⟩
        rw [hc2, List.map_append]
        have he : S (encL (wd) c) = { cps := #[c] } := by
          unfold encL
          rw [Bool.not_eq_true'] at hin
          rw [if_neg (show ¬ c ∈ (wd) from of_decide_eq_false hin)]
        simp only [List.map_cons, List.map_nil, he]
        exact strs_snoc hys
      · have hin := ‹(Builtin.Str.occurrences _ { cps := #[c] } 0 _ 1).isEmpty = false›
        rw [in_iff] at hin
        skip
        refine LCg.CompEnd.intro (by assumption) N2 _ (fun _ h => h) off trivial ⟨rfl, ?_⟩
        rw [hc2, List.map_append]
        have he : S (encL (wd) c) = Str.ofString "\\" ++ { cps := #[c] } := by
          unfold encL
          rw [Bool.not_eq_false'] at hin
          rw [if_pos (show c ∈ (wd) from of_decide_eq_true hin)]
          exact (by decide +kernel : S [92] = Str.ofString "\\") ▸ (S_app [92] [c]).symm
        simp only [List.map_cons, List.map_nil, he]
        exact strs_snoc hys
    case finu4 =>
      rintro ys nn ⟨rfl, hys⟩ D h2 tk2 F2 N2 off1
      k_steps
      have hbl := flat_len (wd) wd
      have hbs := enc_sum (wd) wd
      rw [show (S wd).cps.size = wd.length from S_len wd, List.take_length] at hys
      refine join_list (ys := wd.map fun c => S (encL (wd) c)) ⟨_, (N2 _ (List.mem_cons_self ..)).1, rfl, _, rfl⟩ (by simpa using hys) (by
        rw [show (Str.ofString "").length = 0 from by decide +kernel]; omega) (fun t5 k5 => ?_)
      rw [joinS2]
      have hbz : (S (wd.flatMap (encL (wd)))).length ≤ 6 := by rw [S_len]; omega
      have hgz : (S gp).length ≤ 2 := by rw [S_len]; omega
      k_steps
      all_goals refine hret _ _ _ _ (by assumption) (news_of_sub (by assumption) ?_) ⟨rfl, _, congrArg (Value.str · _) ?_⟩
      all_goals first
        | exact writ_q hhid (.inl (by decide))
        | exact writ_q hhid (.inr (by have hq := ‹(S wd == Str.ofString "") = true›; rw [nil_iff] at hq; exact of_decide_eq_true hq))
        | exact writ_g hhid (by decide) (by assumption) (by assumption)
        | exact writ_e hhid (by decide) (by assumption) (by assumption)
        | (intro z hz; simp [hz])
theorem written_told2 (rest : List (Addr × Obj)) (wd gp : List Nat) (tw ty tg : Tok) (hwl : wd.length ≤ 3) (hgl : gp.length ≤ 2) :
    Told w p loose mean mg mb 2 (.ref 82) [.str (S wd) tw, .int 2 ty, .str (S gp) tg] rest (fun r n' => n' = rest ∧ ∃ t, r = .str (S (writ wd 2 gp)) t) := by
  unfold Told
  k_fill
  intro dp un gd env outer A₀ base h₀ L m s Q B F X N T CH hf hk hd hu hret
  k_dflt (refine' enterC (binds := [("word", .str (S wd) tw), ("way", .int 2 ty), ("gap", .str (S gp) tg)]) ?k1 ?k2 ?k3 ?k4 ?k5 ?kc ?kA ?kF ?kK ?k6 ?k7 ?k8 ?k9 ?kB ?kD ?_ ?c2 ?c3 ?c4)
  case kA => exact rfl
  case kF => assumption
  case kK => assumption
  case k1 => k_asm
  case k2 => k_asm
  case k3 => k_asm
  case k4 => k_asm
  case k5 => k_asm
  case kc => assumption
  case k6 => k_dflt k_is
  case k7 => k_dflt k_is
  case k8 => (try simp only [depth_under_make, depth_under_kw, depth_in1, depth_deeper, depth_caller] at *); simp only [recursionLimit] at *; omega
  case k9 => exact BindsTo.of_eq rfl
  case c2 => exact rfl
  case c3 => exact rfl
  case c4 => exact rfl
  case kB => exact rfl
  case kD => decide +kernel
  intro g L1 h1 tk1 cells FG F1 N1 Y1 B1 X1 T1 CH1 l1
  try dsimp only
  k_fold
  k_cells Y1
  simp only [List.cons_append, List.nil_append] at N1
  k_steps
  · have hfr := ‹(Txt.slice (S wd) none (some 1) == Str.ofString "\"") = true›
    rw [first_iff] at hfr
    have hhid : hid wd 2 = wd := by
      unfold hid
      rfl
    refine ⟨S wd, tw, _, rfl, rfl, by assumption, by assumption, by rw [sizeLine_eq]; show (S wd).length ≤ _; rw [S_len]; omega, ?_⟩
    rintro s₂ ⟨g2, rfl⟩
    refine rest_gen (Inv := fun i ys nn => nn = _ ∧ StrsAre ys ((wd.take i).map fun c => S (encL (wd) c))) ⟨rfl, .nil⟩ ?turnu5 ?finu5
    case turnu5 =>
      rintro i ys nn v I oI C oC D m₂ h2 tk2 E' hi ⟨rfl, hys⟩ hP hC hx F2 N2 off ne
      obtain ⟨c, u, hc, rfl⟩ := hP
      dsimp only
      have hc2 : wd.take (i + 1) = wd.take i ++ [c] := by rw [List.take_add_one]; simp only [List.getElem?_toArray] at hc; rw [hc]; rfl
      k_steps
      · have hin := ‹(Builtin.Str.occurrences _ { cps := #[c] } 0 _ 1).isEmpty = true›
        rw [in_iff] at hin
        skip
        refine LCg.CompEnd.intro (by assumption) N2 _ (fun _ h => h) off trivial ⟨rfl, ?_⟩
        rw [hc2, List.map_append]
        have he : S (encL (wd) c) = { cps := #[c] } := by
          unfold encL
          rw [Bool.not_eq_true'] at hin
          rw [if_neg (show ¬ c ∈ (wd) from of_decide_eq_false hin)]
        simp only [List.map_cons, List.map_nil, he]
        exact strs_snoc hys
      · have hin := ‹(Builtin.Str.occurrences _ { cps := #[c] } 0 _ 1).isEmpty = false›
        rw [in_iff] at hin
        skip
        refine LCg.CompEnd.intro (by assumption) N2 _ (fun _ h => h) off trivial ⟨rfl, ?_⟩
        rw [hc2, List.map_append]
        have he : S (encL (wd) c) = Str.ofString "\\" ++ { cps := #[c] } := by
          unfold encL
          rw [Bool.not_eq_false'] at hin
          rw [if_pos (show c ∈ (wd) from of_decide_eq_true hin)]
          exact (by decide +kernel : S [92] = Str.ofString "\\") ▸ (S_app [92] [c]).symm
        simp only [List.map_cons, List.map_nil, he]
        exact strs_snoc hys
    case finu5 =>
      rintro ys nn ⟨rfl, hys⟩ D h2 tk2 F2 N2 off1
      k_steps
      have hbl := flat_len (wd) wd
      have hbs := enc_sum (wd) wd
      rw [show (S wd).cps.size = wd.length from S_len wd, List.take_length] at hys
      refine join_list (ys := wd.map fun c => S (encL (wd) c)) ⟨_, (N2 _ (List.mem_cons_self ..)).1, rfl, _, rfl⟩ (by simpa using hys) (by
        rw [show (Str.ofString "").length = 0 from by decide +kernel]; omega) (fun t5 k5 => ?_)
      rw [joinS2]
      have hbz : (S (wd.flatMap (encL (wd)))).length ≤ 6 := by rw [S_len]; omega
      have hgz : (S gp).length ≤ 2 := by rw [S_len]; omega
      k_steps
      all_goals refine hret _ _ _ _ (by assumption) (news_of_sub (by assumption) ?_) ⟨rfl, _, congrArg (Value.str · _) ?_⟩
      all_goals first
        | exact writ_q hhid (.inl (by decide))
        | exact writ_q hhid (.inr (by have hq := ‹(S wd == Str.ofString "") = true›; rw [nil_iff] at hq; exact of_decide_eq_true hq))
        | exact writ_g hhid (by decide) (by assumption) (by assumption)
        | exact writ_e hhid (by decide) (by assumption) (by assumption)
        | (intro z hz; simp [hz])
  · have hfr := ‹(Txt.slice (S wd) none (some 1) == Str.ofString "\"") = false›
    rw [first_iff] at hfr
    have hhid : hid wd 2 = wd := by
      unfold hid
      rfl
    refine ⟨S wd, tw, _, rfl, rfl, by assumption, by assumption, by rw [sizeLine_eq]; show (S wd).length ≤ _; rw [S_len]; omega, ?_⟩
    rintro s₂ ⟨g2, rfl⟩
    refine rest_gen (Inv := fun i ys nn => nn = _ ∧ StrsAre ys ((wd.take i).map fun c => S (encL (wd) c))) ⟨rfl, .nil⟩ ?turnu6 ?finu6
    case turnu6 =>
      rintro i ys nn v I oI C oC D m₂ h2 tk2 E' hi ⟨rfl, hys⟩ hP hC hx F2 N2 off ne
      obtain ⟨c, u, hc, rfl⟩ := hP
      dsimp only
      have hc2 : wd.take (i + 1) = wd.take i ++ [c] := by rw [List.take_add_one]; simp only [List.getElem?_toArray] at hc; rw [hc]; rfl
      k_steps
      · have hin := ‹(Builtin.Str.occurrences _ { cps := #[c] } 0 _ 1).isEmpty = true›
        rw [in_iff] at hin
        skip
        refine LCg.CompEnd.intro (by assumption) N2 _ (fun _ h => h) off trivial ⟨rfl, ?_⟩
        rw [hc2, List.map_append]
        have he : S (encL (wd) c) = { cps := #[c] } := by
          unfold encL
          rw [Bool.not_eq_true'] at hin
          rw [if_neg (show ¬ c ∈ (wd) from of_decide_eq_false hin)]
        simp only [List.map_cons, List.map_nil, he]
        exact strs_snoc hys
      · have hin := ‹(Builtin.Str.occurrences _ { cps := #[c] } 0 _ 1).isEmpty = false›
        rw [in_iff] at hin
        skip
        refine LCg.CompEnd.intro (by assumption) N2 _ (fun _ h => h) off trivial ⟨rfl, ?_⟩
        rw [hc2, List.map_append]
        have he : S (encL (wd) c) = Str.ofString "\\" ++ { cps := #[c] } := by
          unfold encL
          rw [Bool.not_eq_false'] at hin
          rw [if_pos (show c ∈ (wd) from of_decide_eq_true hin)]
          exact (by decide +kernel : S [92] = Str.ofString "\\") ▸ (S_app [92] [c]).symm
        simp only [List.map_cons, List.map_nil, he]
        exact strs_snoc hys
    case finu6 =>
      rintro ys nn ⟨rfl, hys⟩ D h2 tk2 F2 N2 off1
      k_steps
      have hbl := flat_len (wd) wd
      have hbs := enc_sum (wd) wd
      rw [show (S wd).cps.size = wd.length from S_len wd, List.take_length] at hys
      refine join_list (ys := wd.map fun c => S (encL (wd) c)) ⟨_, (N2 _ (List.mem_cons_self ..)).1, rfl, _, rfl⟩ (by simpa using hys) (by
        rw [show (Str.ofString "").length = 0 from by decide +kernel]; omega) (fun t5 k5 => ?_)
      rw [joinS2]
      have hbz : (S (wd.flatMap (encL (wd)))).length ≤ 6 := by rw [S_len]; omega
      have hgz : (S gp).length ≤ 2 := by rw [S_len]; omega
      k_steps
      all_goals refine hret _ _ _ _ (by assumption) (news_of_sub (by assumption) ?_) ⟨rfl, _, congrArg (Value.str · _) ?_⟩
      all_goals first
        | exact writ_q hhid (.inl (by decide))
        | exact writ_q hhid (.inr (by have hq := ‹(S wd == Str.ofString "") = true›; rw [nil_iff] at hq; exact of_decide_eq_true hq))
        | exact writ_g hhid (by decide) (by assumption) (by assumption)
        | exact writ_e hhid (by decide) (by assumption) (by assumption)
        | (intro z hz; simp [hz])
theorem written_told3 (rest : List (Addr × Obj)) (wd gp : List Nat) (tw ty tg : Tok) (hwl : wd.length ≤ 3) (hgl : gp.length ≤ 2) :
    Told w p loose mean mg mb 2 (.ref 82) [.str (S wd) tw, .int 3 ty, .str (S gp) tg] rest (fun r n' => n' = rest ∧ ∃ t, r = .str (S (writ wd 3 gp)) t) := by
  unfold Told
  k_fill
  intro dp un gd env outer A₀ base h₀ L m s Q B F X N T CH hf hk hd hu hret
  k_dflt (refine' enterC (binds := [("word", .str (S wd) tw), ("way", .int 3 ty), ("gap", .str (S gp) tg)]) ?k1 ?k2 ?k3 ?k4 ?k5 ?kc ?kA ?kF ?kK ?k6 ?k7 ?k8 ?k9 ?kB ?kD ?_ ?c2 ?c3 ?c4)
  case kA => exact rfl
  case kF => assumption
  case kK => assumption
  case k1 => k_asm
  case k2 => k_asm
  case k3 => k_asm
  case k4 => k_asm
  case k5 => k_asm
  case kc => assumption
  case k6 => k_dflt k_is
  case k7 => k_dflt k_is
  case k8 => (try simp only [depth_under_make, depth_under_kw, depth_in1, depth_deeper, depth_caller] at *); simp only [recursionLimit] at *; omega
  case k9 => exact BindsTo.of_eq rfl
  case c2 => exact rfl
  case c3 => exact rfl
  case c4 => exact rfl
  case kB => exact rfl
  case kD => decide +kernel
  intro g L1 h1 tk1 cells FG F1 N1 Y1 B1 X1 T1 CH1 l1
  try dsimp only
  k_fold
  k_cells Y1
  simp only [List.cons_append, List.nil_append] at N1
  k_steps
  · have hfr := ‹(Txt.slice (S wd) none (some 1) == Str.ofString "\"") = true›
    rw [first_iff] at hfr
    have hhid : hid wd 3 = [9, 10, 13, 32, 92] ++ [34] := by
      unfold hid
      rw [if_pos (by simpa using hfr)]; rfl
    refine ⟨S wd, tw, _, rfl, rfl, by assumption, by assumption, by rw [sizeLine_eq]; show (S wd).length ≤ _; rw [S_len]; omega, ?_⟩
    rintro s₂ ⟨g2, rfl⟩
    refine rest_gen (Inv := fun i ys nn => nn = _ ∧ StrsAre ys ((wd.take i).map fun c => S (encL ([9, 10, 13, 32, 92] ++ [34]) c))) ⟨rfl, .nil⟩ ?turnu7 ?finu7
    case turnu7 =>
      rintro i ys nn v I oI C oC D m₂ h2 tk2 E' hi ⟨rfl, hys⟩ hP hC hx F2 N2 off ne
      obtain ⟨c, u, hc, rfl⟩ := hP
      dsimp only
      have hc2 : wd.take (i + 1) = wd.take i ++ [c] := by rw [List.take_add_one]; simp only [List.getElem?_toArray] at hc; rw [hc]; rfl
      k_steps
      · have hin := ‹(Builtin.Str.occurrences _ { cps := #[c] } 0 _ 1).isEmpty = true›
        rw [in_iff] at hin
        rw [show (Str.ofString "\t\n\x0d \\\"").cps.toList = [9, 10, 13, 32, 92] ++ [34] from by decide +kernel] at hin
        refine LCg.CompEnd.intro (by assumption) N2 _ (fun _ h => h) off trivial ⟨rfl, ?_⟩
        rw [hc2, List.map_append]
        have he : S (encL ([9, 10, 13, 32, 92] ++ [34]) c) = { cps := #[c] } := by
          unfold encL
          rw [Bool.not_eq_true'] at hin
          rw [if_neg (show ¬ c ∈ ([9, 10, 13, 32, 92] ++ [34]) from of_decide_eq_false hin)]
        simp only [List.map_cons, List.map_nil, he]
        exact strs_snoc hys
      · have hin := ‹(Builtin.Str.occurrences _ { cps := #[c] } 0 _ 1).isEmpty = false›
        rw [in_iff] at hin
        rw [show (Str.ofString "\t\n\x0d \\\"").cps.toList = [9, 10, 13, 32, 92] ++ [34] from by decide +kernel] at hin
        refine LCg.CompEnd.intro (by assumption) N2 _ (fun _ h => h) off trivial ⟨rfl, ?_⟩
        rw [hc2, List.map_append]
        have he : S (encL ([9, 10, 13, 32, 92] ++ [34]) c) = Str.ofString "\\" ++ { cps := #[c] } := by
          unfold encL
          rw [Bool.not_eq_false'] at hin
          rw [if_pos (show c ∈ ([9, 10, 13, 32, 92] ++ [34]) from of_decide_eq_true hin)]
          exact (by decide +kernel : S [92] = Str.ofString "\\") ▸ (S_app [92] [c]).symm
        simp only [List.map_cons, List.map_nil, he]
        exact strs_snoc hys
    case finu7 =>
      rintro ys nn ⟨rfl, hys⟩ D h2 tk2 F2 N2 off1
      k_steps
      have hbl := flat_len ([9, 10, 13, 32, 92] ++ [34]) wd
      have hbs := enc_sum ([9, 10, 13, 32, 92] ++ [34]) wd
      rw [show (S wd).cps.size = wd.length from S_len wd, List.take_length] at hys
      refine join_list (ys := wd.map fun c => S (encL ([9, 10, 13, 32, 92] ++ [34]) c)) ⟨_, (N2 _ (List.mem_cons_self ..)).1, rfl, _, rfl⟩ (by simpa using hys) (by
        rw [show (Str.ofString "").length = 0 from by decide +kernel]; omega) (fun t5 k5 => ?_)
      rw [joinS2]
      have hbz : (S (wd.flatMap (encL ([9, 10, 13, 32, 92] ++ [34])))).length ≤ 6 := by rw [S_len]; omega
      have hgz : (S gp).length ≤ 2 := by rw [S_len]; omega
      k_steps
      all_goals refine hret _ _ _ _ (by assumption) (news_of_sub (by assumption) ?_) ⟨rfl, _, congrArg (Value.str · _) ?_⟩
      all_goals first
        | exact writ_q hhid (.inl (by decide))
        | exact writ_q hhid (.inr (by have hq := ‹(S wd == Str.ofString "") = true›; rw [nil_iff] at hq; exact of_decide_eq_true hq))
        | exact writ_g hhid (by decide) (by assumption) (by assumption)
        | exact writ_e hhid (by decide) (by assumption) (by assumption)
        | (intro z hz; simp [hz])
  · have hfr := ‹(Txt.slice (S wd) none (some 1) == Str.ofString "\"") = false›
    rw [first_iff] at hfr
    have hhid : hid wd 3 = [9, 10, 13, 32, 92] ++ [] := by
      unfold hid
      rw [if_neg (by simpa using hfr)]; rfl
    refine ⟨S wd, tw, _, rfl, rfl, by assumption, by assumption, by rw [sizeLine_eq]; show (S wd).length ≤ _; rw [S_len]; omega, ?_⟩
    rintro s₂ ⟨g2, rfl⟩
    refine rest_gen (Inv := fun i ys nn => nn = _ ∧ StrsAre ys ((wd.take i).map fun c => S (encL ([9, 10, 13, 32, 92] ++ []) c))) ⟨rfl, .nil⟩ ?turnu8 ?finu8
    case turnu8 =>
      rintro i ys nn v I oI C oC D m₂ h2 tk2 E' hi ⟨rfl, hys⟩ hP hC hx F2 N2 off ne
      obtain ⟨c, u, hc, rfl⟩ := hP
      dsimp only
      have hc2 : wd.take (i + 1) = wd.take i ++ [c] := by rw [List.take_add_one]; simp only [List.getElem?_toArray] at hc; rw [hc]; rfl
      k_steps
      · have hin := ‹(Builtin.Str.occurrences _ { cps := #[c] } 0 _ 1).isEmpty = true›
        rw [in_iff] at hin
        rw [show (Str.ofString "\t\n\x0d \\").cps.toList = [9, 10, 13, 32, 92] ++ [] from by decide +kernel] at hin
        refine LCg.CompEnd.intro (by assumption) N2 _ (fun _ h => h) off trivial ⟨rfl, ?_⟩
        rw [hc2, List.map_append]
        have he : S (encL ([9, 10, 13, 32, 92] ++ []) c) = { cps := #[c] } := by
          unfold encL
          rw [Bool.not_eq_true'] at hin
          rw [if_neg (show ¬ c ∈ ([9, 10, 13, 32, 92] ++ []) from of_decide_eq_false hin)]
        simp only [List.map_cons, List.map_nil, he]
        exact strs_snoc hys
      · have hin := ‹(Builtin.Str.occurrences _ { cps := #[c] } 0 _ 1).isEmpty = false›
        rw [in_iff] at hin
        rw [show (Str.ofString "\t\n\x0d \\").cps.toList = [9, 10, 13, 32, 92] ++ [] from by decide +kernel] at hin
        refine LCg.CompEnd.intro (by assumption) N2 _ (fun _ h => h) off trivial ⟨rfl, ?_⟩
        rw [hc2, List.map_append]
        have he : S (encL ([9, 10, 13, 32, 92] ++ []) c) = Str.ofString "\\" ++ { cps := #[c] } := by
          unfold encL
          rw [Bool.not_eq_false'] at hin
          rw [if_pos (show c ∈ ([9, 10, 13, 32, 92] ++ []) from of_decide_eq_true hin)]
          exact (by decide +kernel : S [92] = Str.ofString "\\") ▸ (S_app [92] [c]).symm
        simp only [List.map_cons, List.map_nil, he]
        exact strs_snoc hys
    case finu8 =>
      rintro ys nn ⟨rfl, hys⟩ D h2 tk2 F2 N2 off1
      k_steps
      have hbl := flat_len ([9, 10, 13, 32, 92] ++ []) wd
      have hbs := enc_sum ([9, 10, 13, 32, 92] ++ []) wd
      rw [show (S wd).cps.size = wd.length from S_len wd, List.take_length] at hys
      refine join_list (ys := wd.map fun c => S (encL ([9, 10, 13, 32, 92] ++ []) c)) ⟨_, (N2 _ (List.mem_cons_self ..)).1, rfl, _, rfl⟩ (by simpa using hys) (by
        rw [show (Str.ofString "").length = 0 from by decide +kernel]; omega) (fun t5 k5 => ?_)
      rw [joinS2]
      have hbz : (S (wd.flatMap (encL ([9, 10, 13, 32, 92] ++ [])))).length ≤ 6 := by rw [S_len]; omega
      have hgz : (S gp).length ≤ 2 := by rw [S_len]; omega
      k_steps
      all_goals refine hret _ _ _ _ (by assumption) (news_of_sub (by assumption) ?_) ⟨rfl, _, congrArg (Value.str · _) ?_⟩
      all_goals first
        | exact writ_q hhid (.inl (by decide))
        | exact writ_q hhid (.inr (by have hq := ‹(S wd == Str.ofString "") = true›; rw [nil_iff] at hq; exact of_decide_eq_true hq))
        | exact writ_g hhid (by decide) (by assumption) (by assumption)
        | exact writ_e hhid (by decide) (by assumption) (by assumption)
        | (intro z hz; simp [hz])
theorem written_told (rest : List (Addr × Obj)) (wd gp : List Nat) (way : Nat) (tw ty tg : Tok) (hwl : wd.length ≤ 3) (hgl : gp.length ≤ 2) (hway : way < 4) :
    Told w p loose mean mg mb 2 (.ref 82) [.str (S wd) tw, .int way ty, .str (S gp) tg] rest (fun r n' => n' = rest ∧ ∃ t, r = .str (S (writ wd way gp)) t) := by
  obtain rfl | rfl | rfl | rfl : way = 0 ∨ way = 1 ∨ way = 2 ∨ way = 3 := by omega
  · exact written_told0 rest wd gp tw ty tg hwl hgl
  · exact written_told1 rest wd gp tw ty tg hwl hgl
  · exact written_told2 rest wd gp tw ty tg hwl hgl
  · exact written_told3 rest wd gp tw ty tg hwl hgl

end Mine
end partFWrit

/- the part FMeet -/
section
open PySem PySem.W PySem.Calls PyProof.Rows PySem.Spec
namespace Mine
theorem fresh_FMeet (prog : Program) (w : World) (A : Around) (env : Env) (s : Shared) (Q : Flow → Shared → Prop) (E : Value → Shared → Prop) (h : Q .next s) :
    wpAny (model prog w) A (execs [] env) Q E s := by
  w_top off
  walk1
  exact h
end Mine
end
section partFMeet
open PySem PySem.W PySem.Calls PyProof.Rows PySem.Spec
set_option maxHeartbeats 1600000
namespace Mine
open K (w p loose mean mg mb)
theorem filt_true (l : List Int) : l.filter (fun _ => true) = l := by simp
theorem m_zero {k M : Int} {ps : List Int} (hk : 0 < k) (h1 : M ∈ List.map (fun a => Int.fmod a k) (ps.filter (fun _ => true))) (h2 : ∀ a, a ∈ List.map (fun a => Int.fmod a k) (ps.filter (fun _ => true)) → M ≤ a) (h3 : ∃ x ∈ ps, x % k = 0) : M = 0 := by
  rw [filt_true] at h1 h2
  obtain ⟨x, hx, hx0⟩ := h3
  obtain ⟨y, hy, rfl⟩ := List.mem_map.mp h1
  have a1 := h2 _ (List.mem_map.mpr ⟨x, hx, rfl⟩)
  try simp only at a1 ⊢
  rw [Int.fmod_eq_emod_of_nonneg _ (Int.le_of_lt hk)] at a1 ⊢
  rw [Int.fmod_eq_emod_of_nonneg _ (Int.le_of_lt hk), hx0] at a1
  have := Int.emod_nonneg y (Int.ne_of_gt hk)
  omega
theorem m_low {M : Int} {ps : List Int} (h2 : ∀ a, a ∈ ps → a ≤ M) (h3 : ∃ x ∈ ps, 31 < x) : 31 < M := by
  obtain ⟨x, hx, h⟩ := h3
  have := h2 x hx
  omega
local macro_rules | `(tactic| walk_at "truthy ref") => `(tactic| (k_here; refine hold ?_))
local macro_rules | `(tactic| walk_at "exec While") => `(tactic| (k_here; refine hold ?_))
local macro_rules | `(tactic| walk_at "exec For Name Tuple cons nil") => `(tactic| (k_here; refine hold ?_))
local macro_rules | `(tactic| walk_at "call builtin:list.pop") => `(tactic| (k_here; k_dflt (refine' kl_pop ?F ?N ?e ?U ?z ?_; (case F => k_asm); (case N => k_asm); (case U => k_upd); (case e => exact ‹kl_last _ = some _›); (case z => (rw [sizeLine_eq]; simp only [List.length_append, List.length_cons, List.length_nil]; omega))); kl_rest))
local macro_rules | `(tactic| walk_at "compareOp In int ref") => `(tactic| (k_here; k_dflt (refine' kf_in ?N ?m ?i ?e ?_; (case N => k_asm); (case m => k_mem); (case i => exact ints_kf0 (by assumption)); (case e => exact ints_kf (by assumption) _))))
local macro_rules | `(tactic| walk_at "call builtin:list.remove") => `(tactic| (k_here; k_dflt (refine' kf_remove ?F ?N ?i ?e ?e2 ?U ?z ?_; (case F => k_asm); (case N => k_asm); (case U => k_upd); (case i => exact ints_kf0 (by assumption)); (case e => exact ‹kf_at _ _ = some _›); (case e2 => exact ‹ki_delL _ _ = some _›); (case z => (rw [sizeLine_eq]; simp only [List.length_append, List.length_cons, List.length_nil]; omega))); ki_rest))
local macro_rules | `(tactic| walk_at "call builtin:min") => `(tactic| (k_here; k_dflt (refine' min_list_N ?H ?F ?N ?l ?i ?z ?_; (case H => rfl); (case F => k_asm); (case N => k_asm); (case l => assumption); (case i => exact CarriedAll.intsOf (by assumption)); (case z => (rw [List.length_map, filt_true]; omega))); intro h' M' t' tk' F' N' hM1 hM2))
local macro_rules | `(tactic| walk_at "call builtin:max") => `(tactic| (k_here; k_dflt (refine' max_list_N ?H ?F ?N ?l ?i ?z ?_; (case H => rfl); (case F => k_asm); (case N => k_asm); (case l => exact ⟨_, (News.get (by assumption) (by k_mem)), rfl, _, rfl⟩); (case i => assumption); (case z => omega)); intro h' M' t' tk' F' N' hM1 hM2))
inductive MI1 (g : Heap) (L1 : Addr) (s : Shared) (tl : Addr) (rest : List (Addr × Obj)) (C : List Int) (n : Nat) (s' : Shared) : Prop
  | mk (h : Heap) (tk : Nat) (mm : Str → Option Value) (vs' : List Value) (ss : List Int) (e' : Nat) : n = ss.length → s' = { heap := h, gens := s.gens, drawn := s.drawn, toks := tk, os := s.os } → Fr g L1 h mm → mm (Str.ofString "spots") = some (.ref tl) →
    News g L1 h ((tl, W.listOf vs'.toArray e') :: rest) → IntsAre vs' ss → ss.Nodup → ss.length ≤ 15 → (∀ c ∈ C, c ∈ ss) → MI1 g L1 s tl rest C n s'
inductive MI2 (g : Heap) (L1 : Addr) (s : Shared) (tl D : Addr) (rest : List (Addr × Obj)) (C : List Int) (M : Nat) (n : Nat) (s' : Shared) : Prop
  | mk (h : Heap) (tk : Nat) (mm : Str → Option Value) (vp vr : List Value) (ps sr : List Int) (e1 e2 : Nat) (a : Nat) (ta : Tok) : n = 2 * sr.length + (ps.length - a) → s' = { heap := h, gens := s.gens, drawn := s.drawn, toks := tk, os := s.os } → Fr g L1 h mm →
    mm (Str.ofString "spots") = some (.ref tl) → mm (Str.ofString "piece") = some (.ref D) → mm (Str.ofString "at") = some (.int a ta) →
    News g L1 h ((D, W.listOf vp.toArray e1) :: (tl, W.listOf vr.toArray e2) :: rest) → IntsAre vp ps → IntsAre vr sr → Bfs C M ps sr a → a ≤ ps.length → 0 < ps.length → MI2 g L1 s tl D rest C M n s'
inductive MI3 (g : Heap) (L1 : Addr) (s : Shared) (tl D I Dt : Addr) (tup : Array Value) (rest : List (Addr × Obj)) (C : List Int) (M : Nat) (a : Nat) (ta : Tok) (x : Int) (Z : Nat) (n : Nat) (s' : Shared) : Prop
  | mk (i : Nat) (h : Heap) (tk : Nat) (mm : Str → Option Value) (oI : Obj) (vp vr : List Value) (ps' sr' : List Int) (e1 e2 : Nat) : n + i = 6 → s' = { heap := h, gens := s.gens, drawn := s.drawn, toks := tk, os := s.os } → Fr g L1 h mm →
    mm (Str.ofString "spots") = some (.ref tl) → mm (Str.ofString "piece") = some (.ref D) → mm (Str.ofString "at") = some (.int a ta) →
    News g L1 h ((I, oI) :: (Dt, ({ cls := .type "tuple", data := .seq tup } : Obj)) :: (D, W.listOf vp.toArray e1) :: (tl, W.listOf vr.toArray e2) :: rest) → TupIt oI Dt i → IntsAre vp ps' → IntsAre vr sr' → Bfs C M ps' sr' a → ps'[a]? = some x →
    (∀ j e, j < i → steps[j]? = some e → x + e ∉ sr') → 2 * sr'.length + ps'.length ≤ Z → MI3 g L1 s tl D I Dt tup rest C M a ta x Z n s'
namespace Sk_meets_told
noncomputable abbrev zP : Type := (List (Addr × Obj)) × (Addr) × (List Value) × (List Int) × (List Int) × (Nat)
noncomputable def zG : zP × CV → Prop := fun ((rest, tl, vs, ns, C, e), cvx) => ∀ _ : ∀ q ∈ rest, q.1 ≠ tl, ∀ _ : IntsAre vs ns, ∀ _ : ns.Nodup, ∀ _ : ns.length ≤ 15, ∀ _ : Spans C, ∀ _ : ∀ c ∈ C, c ∈ ns,
  ToldAt w p loose mean mg mb 6 (.ref 99) ([.ref tl]) ((tl, W.listOf vs.toArray e) :: rest) (fun r n' => (∃ (vs' : List Value) (e' : Nat), n' = (tl, W.listOf vs'.toArray e') :: rest) ∧ r = .bool true) cvx
theorem zne : Nonempty (zP × CV) := ⟨(([], 0, [], [], [], 0), cv0)⟩
noncomputable def zv : zP × CV := @Classical.epsilon _ zne fun c => ¬ zG c
theorem zall (h : zG zv) (c : zP × CV) : zG c := Classical.byContradiction fun hx => @Classical.epsilon_spec _ (fun c => ¬ zG c) ⟨c, hx⟩ h
namespace K
@[irreducible] noncomputable def rest : List (Addr × Obj) := zv.1.1
@[irreducible] noncomputable def tl : Addr := zv.1.2.1
@[irreducible] noncomputable def vs : List Value := zv.1.2.2.1
@[irreducible] noncomputable def ns : List Int := zv.1.2.2.2.1
@[irreducible] noncomputable def C : List Int := zv.1.2.2.2.2.1
@[irreducible] noncomputable def e : Nat := zv.1.2.2.2.2.2
@[irreducible] noncomputable def dp : Nat := zv.2.1
@[irreducible] noncomputable def un : Nat := zv.2.2.1
@[irreducible] noncomputable def gd : Option (List Code) := zv.2.2.2.1
@[irreducible] noncomputable def env : Env := zv.2.2.2.2.1
@[irreducible] noncomputable def outer : List Env := zv.2.2.2.2.2.1
@[irreducible] noncomputable def A₀ : Around := zv.2.2.2.2.2.2.1
@[irreducible] noncomputable def base : Heap := zv.2.2.2.2.2.2.2.1
@[irreducible] noncomputable def h₀ : Heap := zv.2.2.2.2.2.2.2.2.1
@[irreducible] noncomputable def L : Addr := zv.2.2.2.2.2.2.2.2.2.1
@[irreducible] noncomputable def m : Str → Option Value := zv.2.2.2.2.2.2.2.2.2.2.1
@[irreducible] noncomputable def s : Shared := zv.2.2.2.2.2.2.2.2.2.2.2.1
@[irreducible] noncomputable def Q : Value → Shared → Prop := zv.2.2.2.2.2.2.2.2.2.2.2.2
end K
end Sk_meets_told
section
open Sk_meets_told.K
theorem Sk_meets_told.zeq : ((Sk_meets_told.K.rest, Sk_meets_told.K.tl, Sk_meets_told.K.vs, Sk_meets_told.K.ns, Sk_meets_told.K.C, Sk_meets_told.K.e), (Sk_meets_told.K.dp, Sk_meets_told.K.un, Sk_meets_told.K.gd, Sk_meets_told.K.env, Sk_meets_told.K.outer, Sk_meets_told.K.A₀, Sk_meets_told.K.base, Sk_meets_told.K.h₀, Sk_meets_told.K.L, Sk_meets_told.K.m, Sk_meets_told.K.s, Sk_meets_told.K.Q)) = Sk_meets_told.zv := by with_unfolding_all rfl
noncomputable def Sk_meets_told.zpb : { zPP : Heap → Addr → Heap → Prop // ∀ (hn1 : ∀ q ∈ rest, q.1 ≠ tl) (hi : IntsAre vs ns) (hnd : ns.Nodup) (hlen : ns.length ≤ 15) (hC : Spans C) (hCn : ∀ c ∈ C, c ∈ ns) (B : Below A₀ base outer h₀) (F : Fr h₀ L s.heap m) (X : (_root_.Mine.hd.heap_1 w.params).In h₀) (N : News h₀ L s.heap ((tl, W.listOf vs.toArray e) :: rest)) (T : Top p loose mean mg mb h₀) (CH : CodeHd h₀ 88 84) (hf : env.frame = some L) (hk : env.scope.kind = .function) (hd : dp + 6 < recursionLimit) (hu : un + 8 * 6 < cLine)
    (hret : ∀ r h' tk' news', Fr h₀ L h' m → News h₀ L h' news' → (fun r n' => (∃ (vs' : List Value) (e' : Nat), n' = (tl, W.listOf vs'.toArray e') :: rest) ∧ r = .bool true) r news' → Q r { heap := h', gens := s.gens, drawn := s.drawn, toks := tk', os := s.os }), (∀ g L1 h1, zPP g L1 h1) → codeAny (model PySem.Challenge.rw_kl0066_01.row.prog w) { handled := none, depth := dp, frames := some (env :: outer), guards := gd, units := un } (.call (.ref 99) ⟨[.ref tl], []⟩) (fun r s' => match r with | .ok (.ret v) => Q v s' | .ok _ => False | .error e => (fun _ _ => False) e s') s } := by
  refine' ⟨_, ?h⟩
  case h =>
    intro hn1 hi hnd hlen hC hCn B F X N T CH hf hk hd hu hret
    revert X
    k_fill
    intro X HH
    k_dflt (refine' enterP (binds := [("spots", .ref tl)]) ?k1 ?k2 ?k3 ?k4 ?k5 ?kc ?kA ?kF ?kK ?k6 ?k7 ?k8 ?k9 ?kB ?_ ?c2 ?c3 ?c4 ?c5)
    case kA => exact rfl
    case kF => assumption
    case kK => assumption
    case k1 => k_asm
    case k2 => k_asm
    case k3 => k_asm
    case k4 => k_asm
    case k5 => k_asm
    case kc => assumption
    case k6 => k_dflt k_is
    case k7 => k_dflt k_is
    case k8 => (try simp only [depth_under_make, depth_under_kw, depth_in1, depth_deeper, depth_caller] at *); simp only [recursionLimit] at *; omega
    case k9 => exact BindsTo.of_eq rfl
    case c2 => exact rfl
    case c3 => exact rfl
    case c4 => exact rfl
    case c5 => decide
    case kB => exact locs rfl
    intro g L1 h1
    revert hn1 hi hnd hlen hC hCn hd hu hret X
    exact HH g L1 h1
noncomputable def Sk_meets_told.zv2 : Heap × Addr × Heap := @Classical.epsilon _ ⟨(default, 0, default)⟩ fun c => ¬ Sk_meets_told.zpb.1 c.1 c.2.1 c.2.2
theorem Sk_meets_told.zall2 (h : Sk_meets_told.zpb.1 Sk_meets_told.zv2.1 Sk_meets_told.zv2.2.1 Sk_meets_told.zv2.2.2) (g : Heap) (L1 : Addr) (h1 : Heap) : Sk_meets_told.zpb.1 g L1 h1 := Classical.byContradiction fun hx => @Classical.epsilon_spec _ (fun c : Heap × Addr × Heap => ¬ Sk_meets_told.zpb.1 c.1 c.2.1 c.2.2) ⟨(g, L1, h1), hx⟩ h
namespace Sk_meets_told.K
@[irreducible] noncomputable def g : Heap := zv2.1
@[irreducible] noncomputable def L1 : Addr := zv2.2.1
@[irreducible] noncomputable def h1 : Heap := zv2.2.2
end Sk_meets_told.K
noncomputable def Sk_meets_told.K.qk : Flow → Shared → Prop := fun fl s' => LeaveK h₀ L m g (fun r s' => match r with | .ok (.ret v) => Q v s' | .ok _ => False | .error e => (fun _ _ => False) e s') (match fl with | .ret v => v | _ => .none) s'
local macro_rules | `(tactic| k_unfold) => `(tactic| ((with_reducible show Sk_meets_told.K.qk _ _); unfold Sk_meets_told.K.qk))
theorem Sk_meets_told.zbody : Sk_meets_told.zpb.1 g L1 h1 := by
  unfold Sk_meets_told.zpb
  dsimp only
  intro hn1 hi hnd hlen hC hCn hd hu hret X FG F1 N1 B1 X1 T1 CH1 l1
  dsimp only [List.reverse, List.reverseAux] at F1
  try dsimp only
  change wpAny _ _ _ qk _ _
  k_steps
  unfold Hold
  refine whileLoopS (MI1 g L1 s tl rest C) ?turn ns.length ?h0
  case h0 => exact ⟨h1, _, _, vs, ns, e, rfl, rfl, F1, rfl, N1, hi, hnd, hlen, hCn⟩
  case turn =>
    rintro n s9 ⟨h9, tk9, m9, vs9, ss, e9, rfl, rfl, F9, hm9, N9, hi9, hnd9, hl9, hC9⟩
    replace F9 := know1 F9 hm9
    have hne : ss ≠ [] := by
      rintro rfl
      obtain ⟨x, hx, _⟩ := hC.left
      exact absurd (hC9 x hx) (by simp)
    obtain ⟨pv, k, t, q, hlast, hq, hpi⟩ := ints_last hi9 hne
    have hvl : vs9.length = ss.length := hi9.length
    have hpl : pv.length = q.length := hpi.length
    have hsl : ss.length = q.length + 1 := by rw [hq]; simp
    k_steps
    unfold Hold
    refine kgr_truthy (vs := vs9) N9 (List.mem_cons_self ..) rfl rfl (by omega) ?_
    have hemp : vs9.isEmpty = false := by
      cases vs9 with
      | nil => simp only [List.length_nil] at hvl; omega
      | cons a b => rfl
    rw [hemp]
    clear hlen
    k_steps
    rename_i D _ lD _ hD FD ND
    unfold Hold
    have hnq : q.Nodup ∧ k ∉ q := by
      rw [hq] at hnd9
      rw [List.nodup_append] at hnd9
      exact ⟨hnd9.1, fun hm => hnd9.2.2 k hm k (by simp) rfl⟩
    have hDtl : @LT.lt Nat _ tl D := lD.1
    have hDr : ∀ p ∈ rest, p.1 < D := ktn_ltOf lD.2
    refine whileLoopS (MI2 g L1 s tl D rest C ss.length) ?turn2 (2 * q.length + ([k].length - 0)) ?h02
    case h02 =>
      refine ⟨hD, _, _, [.int k t], pv, [k], q, _, _, 0, _, rfl, rfl, FD, rfl, rfl, rfl, ND, .cons _ _ .nil, hpi, ⟨hnq.1, ?_, fun j x hj => absurd hj (by omega), by rw [hsl]; simp; omega⟩, by simp, by simp⟩
      intro c hc
      have := hC9 c hc
      rw [hq] at this
      rcases List.mem_append.mp this with h | h
      · exact .inr h
      · exact .inl h
    case turn2 =>
      clear FD ND
      rintro n sA ⟨hA, tkA, mA, vp, vr, ps, sr, e1, e2, a, ta, rfl, rfl, FA, hm1, hm2, hm3, NA, hip, hir, hB, hale, hps0⟩
      replace FA := know3 FA hm3 hm2 hm1
      have hpv : vp.length = ps.length := hip.length
      have hrv : vr.length = sr.length := hir.length
      have hsz := hB.size
      by_cases hcmp : (a : Int) < (ps.length : Int)
      · k_steps
        unfold Hold
        refine wpAny_For ?_
        k_steps
        rename_i Dt hT FT NT lT
        have htup : ∀ (i : Nat) (d : Int), steps[i]? = some d → ∃ u, (#[Value.int 1 tk, Value.int 8 (tk + 1), Value.int 9 (tk + 1 + 1), Value.int (-1) (tk + 1 + 1 + 1 + 1), Value.int (-8) (tk + 1 + 1 + 1 + 1 + 1 + 1), Value.int (-9) (tk + 1 + 1 + 1 + 1 + 1 + 1 + 1 + 1)] : Array Value)[i]? = some (.int d u) := by
          intro i d hd
          match i, hd with
          | 0, hd => cases hd; exact ⟨_, rfl⟩
          | 1, hd => cases hd; exact ⟨_, rfl⟩
          | 2, hd => cases hd; exact ⟨_, rfl⟩
          | 3, hd => cases hd; exact ⟨_, rfl⟩
          | 4, hd => cases hd; exact ⟨_, rfl⟩
          | 5, hd => cases hd; exact ⟨_, rfl⟩
          | _ + 6, hd => cases hd
        generalize htp : (#[Value.int 1 tk, Value.int 8 (tk + 1), Value.int 9 (tk + 1 + 1), Value.int (-1) (tk + 1 + 1 + 1 + 1), Value.int (-8) (tk + 1 + 1 + 1 + 1 + 1 + 1), Value.int (-9) (tk + 1 + 1 + 1 + 1 + 1 + 1 + 1 + 1)] : Array Value) = tup at htup
        replace NT : News g L1 hT ((Dt, ({ cls := .type "tuple", data := .seq tup } : Obj)) :: (D, W.listOf vp.toArray e1) :: (tl, W.listOf vr.toArray e2) :: rest) := by rw [← htp]; exact NT
        have htz : tup[6]? = none := by rw [← htp]; rfl
        clear htp
        refine' tup_iter ?F ?N ?hm ?_
        case F => assumption
        case N => assumption
        case hm => exact List.mem_cons_self ..
        intro I oI h8 F8 N8 hI l8
        have halt : a < ps.length := by omega
        obtain ⟨x, hx⟩ : ∃ x, ps[a]? = some x := ⟨_, List.getElem?_eq_getElem halt⟩
        have hIt : @LT.lt Nat _ Dt I := l8 _ (List.mem_cons_self ..)
        have hID : @LT.lt Nat _ D I := l8 _ (List.mem_cons_of_mem _ (List.mem_cons_self ..))
        have hItl : @LT.lt Nat _ tl I := l8 _ (List.mem_cons_of_mem _ (List.mem_cons_of_mem _ (List.mem_cons_self ..)))
        have hIr : ∀ p ∈ rest, p.1 < I := fun p hp => l8 p (by simp [hp])
        have htr : ∀ p ∈ rest, p.1 < Dt := ktn_ltOf lT.2.2
        have htD : @LT.lt Nat _ D Dt := lT.1
        have httl : @LT.lt Nat _ tl Dt := lT.2.1
        clear l8
        refine forLoopS (MI3 g L1 s tl D I Dt tup rest C ss.length a ta x (2 * sr.length + ps.length)) ?turn3 6 ?h03
        case h03 => exact ⟨0, h8, _, _, oI, vp, vr, ps, sr, _, _, rfl, rfl, F8, rfl, rfl, rfl, N8, hI, hip, hir, hB, hx, fun j e hj => absurd hj (by omega), Nat.le_refl _⟩
        case turn3 =>
          clear F8 N8 hI NT hip hir hB hx hm1 hm2 hm3 FT hpv hrv hsz
          rintro n sB ⟨i, hB9, tkB, mB, oI, vp, vr, ps', sr', e1, e2, hni, rfl, FB, hm1, hm2, hm3, NB, hI, hip, hir, hB, hx, hdn, hms⟩
          replace FB := know3 FB hm3 hm2 hm1
          have hpv : vp.length = ps'.length := hip.length
          have hrv : vr.length = sr'.length := hir.length
          have hsz := hB.size
          have halt' : a < ps'.length := by
            rcases Nat.lt_or_ge a ps'.length with h | h
            · exact h
            · rw [List.getElem?_eq_none h] at hx; cases hx
          have offB : ∀ p ∈ (Dt, ({ cls := .type "tuple", data := .seq tup } : Obj)) :: (D, W.listOf vp.toArray e1) :: (tl, W.listOf vr.toArray e2) :: rest, p.1 ≠ I := nes_cons (Nat.ne_of_lt hIt) (nes_cons (Nat.ne_of_lt hID) (nes_cons (Nat.ne_of_lt hItl) (fun p hp => Nat.ne_of_lt (hIr p hp))))
          by_cases hi6 : i = 6
          · refine tup_done rfl FB NB offB hI (List.mem_cons_self ..) (by rw [hi6]; exact htz) fun ha Fa Na => ?_
            clear FB NB
            dsimp only
            k_steps
            rename_i hz Fz Nz
            show Step _ _ _
            have hB' := hB.next hx (fun j e hj he => hdn j e (by omega) he)
            exact ⟨_, by omega, hz, _, _, vp, vr, ps', sr', e1, e2, a + 1, _, rfl, rfl, Fz, rfl, rfl, rfl, news_of_sub Nz (by repeat (first | with_reducible apply sub_nil | with_reducible apply sub_refl | with_reducible refine sub_cons (by with_reducible first | apply at0 | apply at1 | apply at2 | apply at3 | apply at4 | apply at5 | apply at6 | apply at7 | apply at8 | apply at9 | apply at10 | apply at11 | apply at12 | apply at13) ?_ | with_reducible refine sub_tail4 ?_ | with_reducible refine sub_tail ?_)), hip, hir, hB', by omega, by omega⟩
          · obtain ⟨d, hd⟩ : ∃ d, steps[i]? = some d := by
              have : i < steps.length := by show i < 6; omega
              exact ⟨_, List.getElem?_eq_getElem this⟩
            obtain ⟨u, hu⟩ := htup i d hd
            refine tup_next FB NB offB hI (List.mem_cons_self ..) hu fun oA ha Fa Na hA => ?_
            clear FB NB
            dsimp only
            have hgx : ps'.getD (a : Int).toNat 0 = x := by
              rw [Int.toNat_natCast, List.getD_eq_getElem?_getD, hx]; rfl
            by_cases hin : x + d ∈ sr'
            · obtain ⟨hB2, hx2, hdn2⟩ := hB.step hx hd hdn hin
              rw [← hgx] at hin
              obtain ⟨j, vq, hj1, hj2, hj3⟩ := ints_del hir hin
              k_steps
              all_goals try (exact absurd hin (by assumption))
              rename_i hz Fz Nz
              show Step _ n _
              rw [hgx] at hj3 Nz
              rw [List.push_toArray] at Nz
              have hs2 := hB2.size
              rw [List.length_append, List.length_singleton] at hs2
              exact ⟨n - 1, by omega, i + 1, hz, _, _, oA, _, vq, ps' ++ [x + d], sr'.erase (x + d), _, _, by omega, rfl, Fz, rfl, rfl, rfl, Nz, hA, ints_snoc hip _ _, hj3, hB2, hx2, hdn2, by rw [List.length_append, List.length_singleton]; omega⟩
            · rw [← hgx] at hin
              k_steps
              rename_i hz Fz Nz _ _
              show Step _ n _
              refine ⟨n - 1, by omega, i + 1, hz, _, _, oA, vp, vr, ps', sr', _, _, by omega, rfl, Fz, rfl, rfl, rfl, Nz, hA, hip, hir, hB, hx, ?_, hms⟩
              intro j e hj he hm
              by_cases hji : j = i
              · subst hji
                rw [hd] at he
                cases he
                rw [hgx] at hin
                exact hin hm
              · exact hdn j e (by omega) he hm
      · have haeq : a = ps.length := by omega
        subst haeq
        rcases hB.over hC with hov | hov
        · have hs8 : ∃ x ∈ ps, x % 8 = 0 := by obtain ⟨x, hx, h⟩ := hC.left; exact ⟨x, hov x hx, h⟩
          have hs9 : ∃ x ∈ ps, x % 9 = 0 := by obtain ⟨x, hx, h⟩ := hC.right; exact ⟨x, hov x hx, h⟩
          have hsl : ∃ x ∈ ps, 31 < x := by obtain ⟨x, hx, h⟩ := hC.low; exact ⟨x, hov x hx, h⟩
          k_steps
          · exact hret _ _ _ ((tl, W.listOf vr.toArray e2) :: rest) (by assumption) (news_of_sub (by assumption) (by intro z hz; exact List.mem_cons_of_mem _ hz)) ⟨⟨_, _, rfl⟩, rfl⟩
          · exact absurd (m_low (by assumption) hsl) (by assumption)
          · exact absurd (m_zero (by decide) (by assumption) (by assumption) hs9) (by assumption)
          · exact absurd (m_zero (by decide) (by assumption) (by assumption) hs8) (by assumption)
        · k_steps
          · exact hret _ _ _ ((tl, W.listOf vr.toArray e2) :: rest) (by assumption) (news_of_sub (by assumption) (by intro z hz; exact List.mem_cons_of_mem _ hz)) ⟨⟨_, _, rfl⟩, rfl⟩
          all_goals
            show Step _ _ _
            exact ⟨sr.length, by omega, _, _, _, vr, sr, _, rfl, rfl, (by assumption), rfl, news_of_sub (by assumption) (by intro z hz; exact List.mem_cons_of_mem _ hz), hir, hB.nodup, by omega, hov⟩
theorem Sk_meets_told.zeq2 : Sk_meets_told.zpb.1 g L1 h1 = Sk_meets_told.zpb.1 Sk_meets_told.zv2.1 Sk_meets_told.zv2.2.1 Sk_meets_told.zv2.2.2 := by with_unfolding_all rfl
theorem Sk_meets_told.zcore (hn1 : ∀ q ∈ rest, q.1 ≠ tl) (hi : IntsAre vs ns) (hnd : ns.Nodup) (hlen : ns.length ≤ 15) (hC : Spans C) (hCn : ∀ c ∈ C, c ∈ ns) (B : Below A₀ base outer h₀) (F : Fr h₀ L s.heap m) (X : (_root_.Mine.hd.heap_1 w.params).In h₀) (N : News h₀ L s.heap ((tl, W.listOf vs.toArray e) :: rest)) (T : Top p loose mean mg mb h₀) (CH : CodeHd h₀ 88 84) (hf : env.frame = some L) (hk : env.scope.kind = .function) (hd : dp + 6 < recursionLimit) (hu : un + 8 * 6 < cLine)
    (hret : ∀ r h' tk' news', Fr h₀ L h' m → News h₀ L h' news' → (fun r n' => (∃ (vs' : List Value) (e' : Nat), n' = (tl, W.listOf vs'.toArray e') :: rest) ∧ r = .bool true) r news' → Q r { heap := h', gens := s.gens, drawn := s.drawn, toks := tk', os := s.os }) : codeAny (model PySem.Challenge.rw_kl0066_01.row.prog w) { handled := none, depth := dp, frames := some (env :: outer), guards := gd, units := un } (.call (.ref 99) ⟨[.ref tl], []⟩) (fun r s' => match r with | .ok (.ret v) => Q v s' | .ok _ => False | .error e => (fun _ _ => False) e s') s :=
  Sk_meets_told.zpb.2 hn1 hi hnd hlen hC hCn B F X N T CH hf hk hd hu hret (Sk_meets_told.zall2 (Sk_meets_told.zeq2.mp Sk_meets_told.zbody))
theorem Sk_meets_told.zkey : Sk_meets_told.zG Sk_meets_told.zv := (congrArg Sk_meets_told.zG Sk_meets_told.zeq).mp Sk_meets_told.zcore
end
theorem meets_told (rest : List (Addr × Obj)) {tl : Addr} (vs : List Value) (ns : List Int) (C : List Int) (e : Nat) (hn1 : ∀ q ∈ rest, q.1 ≠ tl) (hi : IntsAre vs ns) (hnd : ns.Nodup) (hlen : ns.length ≤ 15) (hC : Spans C) (hCn : ∀ c ∈ C, c ∈ ns) : Told w p loose mean mg mb 6 (.ref 99) ([.ref tl]) ((tl, W.listOf vs.toArray e) :: rest) (fun r n' => (∃ (vs' : List Value) (e' : Nat), n' = (tl, W.listOf vs'.toArray e') :: rest) ∧ r = .bool true) :=
  told_at fun cvx => Sk_meets_told.zall Sk_meets_told.zkey ((rest, tl, vs, ns, C, e), cvx) hn1 hi hnd hlen hC hCn

end Mine
end partFMeet

/- the part Fl6 -/
section
open PySem PySem.W PySem.Calls PyProof.Rows PySem.Spec
namespace Mine
theorem fresh_Fl6 (prog : Program) (w : World) (A : Around) (env : Env) (s : Shared) (Q : Flow → Shared → Prop) (E : Value → Shared → Prop) (h : Q .next s) :
    wpAny (model prog w) A (execs [] env) Q E s := by
  w_top off
  walk1
  exact h
end Mine
end
section partFl6
namespace Mine
open PySem.Float64 PySem

theorem eps_lin : 2251799813685248 * eps = 1 := by rw [eps_eq]; decide +kernel
theorem eta_lin : 2199023255552 * eta = 1 := by rw [eta_eq]; decide +kernel
theorem eps_pos' : 0 < eps := by rw [eps_eq]; decide +kernel
theorem id1 (r q S : Rat) : r * (6 * S) = q * 6 * S + 6 * S + (r - (q + 1)) * (6 * S) := by grind
theorem id2 (r q S : Rat) : r * (6 * S) = q * 6 * S + (r - q) * (6 * S) := by grind
theorem cast_le {a b : Int} (h : a ≤ b) : (a : Rat) ≤ (b : Rat) := by exact_mod_cast h
theorem q_bound {p S q : Rat} {c : Rat} (hS : 0 < S) (hq : q * S = p) (h : p ≤ c * S) : q ≤ c :=
  Rat.le_of_mul_le_mul_right (c := S) (by grind) hS
theorem q_bound' {p S q : Rat} {c : Rat} (hS : 0 < S) (hq : q * S = p) (h : c * S ≤ p) : c ≤ q :=
  Rat.le_of_mul_le_mul_right (c := S) (by grind) hS

/-- the place on the wheel, of a number near p / S -/
theorem hue_near {x : UInt64} {p S : Int} (hS : 0 < S) (hS2 : S ≤ 1024) (hp1 : -S ≤ p) (hp2 : p ≤ 5 * S) (hx : Fn x) (h1 : rv x ≤ (p : Rat) / (S : Rat) + 4 * eps) (h2 : (p : Rat) / (S : Rat) ≤ rv x + 4 * eps) (h0 : p = 0 → rv x = 0) :
    Fn (divmod (div x 4618441417868443648) 4607182418800017408).snd ∧
    ∃ d : Rat, d ≤ 3 * eps ∧ -(3 * eps) ≤ d ∧ rv (divmod (div x 4618441417868443648) 4607182418800017408).snd * (6 * (S : Rat)) = (((if p < 0 then p + 6 * S else p) : Int) : Rat) + d * (6 * (S : Rat)) := by
  have hSr : (0 : Rat) < (S : Rat) := by exact_mod_cast hS
  have hSr2 : (S : Rat) ≤ 1024 := by have := cast_le hS2; exact this
  have hpr1 : -(S : Rat) ≤ (p : Rat) := by have := cast_le hp1; rwa [Rat.intCast_neg] at this
  have hpr2 : (p : Rat) ≤ 5 * (S : Rat) := by have := cast_le hp2; rw [Rat.intCast_mul] at this; exact this
  have hq : (p : Rat) / (S : Rat) * (S : Rat) = (p : Rat) := by grind
  have q1 : (p : Rat) / (S : Rat) ≤ 5 := q_bound hSr hq hpr2
  have q2 : -1 ≤ (p : Rat) / (S : Rat) := q_bound' hSr hq (by grind)
  have v6 : rv 4618441417868443648 = 6 := by rw [c6.rv1]; rfl
  have e := eps_lin
  have ep := eps_pos'
  have hz6 : rv x / 6 * 6 = rv x := by grind
  rw [← one_eq]
  by_cases hp0 : p = 0
  · subst hp0
    obtain ⟨g1, g2⟩ := div_zero hx c6.1 (h0 rfl) (by rw [v6]; decide)
    obtain ⟨f1, f2, _, _⟩ := dm_one g1 (by rw [g2]; decide) (by rw [g2]; decide)
    refine ⟨f1, 0, by grind, by grind, ?_⟩
    rw [f2 g2, if_neg (by decide)]
    have : ((0 : Int) : Rat) = 0 := rfl
    rw [this]
    grind
  · generalize hqq : (p : Rat) / (S : Rat) = q at *
    have hd := fun a b => div8 hx c6.1 (by rw [v6]; decide) (by rw [v6]; exact a) (by rw [v6]; exact b)
    rw [v6] at hd
    generalize hzz : rv x / 6 = z at *
    obtain ⟨g1, g2, g3⟩ := hd (by clear hzz hqq hq hpr1 hpr2 hSr2; grind) (by clear hzz hqq hq hpr1 hpr2 hSr2; grind)
    rcases Int.lt_or_lt_of_ne hp0 with hn | hps
    · have hq1 : q * 1024 ≤ -1 := by
        have : (p : Rat) ≤ -1 := by have := cast_le (show p ≤ -1 by omega); exact this
        have := q_bound (c := -1 / 1024) hSr hq (by grind)
        grind
      obtain ⟨f1, _, _, f4⟩ := dm_one g1 (by clear hzz hqq hq hpr1 hpr2 hSr2; grind) (by clear hzz hqq hq hpr1 hpr2 hSr2; grind)
      obtain ⟨k1, k2, k3⟩ := f4 (by clear hzz hqq hq hpr1 hpr2 hSr2; grind)
      refine ⟨f1, rv (divmod (div x 4618441417868443648) one).snd - (q / 6 + 1), ?_, ?_, ?_⟩
      · have hq6 : q / 6 * 6 = q := by grind
        generalize q / 6 = q6 at *
        clear hzz hqq hq hpr1 hpr2 hSr2; grind
      · have hq6 : q / 6 * 6 = q := by grind
        generalize q / 6 = q6 at *
        clear hzz hqq hq hpr1 hpr2 hSr2; grind
      · rw [if_pos hn, Rat.intCast_add, Rat.intCast_mul]
        have : ((6 : Int) : Rat) = 6 := rfl
        rw [this]
        generalize rv (divmod (div x 4618441417868443648) one).snd = r
        have hq6 : q / 6 * 6 = q := by grind
        generalize q / 6 = q6 at *
        rw [← hq]
        subst hq6
        exact id1 _ _ _
    · have hq1 : 1 ≤ q * 1024 := by
        have : (1 : Rat) ≤ (p : Rat) := by have := cast_le (show 1 ≤ p by omega); exact this
        have := q_bound' (c := 1 / 1024) hSr hq (by grind)
        grind
      obtain ⟨f1, _, f3, _⟩ := dm_one g1 (by clear hzz hqq hq hpr1 hpr2 hSr2; grind) (by clear hzz hqq hq hpr1 hpr2 hSr2; grind)
      have f3 := f3 (by clear hzz hqq hq hpr1 hpr2 hSr2; grind)
      refine ⟨f1, rv (div x 4618441417868443648) - q / 6, ?_, ?_, ?_⟩
      · have hq6 : q / 6 * 6 = q := by grind
        generalize q / 6 = q6 at *
        clear hzz hqq hq hpr1 hpr2 hSr2; grind
      · have hq6 : q / 6 * 6 = q := by grind
        generalize q / 6 = q6 at *
        clear hzz hqq hq hpr1 hpr2 hSr2; grind
      · rw [if_neg (by omega), f3]
        generalize rv (div x 4618441417868443648) = r
        have hq6 : q / 6 * 6 = q := by grind
        generalize q / 6 = q6 at *
        rw [← hq]
        subst hq6
        exact id2 _ _ _

theorem fr20 : Ex (ofFrac (decide ((1 : Int) < 0) != decide ((2 : Int) ^ Int.toNat 20 < 0)) (Int.natAbs 1) ((2 : Int) ^ Int.toNat 20).natAbs) 1 1054 := ⟨Fn.of (by decide +kernel), by decide +kernel⟩
theorem fr20_rv : rv (ofFrac (decide ((1 : Int) < 0) != decide ((2 : Int) ^ Int.toNat 20 < 0)) (Int.natAbs 1) ((2 : Int) ^ Int.toNat 20).natAbs) = 1 / 1048576 := by
  have h1 := rv_UU (ofFrac (decide ((1 : Int) < 0) != decide ((2 : Int) ^ Int.toNat 20 < 0)) (Int.natAbs 1) ((2 : Int) ^ Int.toNat 20).natAbs)
  have h := fr20
  generalize ofFrac (decide ((1 : Int) < 0) != decide ((2 : Int) ^ Int.toNat 20 < 0)) (Int.natAbs 1) ((2 : Int) ^ Int.toNat 20).natAbs = x at *
  have hU := UU_pos
  rw [h.2, Rat.intCast_mul, natInt] at h1
  have h2 : UU = ((2 ^ 1054 : Nat) : Rat) * 1048576 := by
    have : UN = 2 ^ 1054 * 1048576 := by rw [UN_eq]; decide +kernel
    rw [UU_UN]
    rw [this, Rat.natCast_mul]
    rfl
  have h3 : ((1 : Int) : Rat) = 1 := rfl
  rw [h3] at h1
  generalize ((2 ^ 1054 : Nat) : Rat) = K at *
  have : (Mine.rv x - 1 / 1048576) * UU = 0 := by grind
  rcases Rat.mul_eq_zero.mp this with h | h <;> grind

/-- the whole place, told from the hue -/
theorem place_far {h : UInt64} {P S : Int} (hS : 0 < S) (hS2 : S ≤ 1024) (hP : 0 ≤ P) (hP2 : P ≤ 6 * S) (hf : Fn h) {d : Rat} (d1 : d ≤ 3 * eps) (d2 : -(3 * eps) ≤ d) (he : rv h * (6 * (S : Rat)) = (P : Rat) + d * (6 * (S : Rat))) :
    isNaN (add (mul (mul h (ofInt 6)) (ofInt S)) 4602678819172646912) = false ∧ isInf (add (mul (mul h (ofInt 6)) (ofInt S)) 4602678819172646912) = false ∧ Flt.toInt truncOf (add (mul (mul h (ofInt 6)) (ofInt S)) 4602678819172646912) = P ∧
    (cmp (abs (sub (mul (mul h (ofInt 6)) (ofInt S)) (ofInt P))) (ofFrac (decide ((1 : Int) < 0) != decide ((2 : Int) ^ Int.toNat 20 < 0)) (Int.natAbs 1) ((2 : Int) ^ Int.toNat 20).natAbs) == some Ordering.gt ||
      cmp (abs (sub (mul (mul h (ofInt 6)) (ofInt S)) (ofInt P))) (ofFrac (decide ((1 : Int) < 0) != decide ((2 : Int) ^ Int.toNat 20 < 0)) (Int.natAbs 1) ((2 : Int) ^ Int.toNat 20).natAbs) == some Ordering.eq) = false := by
  have hSr : (1 : Rat) ≤ (S : Rat) := by have := cast_le (show 1 ≤ S by omega); exact this
  have hSr2 : (S : Rat) ≤ 1024 := by have := cast_le hS2; exact this
  have hPr : (0 : Rat) ≤ (P : Rat) := by have := cast_le hP; exact this
  have hPr2 : (P : Rat) ≤ 6 * (S : Rat) := by have := cast_le hP2; rw [Rat.intCast_mul] at this; exact this
  have e := eps_lin
  have ep := eps_pos'
  have e' := eta_lin
  have e6 := ofInt_ex 6 (by decide)
  have eS := ofInt_ex S (by omega)
  have eP := ofInt_ex P (by omega)
  have v6 : rv (ofInt 6) = 6 := by rw [e6.rv1]; rfl
  have vS := eS.rv1
  have vP := eP.rv1
  have vh : rv 4602678819172646912 = 1 / 2 := by rw [ch.rv]; decide +kernel
  have b1 : rv h ≤ 1 + d := by
    refine Rat.le_of_mul_le_mul_right (c := 6 * (S : Rat)) ?_ (by grind)
    grind
  have b2 : d ≤ rv h := by
    refine Rat.le_of_mul_le_mul_right (c := 6 * (S : Rat)) ?_ (by grind)
    grind
  obtain ⟨m1, m2, m3⟩ := mul8 hf e6.1 (by rw [v6]; grind) (by rw [v6]; grind)
  rw [v6] at m2 m3
  generalize mul h (ofInt 6) = y at *
  -- the product's bounds
  have y1 : rv y * (S : Rat) - (P : Rat) ≤ 19456 * eps := by
    have a1 : rv y ≤ rv h * 6 + eps := by grind
    have a2 := Rat.mul_le_mul_of_nonneg_right a1 (show (0 : Rat) ≤ (S : Rat) by grind)
    have a3 : (6 * d + eps) ≤ 19 * eps := by grind
    have a4 := Rat.mul_le_mul_of_nonneg_right a3 (show (0 : Rat) ≤ (S : Rat) by grind)
    have a5 : 19 * eps * (S : Rat) ≤ 19 * eps * 1024 := Rat.mul_le_mul_of_nonneg_left hSr2 (by grind)
    grind
  have y2 : -(19456 * eps) ≤ rv y * (S : Rat) - (P : Rat) := by
    have a1 : rv h * 6 - eps ≤ rv y := by grind
    have a2 := Rat.mul_le_mul_of_nonneg_right a1 (show (0 : Rat) ≤ (S : Rat) by grind)
    have a3 : -(19 * eps) ≤ (6 * d - eps) := by grind
    have a4 := Rat.mul_le_mul_of_nonneg_right a3 (show (0 : Rat) ≤ (S : Rat) by grind)
    have a5 : 19 * eps * (S : Rat) ≤ 19 * eps * 1024 := Rat.mul_le_mul_of_nonneg_left hSr2 (by grind)
    grind
  obtain ⟨X1, X2, X3⟩ := mul13 m1 eS.1 (by rw [vS]; grind) (by rw [vS]; grind)
  rw [vS] at X2 X3
  generalize mul y (ofInt S) = X at *
  generalize rv y * (S : Rat) = z at *
  have w1 : rv X - (P : Rat) ≤ 1 / 4194304 := by grind
  have w2 : -(1 / 4194304) ≤ rv X - (P : Rat) := by grind
  obtain ⟨A1, A2, A3⟩ := add13 X1 ch.1 (by rw [vh]; grind) (by rw [vh]; grind)
  rw [vh] at A2 A3
  obtain ⟨n1, n2, n3⟩ := trunc_of (P := P) A1 hP (by grind) (by grind) (by rw [Rat.intCast_add]; have : ((1 : Int) : Rat) = 1 := rfl; rw [this]; grind)
  refine ⟨n1, n2, n3, ?_⟩
  obtain ⟨s1, s2, s3⟩ := sub8 X1 eP.1 (by rw [vP]; grind) (by rw [vP]; grind)
  rw [vP] at s2 s3
  obtain ⟨f1, f2⟩ := abs_fn s1
  have hlt : rv (abs (sub X (ofInt P))) < rv (ofFrac (decide ((1 : Int) < 0) != decide ((2 : Int) ^ Int.toNat 20 < 0)) (Int.natAbs 1) ((2 : Int) ^ Int.toNat 20).natAbs) := by
    rw [fr20_rv]
    rcases f2 with f2 | f2 <;> rw [f2] <;> grind
  rw [(cmp_rv f1 fr20.1).1 hlt]
  rfl
end Mine
end partFl6

/- the part Fl7 -/
section
open PySem PySem.W PySem.Calls PyProof.Rows PySem.Spec
namespace Mine
theorem fresh_Fl7 (prog : Program) (w : World) (A : Around) (env : Env) (s : Shared) (Q : Flow → Shared → Prop) (E : Value → Shared → Prop) (h : Q .next s) :
    wpAny (model prog w) A (execs [] env) Q E s := by
  w_top off
  walk1
  exact h
end Mine
end
section partFl7
namespace Mine
open PySem.Float64 PySem

/-- idx is the place of the middle one of three -/
noncomputable def Med (a b c idx : Int) : Prop := (idx = 0 ∧ ((b ≤ a ∧ a ≤ c) ∨ (c ≤ a ∧ a ≤ b))) ∨ (idx = 1 ∧ ((a ≤ b ∧ b ≤ c) ∨ (c ≤ b ∧ b ≤ a))) ∨ (idx = 2 ∧ ((a ≤ c ∧ c ≤ b) ∨ (b ≤ c ∧ c ≤ a)))

theorem sub_mul' (a b c : Rat) : (a - b) * c = a * c - b * c := by grind
/-- what a corner shows, by the place's distance from it -/
theorem shw_abs {lo hi P c S a : Int} (hS : hi - lo = S) (ha : (if P - c * S < 0 then -(P - c * S) else P - c * S) = a) : shw lo hi P c = lo + if (if 2 * S - (if 6 * S - a < a then 6 * S - a else a) > 0 then 2 * S - (if 6 * S - a < a then 6 * S - a else a) else 0) < S then (if 2 * S - (if 6 * S - a < a then 6 * S - a else a) > 0 then 2 * S - (if 6 * S - a < a then 6 * S - a else a) else 0) else S := by
  unfold shw
  rw [hS, ha]
theorem shw_n {S a : Int} (h0 : 0 < S) (h1 : a ≤ S) : (if (if 2 * S - (if 6 * S - a < a then 6 * S - a else a) > 0 then 2 * S - (if 6 * S - a < a then 6 * S - a else a) else 0) < S then (if 2 * S - (if 6 * S - a < a then 6 * S - a else a) > 0 then 2 * S - (if 6 * S - a < a then 6 * S - a else a) else 0) else S) = S := by
  rw [if_neg (show ¬ 6 * S - a < a by lia), if_pos (show 2 * S - a > 0 by lia), if_neg (show ¬ 2 * S - a < S by lia)]
theorem shw_m {S a : Int} (h0 : 0 < S) (h1 : S ≤ a) (h2 : a ≤ 2 * S) : (if (if 2 * S - (if 6 * S - a < a then 6 * S - a else a) > 0 then 2 * S - (if 6 * S - a < a then 6 * S - a else a) else 0) < S then (if 2 * S - (if 6 * S - a < a then 6 * S - a else a) > 0 then 2 * S - (if 6 * S - a < a then 6 * S - a else a) else 0) else S) = 2 * S - a := by
  rw [if_neg (show ¬ 6 * S - a < a by lia)]
  (repeat' split) <;> lia
theorem shw_z {S a : Int} (h0 : 0 < S) (h1 : 2 * S ≤ a) (h2 : a ≤ 4 * S) : (if (if 2 * S - (if 6 * S - a < a then 6 * S - a else a) > 0 then 2 * S - (if 6 * S - a < a then 6 * S - a else a) else 0) < S then (if 2 * S - (if 6 * S - a < a then 6 * S - a else a) > 0 then 2 * S - (if 6 * S - a < a then 6 * S - a else a) else 0) else S) = 0 := by
  rw [if_neg (show ¬ 2 * S - (if 6 * S - a < a then 6 * S - a else a) > 0 by split <;> lia), if_pos h0]
theorem shw_f {S a : Int} (h0 : 0 < S) (h1 : 5 * S ≤ a) : (if (if 2 * S - (if 6 * S - a < a then 6 * S - a else a) > 0 then 2 * S - (if 6 * S - a < a then 6 * S - a else a) else 0) < S then (if 2 * S - (if 6 * S - a < a then 6 * S - a else a) > 0 then 2 * S - (if 6 * S - a < a then 6 * S - a else a) else 0) else S) = S := by
  rw [if_pos (show 6 * S - a < a by lia), if_pos (show 2 * S - (6 * S - a) > 0 by lia), if_neg (show ¬ 2 * S - (6 * S - a) < S by lia)]
theorem shw_g {S a : Int} (h0 : 0 < S) (h1 : 4 * S ≤ a) (h2 : a ≤ 5 * S) : (if (if 2 * S - (if 6 * S - a < a then 6 * S - a else a) > 0 then 2 * S - (if 6 * S - a < a then 6 * S - a else a) else 0) < S then (if 2 * S - (if 6 * S - a < a then 6 * S - a else a) > 0 then 2 * S - (if 6 * S - a < a then 6 * S - a else a) else 0) else S) = a - 4 * S := by
  rw [if_pos (show 6 * S - a < a by lia)]
  (repeat' split) <;> lia
theorem abs_p {D a : Int} (h : 0 ≤ a) (e : D = a) : (if D < 0 then -D else D) = a := by
  rw [if_neg (by lia), e]
theorem abs_m {D a : Int} (h : 0 ≤ a) (e : D = -a) : (if D < 0 then -D else D) = a := by
  split <;> lia
/-- the place of three, and what the corners show: by where the highest and the lowest lie; S the spread, d the middle one over the lowest -/
theorem shw_c {lo hi P S a v c : Int} (hS : hi - lo = S) (h : (0 ≤ a ∧ P - c * S = a) ∨ (0 ≤ a ∧ P - c * S = -a)) (h0 : 0 < S) (hv : (a ≤ S ∧ v = hi) ∨ ((S ≤ a ∧ a ≤ 2 * S) ∧ v = lo + (2 * S - a)) ∨ ((2 * S ≤ a ∧ a ≤ 4 * S) ∧ v = lo) ∨ ((4 * S ≤ a ∧ a ≤ 5 * S) ∧ v = lo + (a - 4 * S)) ∨ (5 * S ≤ a ∧ v = hi)) : shw lo hi P c = v := by
  have ha : (if P - c * S < 0 then -(P - c * S) else P - c * S) = a := h.elim (fun q => abs_p q.1 q.2) fun q => abs_m q.1 q.2
  rw [shw_abs hS ha]
  rcases hv with ⟨h1, e⟩ | ⟨h1, e⟩ | ⟨h1, e⟩ | ⟨h1, e⟩ | ⟨h1, e⟩
  · rw [shw_n h0 h1, e]; lia
  · rw [shw_m h0 h1.1 h1.2, e]
  · rw [shw_z h0 h1.1 h1.2, e]; lia
  · rw [shw_g h0 h1.1 h1.2, e]
  · rw [shw_f h0 h1, e]; lia

theorem fdiv_of {P S k : Int} (hS : 0 < S) (h1 : k * S ≤ P) (h2 : P < (k + 1) * S) : P.fdiv S = k := by
  rw [Int.fdiv_eq_ediv_of_nonneg _ (Int.le_of_lt hS)]
  have a1 := Int.le_ediv_of_mul_le hS h1
  have a2 := Int.ediv_lt_of_lt_mul hS h2
  omega
theorem idx_k {P S k : Int} (hS : 0 < S) (h1 : k * S ≤ P) (h2 : P < (k + 1) * S) : [(1 : Int), 0, 2].getD ((P.fdiv S).fmod 3).toNat 0 = [(1 : Int), 0, 2].getD (k.fmod 3).toNat 0 := by
  rw [fdiv_of hS h1 h2]

section
variable {i0 i1 i2 lo hi : Int} (b0 : 0 ≤ i0 ∧ i0 ≤ 1024) (b1 : 0 ≤ i1 ∧ i1 ≤ 1024) (b2 : 0 ≤ i2 ∧ i2 ≤ 1024)
  (al : lo = i0 ∨ lo = i1 ∨ lo = i2) (bl : lo ≤ i0 ∧ lo ≤ i1 ∧ lo ≤ i2) (ah : hi = i0 ∨ hi = i1 ∨ hi = i2) (bh : i0 ≤ hi ∧ i1 ≤ hi ∧ i2 ≤ hi)
include b0 b1 b2 al bl ah bh
theorem rgbD_near (hlt : lo < hi) {j : Int} (hj : lo ≤ j ∧ j ≤ hi) : ∃ q : Rat, q * ((hi - lo : Int) : Rat) = ((hi - j : Int) : Rat) ∧ 0 ≤ q ∧ q ≤ 1 ∧ Near (rgbD (lf i0) (lf i1) (lf i2) (lf j)) q eps := by
  have ex1 : Ex (sub (max3 (lf i0) (lf i1) (lf i2)) (lf j)) (hi - j) 1064 := by
    rw [max3_lf b0 b1 b2 ah bh]
    exact sub_ex (lf_ex (by omega)) (lf_ex (by omega)) (by omega) (by decide)
  have ex2 := rng_ex b0 b1 b2 al bl ah bh
  have hS : (0 : Rat) < ((hi - lo : Int) : Rat) := by
    have : 0 < hi - lo := by omega
    exact_mod_cast this
  have hq : ((hi - j : Int) : Rat) / ((hi - lo : Int) : Rat) * ((hi - lo : Int) : Rat) = ((hi - j : Int) : Rat) := by
    generalize ((hi - j : Int) : Rat) = a at *
    generalize ((hi - lo : Int) : Rat) = b at *
    grind
  have r1 : (0 : Rat) ≤ ((hi - j : Int) : Rat) := by have := cast_le (show 0 ≤ hi - j by omega); exact this
  have r2 : ((hi - j : Int) : Rat) ≤ ((hi - lo : Int) : Rat) := cast_le (by omega)
  have q0 := q_bound' (c := 0) hS hq (by rw [Rat.zero_mul]; exact r1)
  have q1 := q_bound (c := 1) hS hq (by rw [Rat.one_mul]; exact r2)
  refine ⟨_, hq, q0, q1, ?_⟩
  have e : rv (sub (max3 (lf i0) (lf i1) (lf i2)) (lf j)) / rv (sub (max3 (lf i0) (lf i1) (lf i2)) (min3 (lf i0) (lf i1) (lf i2))) = ((hi - j : Int) : Rat) / ((hi - lo : Int) : Rat) := by
    rw [ex1.rv, ex2.rv]
    generalize ((hi - j : Int) : Rat) = a at *
    generalize ((hi - lo : Int) : Rat) = b at *
    clear q0 q1 r1 r2 hq
    grind
  have h0 : rv (sub (max3 (lf i0) (lf i1) (lf i2)) (min3 (lf i0) (lf i1) (lf i2))) ≠ 0 := by
    rw [ex2.rv]
    generalize ((hi - lo : Int) : Rat) = b at *
    intro h
    grind
  unfold rgbD
  have h8 : (1 : Rat) ≤ 8 := by decide
  have hm8 : (-8 : Rat) ≤ 0 := by decide
  have := div8 ex1.1 ex2.1 h0 (by rw [e]; exact Rat.le_trans q1 h8) (by rw [e]; exact Rat.le_trans hm8 q0)
  rwa [e] at this

/-- the place before it is made less than one -/
theorem rgbP_near (hlt : lo < hi) : ∃ p : Int, (p = if i0 = hi then i1 - i2 else if i1 = hi then 2 * (hi - lo) + i2 - i0 else 4 * (hi - lo) + i0 - i1) ∧
    Fn (rgbP (lf i0) (lf i1) (lf i2)) ∧ rv (rgbP (lf i0) (lf i1) (lf i2)) ≤ (p : Rat) / ((hi - lo : Int) : Rat) + 4 * eps ∧ (p : Rat) / ((hi - lo : Int) : Rat) ≤ rv (rgbP (lf i0) (lf i1) (lf i2)) + 4 * eps ∧ (p = 0 → rv (rgbP (lf i0) (lf i1) (lf i2)) = 0) := by
  obtain ⟨qa, ea, la, ua, na⟩ := rgbD_near b0 b1 b2 al bl ah bh hlt (j := i0) (by omega)
  obtain ⟨qb, eb, lb, ub, nb⟩ := rgbD_near b0 b1 b2 al bl ah bh hlt (j := i1) (by omega)
  obtain ⟨qc, ec, lc, uc, nc⟩ := rgbD_near b0 b1 b2 al bl ah bh hlt (j := i2) (by omega)
  have hbc : i1 - i2 = 0 → rgbD (lf i0) (lf i1) (lf i2) (lf i1) = rgbD (lf i0) (lf i1) (lf i2) (lf i2) := by
    intro h
    have : i1 = i2 := by omega
    rw [this]
  have hS : (0 : Rat) < ((hi - lo : Int) : Rat) := by
    have : 0 < hi - lo := by omega
    exact_mod_cast this
  have e := eps_lin
  have ep := eps_pos'
  have v2 : rv 4611686018427387904 = 2 := by rw [c2.rv1]; rfl
  have v4 : rv 4616189618054758400 = 4 := by rw [c4.rv1]; rfl
  refine ⟨_, rfl, ?_⟩
  have fin : ∀ (p : Int) (q : Rat) (x : UInt64), q * ((hi - lo : Int) : Rat) = (p : Rat) → Near x q (4 * eps) → Fn x ∧ rv x ≤ (p : Rat) / ((hi - lo : Int) : Rat) + 4 * eps ∧ (p : Rat) / ((hi - lo : Int) : Rat) ≤ rv x + 4 * eps := by
    intro p q x hq hn
    have : (p : Rat) / ((hi - lo : Int) : Rat) = q := by
      rw [← hq]
      generalize ((hi - lo : Int) : Rat) = b at *
      clear ea eb ec
      grind
    rw [this]
    obtain ⟨n1, n2, n3⟩ := hn
    exact ⟨n1, by grind, by grind⟩
  have cS : ∀ a b : Int, ((a - b : Int) : Rat) = (a : Rat) - (b : Rat) := Rat.intCast_sub
  have cA : ∀ a b : Int, ((a + b : Int) : Rat) = (a : Rat) + (b : Rat) := Rat.intCast_add
  have cM : ∀ a b : Int, ((a * b : Int) : Rat) = (a : Rat) * (b : Rat) := Rat.intCast_mul
  have k2 : ((2 : Int) : Rat) = 2 := rfl
  have k4 : ((4 : Int) : Rat) = 4 := rfl
  unfold rgbP
  rw [max3_lf b0 b1 b2 ah bh, feq_lf b0 (by omega), feq_lf b1 (by omega)]
  generalize hA : rgbD (lf i0) (lf i1) (lf i2) (lf i0) = A at *
  generalize hB : rgbD (lf i0) (lf i1) (lf i2) (lf i1) = B at *
  generalize hC : rgbD (lf i0) (lf i1) (lf i2) (lf i2) = C at *
  clear hA hB hC
  obtain ⟨na1, na2, na3⟩ := na
  obtain ⟨nb1, nb2, nb3⟩ := nb
  obtain ⟨nc1, nc2, nc3⟩ := nc
  by_cases h0 : i0 = hi
  · rw [decide_eq_true h0, if_pos rfl, if_pos h0]
    have hq : (qc - qb) * ((hi - lo : Int) : Rat) = ((i1 - i2 : Int) : Rat) := by
      rw [cS, cS] at *
      clear na2 na3 nb2 nb3 nc2 nc3 e ep fin
      grind
    clear ea eb ec
    obtain ⟨s1, s2, s3⟩ := sub8 nc1 nb1 (by clear hq; grind) (by clear hq; grind)
    obtain ⟨f1, f2, f3⟩ := fin _ (qc - qb) _ hq ⟨s1, by clear hq; grind, by clear hq; grind⟩
    refine ⟨f1, f2, f3, fun hz => ?_⟩
    rw [hbc hz]
    exact (sub_self_zero nc1).2
  · rw [decide_eq_false h0, if_neg (by decide), if_neg h0]
    by_cases h1 : i1 = hi
    · rw [decide_eq_true h1, if_pos rfl, if_pos h1]
      have hq : (2 + qa - qc) * ((hi - lo : Int) : Rat) = ((2 * (hi - lo) + i2 - i0 : Int) : Rat) := by
        rw [cS (2 * (hi - lo) + i2), cA, cM, k2]
        rw [cS hi i0] at ea
        rw [cS hi i2] at ec
        rw [sub_mul', Rat.add_mul, ea, ec]
        clear na2 na3 nb2 nb3 nc2 nc3 e ep fin eb ea ec
        grind
      clear ea eb ec
      obtain ⟨s1, s2, s3⟩ := add8 c2.1 na1 (by rw [v2]; clear hq; grind) (by rw [v2]; clear hq; grind)
      rw [v2] at s2 s3
      obtain ⟨t1, t2, t3⟩ := sub8 s1 nc1 (by clear hq; grind) (by clear hq; grind)
      obtain ⟨f1, f2, f3⟩ := fin _ (2 + qa - qc) _ hq ⟨t1, by clear hq; grind, by clear hq; grind⟩
      exact ⟨f1, f2, f3, fun hz => by omega⟩
    · have h2 : i2 = hi := by omega
      rw [decide_eq_false h1, if_neg (by decide), if_neg h1]
      have hq : (4 + qb - qa) * ((hi - lo : Int) : Rat) = ((4 * (hi - lo) + i0 - i1 : Int) : Rat) := by
        rw [cS (4 * (hi - lo) + i0), cA, cM, k4]
        rw [cS hi i0] at ea
        rw [cS hi i1] at eb
        rw [sub_mul', Rat.add_mul, ea, eb]
        clear na2 na3 nb2 nb3 nc2 nc3 e ep fin eb ea ec
        grind
      clear ea eb ec
      obtain ⟨s1, s2, s3⟩ := add8 c4.1 nb1 (by rw [v4]; clear hq; grind) (by rw [v4]; clear hq; grind)
      rw [v4] at s2 s3
      obtain ⟨t1, t2, t3⟩ := sub8 s1 na1 (by clear hq; grind) (by clear hq; grind)
      obtain ⟨f1, f2, f3⟩ := fin _ (4 + qb - qa) _ hq ⟨t1, by clear hq; grind, by clear hq; grind⟩
      exact ⟨f1, f2, f3, fun hz => by omega⟩

/-- the whole place -/
noncomputable def plc (i0 i1 i2 lo hi : Int) : Int := if i0 = hi then (if i1 < i2 then i1 - i2 + 6 * (hi - lo) else i1 - i2) else if i1 = hi then 2 * (hi - lo) + i2 - i0 else 4 * (hi - lo) + i0 - i1
theorem plc_bound (hlt : lo < hi) : 0 ≤ plc i0 i1 i2 lo hi ∧ plc i0 i1 i2 lo hi < 6 * (hi - lo) := by
  unfold plc
  repeat' split
  all_goals omega
theorem plc_shw (hlt : lo < hi) : shw lo hi (plc i0 i1 i2 lo hi) 0 = i0 ∧ shw lo hi (plc i0 i1 i2 lo hi) 2 = i1 ∧ shw lo hi (plc i0 i1 i2 lo hi) 4 = i2 := by
  have hS : hi - lo = hi - lo := rfl
  have h0 : 0 < hi - lo := by clear b0 b1 b2 al bl ah bh; lia
  unfold plc
  by_cases c0 : i0 = hi
  · rw [if_pos c0]
    by_cases c1 : i1 < i2
    · have e1 : i1 = lo := by clear b0 b1 b2 ah; lia
      obtain ⟨q1, q2⟩ : lo ≤ i2 ∧ i2 ≤ hi := ⟨bl.2.2, bh.2.2⟩
      rw [if_pos c1, e1, c0]
      clear b0 b1 b2 al bl ah bh c0 e1
      clear c1
      exact ⟨shw_c hS (a := lo - i2 + 6 * (hi - lo)) (.inl (by lia)) h0 (.inr (.inr (.inr (.inr (by lia))))), shw_c hS (a := lo - i2 + 4 * (hi - lo)) (.inl (by lia)) h0 (.inr (.inr (.inl (by lia)))), shw_c hS (a := lo - i2 + 2 * (hi - lo)) (.inl (by lia)) h0 (.inr (.inl (by lia)))⟩
    · have e1 : i2 = lo := by clear b0 b1 b2 ah; lia
      obtain ⟨q1, q2⟩ : lo ≤ i1 ∧ i1 ≤ hi := ⟨bl.2.1, bh.2.1⟩
      rw [if_neg c1, e1, c0]
      clear b0 b1 b2 al bl ah bh c0 e1
      clear c1
      exact ⟨shw_c hS (a := i1 - lo) (.inl (by lia)) h0 (.inl (by lia)), shw_c hS (a := lo - i1 + 2 * (hi - lo)) (.inr (by lia)) h0 (.inr (.inl (by lia))), shw_c hS (a := lo - i1 + 4 * (hi - lo)) (.inr (by lia)) h0 (.inr (.inr (.inl (by lia))))⟩
  · rw [if_neg c0]
    by_cases c1 : i1 = hi
    · rw [if_pos c1, c1]
      obtain ⟨q1, q2⟩ : lo ≤ i0 ∧ i0 ≤ hi := ⟨bl.1, bh.1⟩
      obtain ⟨q3, q4⟩ : lo ≤ i2 ∧ i2 ≤ hi := ⟨bl.2.2, bh.2.2⟩
      have e1 : i0 = lo ∨ i2 = lo := by clear b0 b1 b2 ah; lia
      clear b0 b1 b2 al bl ah bh c0 c1
      rcases e1 with rfl | rfl
      · exact ⟨shw_c hS (a := 2 * (hi - i0) + i2 - i0) (.inl (by lia)) h0 (.inr (.inr (.inl (by lia)))), shw_c hS (a := i2 - i0) (.inl (by lia)) h0 (.inl (by lia)), shw_c hS (a := 2 * (hi - i0) - i2 + i0) (.inr (by lia)) h0 (.inr (.inl (by lia)))⟩
      · exact ⟨shw_c hS (a := 2 * (hi - i2) + i2 - i0) (.inl (by lia)) h0 (.inr (.inl (by lia))), shw_c hS (a := i0 - i2) (.inr (by lia)) h0 (.inl (by lia)), shw_c hS (a := 2 * (hi - i2) - i2 + i0) (.inr (by lia)) h0 (.inr (.inr (.inl (by lia))))⟩
    · have e2 : i2 = hi := by clear b0 b1 b2 al; lia
      rw [if_neg c1, e2]
      obtain ⟨q1, q2⟩ : lo ≤ i0 ∧ i0 ≤ hi := ⟨bl.1, bh.1⟩
      obtain ⟨q3, q4⟩ : lo ≤ i1 ∧ i1 ≤ hi := ⟨bl.2.1, bh.2.1⟩
      have e1 : i0 = lo ∨ i1 = lo := by clear b0 b1 b2 ah; lia
      clear b0 b1 b2 al bl ah bh c0 c1 e2
      rcases e1 with rfl | rfl
      · exact ⟨shw_c hS (a := 4 * (hi - i0) + i0 - i1) (.inl (by lia)) h0 (.inr (.inr (.inl (by lia)))), shw_c hS (a := 2 * (hi - i0) + i0 - i1) (.inl (by lia)) h0 (.inr (.inl (by lia))), shw_c hS (a := i1 - i0) (.inr (by lia)) h0 (.inl (by lia))⟩
      · exact ⟨shw_c hS (a := 4 * (hi - i1) + i0 - i1) (.inl (by lia)) h0 (.inr (.inr (.inr (.inl (by lia))))), shw_c hS (a := 2 * (hi - i1) + i0 - i1) (.inl (by lia)) h0 (.inr (.inr (.inl (by lia)))), shw_c hS (a := i0 - i1) (.inl (by lia)) h0 (.inl (by lia))⟩
theorem plc_idx (hlt : lo < hi) : ∃ idx, [(1 : Int), 0, 2].getD (((plc i0 i1 i2 lo hi).fdiv (hi - lo)).fmod 3).toNat 0 = idx ∧ Med i0 i1 i2 idx := by
  have h0 : 0 < hi - lo := by clear b0 b1 b2 al bl ah bh; lia
  unfold plc
  by_cases c0 : i0 = hi
  · rw [if_pos c0]
    by_cases c1 : i1 < i2
    · have e1 : i1 = lo := by clear b0 b1 b2 ah; lia
      obtain ⟨q1, q2⟩ : lo ≤ i2 ∧ i2 ≤ hi := ⟨bl.2.2, bh.2.2⟩
      rw [if_pos c1, e1, c0]
      rw [e1] at c1
      clear b0 b1 b2 al bl ah bh c0 e1
      exact ⟨_, idx_k h0 (k := 5) (by lia) (by lia), .inr (.inr ⟨rfl, .inr ⟨q1, q2⟩⟩)⟩
    · have e1 : i2 = lo := by clear b0 b1 b2 ah; lia
      obtain ⟨q1, q2⟩ : lo ≤ i1 ∧ i1 ≤ hi := ⟨bl.2.1, bh.2.1⟩
      rw [if_neg c1, e1, c0]
      clear b0 b1 b2 al bl ah bh c0 e1 c1
      by_cases c2 : i1 = hi
      · exact ⟨_, idx_k h0 (k := 1) (by lia) (by lia), .inl ⟨rfl, .inr ⟨Int.le_of_lt hlt, Int.le_of_eq c2.symm⟩⟩⟩
      · exact ⟨_, idx_k h0 (k := 0) (by lia) (by lia), .inr (.inl ⟨rfl, .inr ⟨q1, q2⟩⟩)⟩
  · rw [if_neg c0]
    by_cases c1 : i1 = hi
    · rw [if_pos c1, c1]
      obtain ⟨q1, q2⟩ : lo ≤ i0 ∧ i0 ≤ hi := ⟨bl.1, bh.1⟩
      obtain ⟨q3, q4⟩ : lo ≤ i2 ∧ i2 ≤ hi := ⟨bl.2.2, bh.2.2⟩
      have e1 : i0 = lo ∨ i2 = lo := by clear b0 b1 b2 ah; lia
      clear b0 b1 b2 al bl ah bh c1
      by_cases c2 : i0 = lo
      · subst c2
        clear e1
        by_cases c3 : i2 = hi
        · exact ⟨_, idx_k h0 (k := 3) (by lia) (by lia), .inr (.inl ⟨rfl, .inl ⟨q2, Int.le_of_eq c3.symm⟩⟩)⟩
        · exact ⟨_, idx_k h0 (k := 2) (by lia) (by lia), .inr (.inr ⟨rfl, .inl ⟨q3, q4⟩⟩)⟩
      · have e3 : i2 = lo := e1.resolve_left c2
        subst e3
        exact ⟨_, idx_k h0 (k := 1) (by lia) (by lia), .inl ⟨rfl, .inr ⟨q1, q2⟩⟩⟩
    · have e2 : i2 = hi := by clear b0 b1 b2 al; lia
      rw [if_neg c1, e2]
      obtain ⟨q1, q2⟩ : lo ≤ i0 ∧ i0 ≤ hi := ⟨bl.1, bh.1⟩
      obtain ⟨q3, q4⟩ : lo ≤ i1 ∧ i1 ≤ hi := ⟨bl.2.1, bh.2.1⟩
      have e1 : i0 = lo ∨ i1 = lo := by clear b0 b1 b2 ah; lia
      clear b0 b1 b2 al bl ah bh e2
      by_cases c2 : i1 = lo
      · subst c2
        exact ⟨_, idx_k h0 (k := 4) (by lia) (by lia), .inl ⟨rfl, .inl ⟨q1, q2⟩⟩⟩
      · have e3 : i0 = lo := e1.resolve_right c2
        subst e3
        exact ⟨_, idx_k h0 (k := 3) (by lia) (by lia), .inr (.inl ⟨rfl, .inl ⟨q3, q4⟩⟩)⟩
theorem rgbH_near (hlt : lo < hi) : Fn (rgbH (lf i0) (lf i1) (lf i2)) ∧ ∃ d : Rat, d ≤ 3 * eps ∧ -(3 * eps) ≤ d ∧ rv (rgbH (lf i0) (lf i1) (lf i2)) * (6 * ((hi - lo : Int) : Rat)) = ((plc i0 i1 i2 lo hi : Int) : Rat) + d * (6 * ((hi - lo : Int) : Rat)) := by
  obtain ⟨p, hp, f1, f2, f3, f4⟩ := rgbP_near b0 b1 b2 al bl ah bh hlt
  have e : plc i0 i1 i2 lo hi = if p < 0 then p + 6 * (hi - lo) else p := by
    rw [hp]
    unfold plc
    repeat' split
    all_goals omega
  rw [e]
  unfold rgbH
  refine hue_near (by omega) (by omega) ?_ ?_ f1 f2 f3 f4
  · rw [hp]; (repeat' split) <;> omega
  · rw [hp]; (repeat' split) <;> omega
end
end Mine
end partFl7

/- the part Fl8 -/
section
open PySem PySem.W PySem.Calls PyProof.Rows PySem.Spec
namespace Mine
theorem fresh_Fl8 (prog : Program) (w : World) (A : Around) (env : Env) (s : Shared) (Q : Flow → Shared → Prop) (E : Value → Shared → Prop) (h : Q .next s) :
    wpAny (model prog w) A (execs [] env) Q E s := by
  w_top off
  walk1
  exact h
end Mine
end
section partFl8
open PySem PySem.W PySem.Calls PyProof.Rows PySem.Spec
namespace Mine
open K
open PySem.Float64 in
theorem lo3 (a b c : Int) : ∃ x : Int, (x = a ∨ x = b ∨ x = c) ∧ (x ≤ a ∧ x ≤ b ∧ x ≤ c) := by
  rcases Int.le_total a b with h | h
  · rcases Int.le_total a c with q | q
    · exact ⟨a, .inl rfl, Int.le_refl _, h, q⟩
    · exact ⟨c, .inr (.inr rfl), q, Int.le_trans q h, Int.le_refl _⟩
  · rcases Int.le_total b c with q | q
    · exact ⟨b, .inr (.inl rfl), h, Int.le_refl _, q⟩
    · exact ⟨c, .inr (.inr rfl), Int.le_trans q h, q, Int.le_refl _⟩
theorem hi3 (a b c : Int) : ∃ x : Int, (x = a ∨ x = b ∨ x = c) ∧ (a ≤ x ∧ b ≤ x ∧ c ≤ x) := by
  rcases Int.le_total a b with h | h
  · rcases Int.le_total b c with q | q
    · exact ⟨c, .inr (.inr rfl), Int.le_trans h q, q, Int.le_refl _⟩
    · exact ⟨b, .inr (.inl rfl), h, Int.le_refl _, q⟩
  · rcases Int.le_total a c with q | q
    · exact ⟨c, .inr (.inr rfl), q, Int.le_trans h q, Int.le_refl _⟩
    · exact ⟨a, .inl rfl, Int.le_refl _, h, q⟩
theorem lohi (i0 i1 i2 : Int) : ∃ lo hi : Int, (lo = i0 ∨ lo = i1 ∨ lo = i2) ∧ (lo ≤ i0 ∧ lo ≤ i1 ∧ lo ≤ i2) ∧ (hi = i0 ∨ hi = i1 ∨ hi = i2) ∧ (i0 ≤ hi ∧ i1 ≤ hi ∧ i2 ≤ hi) :=
  let ⟨lo, a, b⟩ := lo3 i0 i1 i2
  let ⟨hi, c, d⟩ := hi3 i0 i1 i2
  ⟨lo, hi, a, b, c, d⟩
section
variable {i0 i1 i2 lo hi x : Int}
theorem of3 {P : Int → Prop} (h : x = i0 ∨ x = i1 ∨ x = i2) (a : P i0) (b : P i1) (c : P i2) : P x := by
  rcases h with rfl | rfl | rfl <;> assumption
theorem spread_le (a : 0 ≤ lo) (b : hi ≤ 1024) : hi - lo ≤ 1024 := by omega
theorem place_le {P : Int} (a : 0 ≤ lo) (b : hi ≤ 1024) (h : P < 6 * (hi - lo)) : P ≤ 6144 := by omega
theorem lo_uniq (al : lo = i0 ∨ lo = i1 ∨ lo = i2) (bl : lo ≤ i0 ∧ lo ≤ i1 ∧ lo ≤ i2) (ax : x = i0 ∨ x = i1 ∨ x = i2) (bx : x ≤ i0 ∧ x ≤ i1 ∧ x ≤ i2) : x = lo :=
  Int.le_antisymm (of3 (P := fun y => x ≤ y) al bx.1 bx.2.1 bx.2.2) (of3 (P := fun y => lo ≤ y) ax bl.1 bl.2.1 bl.2.2)
theorem hi_uniq (ah : hi = i0 ∨ hi = i1 ∨ hi = i2) (bh : i0 ≤ hi ∧ i1 ≤ hi ∧ i2 ≤ hi) (ax : x = i0 ∨ x = i1 ∨ x = i2) (bx : i0 ≤ x ∧ i1 ≤ x ∧ i2 ≤ x) : x = hi :=
  Int.le_antisymm (of3 (P := fun y => y ≤ hi) ax bh.1 bh.2.1 bh.2.2) (of3 (P := fun y => y ≤ x) ah bx.1 bx.2.1 bx.2.2)
theorem lohi_lt (bl : lo ≤ i0 ∧ lo ≤ i1 ∧ lo ≤ i2) (bh : i0 ≤ hi ∧ i1 ≤ hi ∧ i2 ≤ hi) (hg : ¬ (i0 = i1 ∧ i1 = i2)) : lo < hi :=
  (Int.lt_iff_le_and_ne).mpr ⟨Int.le_trans bl.1 bh.1, fun e => hg ⟨Int.le_antisymm (Int.le_trans bh.1 (e ▸ bl.2.1)) (Int.le_trans bh.2.1 (e ▸ bl.1)), Int.le_antisymm (Int.le_trans bh.2.1 (e ▸ bl.2.2)) (Int.le_trans bh.2.2 (e ▸ bl.2.1))⟩⟩
end

theorem Told.mono {w : World} {p : Program} {loose : List Str} {mean : ExcName → Option Value} {mg mb : Str → Option Value} {dd : Nat} {f : Value} {vs : List Value} {news : List (Addr × Obj)} {Post Post' : Value → List (Addr × Obj) → Prop}
    (h : Told w p loose mean mg mb dd f vs news Post) (hp : ∀ r n, Post r n → Post' r n) : Told w p loose mean mg mb dd f vs news Post' :=
  fun dp un gd env outer A₀ base h₀ L m s Q B F X N T CH hf hk hd hu hret =>
    h dp un gd env outer A₀ base h₀ L m s Q B F X N T CH hf hk hd hu fun r h' tk' n' F' N' q => hret r h' tk' n' F' N' (hp r n' q)

/-- what _law_middle tells of three lights: the place of the middle one -/
theorem mid_told (rest : List (Addr × Obj)) {tl : Addr} (i0 i1 i2 : Int) (e : Nat) (t0 t1 t2 : Tok) (hn1 : ∀ q ∈ rest, q.1 ≠ tl)
    (b0 : 0 ≤ i0 ∧ i0 ≤ 1024) (b1 : 0 ≤ i1 ∧ i1 ≤ 1024) (b2 : 0 ≤ i2 ∧ i2 ≤ 1024) :
    Told w p loose mean mg mb 12 (.ref 94) [.ref tl] ((tl, W.listOf #[.int i0 t0, .int i1 t1, .int i2 t2] e) :: rest)
      (fun r n' => n' = ((tl, W.listOf #[.int i0 t0, .int i1 t1, .int i2 t2] e) :: rest) ∧ ∃ idx t, r = .int idx t ∧ Med i0 i1 i2 idx) := by
  obtain ⟨lo, hi, al, bl, ah, bh⟩ := lohi i0 i1 i2
  by_cases hg : i0 = i1 ∧ i1 = i2
  · obtain ⟨rfl, rfl⟩ := hg
    obtain ⟨hG, hL, hx⟩ := gray_lf b0
    refine (mid_gray rest i0 e t0 t1 t2 hn1 b0 hG hL hx).mono fun r n' h => ⟨h.1, ?_⟩
    obtain ⟨t, ht⟩ := h.2
    exact ⟨0, t, ht, .inl ⟨rfl, .inl ⟨Int.le_refl _, Int.le_refl _⟩⟩⟩
  · have hlt : lo < hi := lohi_lt bl bh hg
    have l0 : 0 ≤ lo := of3 (P := fun y => 0 ≤ y) al b0.1 b1.1 b2.1
    have h0 : hi ≤ 1024 := of3 (P := fun y => y ≤ 1024) ah b0.2 b1.2 b2.2
    obtain ⟨idx, hidx, hmed⟩ := plc_idx b0 b1 b2 al bl ah bh hlt
    have hpb := plc_bound b0 b1 b2 al bl ah bh hlt
    have huniq : ∀ lo' hi' : Int, (lo' = i0 ∨ lo' = i1 ∨ lo' = i2) → (lo' ≤ i0 ∧ lo' ≤ i1 ∧ lo' ≤ i2) → (hi' = i0 ∨ hi' = i1 ∨ hi' = i2) → (i0 ≤ hi' ∧ i1 ≤ hi' ∧ i2 ≤ hi') → lo' = lo ∧ hi' = hi := fun lo' hi' x1 x2 x3 x4 => ⟨lo_uniq al bl x1 x2, hi_uniq ah bh x3 x4⟩
    refine (mid_hue rest i0 i1 i2 (plc i0 i1 i2 lo hi) idx e t0 t1 t2 hn1 b0 b1 b2 hg (cmp_self (rgbL_fn b0 b1 b2 al bl ah bh hlt)) (cmp_self (rgbS_fn b0 b1 b2 al bl ah bh hlt))
      ?_ ?_ ?_ (hG_lf b0 b1 b2 al bl ah bh hlt) (z1_lf b0 b1 b2 al bl ah bh hlt) (fun _ => z2_lf b0 b1 b2 al bl ah bh hlt) (fun _ => z3_lf b0 b1 b2 al bl ah bh hlt)).mono fun r n' h => ⟨h.1, ?_⟩
    · intro lo' hi' x1 x2 x3 x4
      obtain ⟨rfl, rfl⟩ := huniq lo' hi' x1 x2 x3 x4
      exact ⟨rgbL_lf b0 b1 b2 al bl ah bh hlt, rgbS_lf b0 b1 b2 al bl ah bh hlt⟩
    · intro lo' hi' x1 x2 x3 x4
      obtain ⟨rfl, rfl⟩ := huniq lo' hi' x1 x2 x3 x4
      obtain ⟨hf, d, d1, d2, he⟩ := rgbH_near b0 b1 b2 al bl ah bh hlt
      obtain ⟨n1, n2, n3, n4⟩ := place_far (S := hi' - lo') (Int.sub_pos_of_lt hlt) (spread_le l0 h0) hpb.1 (Int.le_of_lt hpb.2) hf d1 d2 he
      obtain ⟨s1, s2, s3⟩ := plc_shw b0 b1 b2 al bl ah bh hlt
      exact ⟨n1, n2, n3, s1, s2, s3, hidx, n4⟩
    · exact ⟨hpb.1, place_le l0 h0 hpb.2⟩
    · obtain ⟨t, ht⟩ := h.2
      exact ⟨idx, t, ht, hmed⟩
end Mine
end partFl8

/- the part Med -/
section
open PySem PySem.W PySem.Calls PyProof.Rows PySem.Spec
namespace Mine
theorem fresh_Med (prog : Program) (w : World) (A : Around) (env : Env) (s : Shared) (Q : Flow → Shared → Prop) (E : Value → Shared → Prop) (h : Q .next s) :
    wpAny (model prog w) A (execs [] env) Q E s := by
  w_top off
  walk1
  exact h
end Mine
end
section partMed
open PySem PySem.W PySem.Calls PyProof.Rows PySem.Spec
set_option maxHeartbeats 1600000
namespace Mine
/-- a level's light -/
noncomputable def lgt (l : Int) : Int := (l * 1024).fdiv 584
theorem lgt_le {a b : Int} : lgt a ≤ lgt b ↔ a ≤ b := by
  unfold lgt
  rw [Int.fdiv_eq_ediv_of_nonneg _ (by decide), Int.fdiv_eq_ediv_of_nonneg _ (by decide)]
  omega
theorem lgt_bound {a : Int} (h : 0 ≤ a ∧ a < 585) : 0 ≤ lgt a ∧ lgt a ≤ 1024 := by
  unfold lgt
  rw [Int.fdiv_eq_ediv_of_nonneg _ (by decide)]
  omega
/-- the middle one of three -/
noncomputable def med3 (a b c : Int) : Int := max (min a b) (min (max a b) c)
theorem med_of {a b c idx : Int} (h : Med (lgt a) (lgt b) (lgt c) idx) : (idx = 0 ∧ med3 a b c = a) ∨ (idx = 1 ∧ med3 a b c = b) ∨ (idx = 2 ∧ med3 a b c = c) := by
  unfold med3
  rcases h with ⟨e, ⟨h1, h2⟩ | ⟨h1, h2⟩⟩ | ⟨e, ⟨h1, h2⟩ | ⟨h1, h2⟩⟩ | ⟨e, ⟨h1, h2⟩ | ⟨h1, h2⟩⟩
  · have h1 := lgt_le.mp h1
    have h2 := lgt_le.mp h2
    exact .inl ⟨e, by rw [Int.min_eq_right h1, Int.max_eq_left h1, Int.min_eq_left h2, Int.max_eq_right h1]⟩
  · have h1 := lgt_le.mp h1
    have h2 := lgt_le.mp h2
    exact .inl ⟨e, by rw [Int.min_eq_left h2, Int.max_eq_right h2, Int.min_eq_right (Int.le_trans h1 h2), Int.max_eq_left h1]⟩
  · have h1 := lgt_le.mp h1
    have h2 := lgt_le.mp h2
    exact .inr (.inl ⟨e, by rw [Int.min_eq_left h1, Int.max_eq_right h1, Int.min_eq_left h2, Int.max_eq_right h1]⟩)
  · have h1 := lgt_le.mp h1
    have h2 := lgt_le.mp h2
    exact .inr (.inl ⟨e, by rw [Int.min_eq_right h2, Int.max_eq_left h2, Int.min_eq_right (Int.le_trans h1 h2), Int.max_eq_left h1]⟩)
  · have h1 := lgt_le.mp h1
    have h2 := lgt_le.mp h2
    exact .inr (.inr ⟨e, by rw [Int.min_eq_left (Int.le_trans h1 h2), Int.max_eq_right (Int.le_trans h1 h2), Int.min_eq_right h2, Int.max_eq_right h1]⟩)
  · have h1 := lgt_le.mp h1
    have h2 := lgt_le.mp h2
    exact .inr (.inr ⟨e, by rw [Int.min_eq_right (Int.le_trans h1 h2), Int.max_eq_left (Int.le_trans h1 h2), Int.min_eq_right h2, Int.max_eq_right h1]⟩)
theorem med_mem (a b c : Int) : med3 a b c = a ∨ med3 a b c = b ∨ med3 a b c = c := by unfold med3; omega
/-- a row and the one above it give way to a row -/
noncomputable def red : List Int → List Int → List Int
  | a :: as, b :: c :: r => med3 a b c :: red as (c :: r)
  | _, _ => []
theorem red_len : ∀ {A R : List Int}, A.length + 1 = R.length → (red A R).length = A.length
  | [], _, _ => by simp [red]
  | a :: as, [], h => by simp at h
  | a :: as, [b], h => by simp at h
  | a :: as, b :: c :: r, h => by
    show (med3 a b c :: red as (c :: r)).length = _
    rw [List.length_cons, red_len (A := as) (by simpa using h), List.length_cons]
theorem red_get : ∀ {A R : List Int} {i : Nat}, A.length + 1 = R.length → i < A.length → (red A R)[i]? = some (med3 (A.getD i 0) (R.getD i 0) (R.getD (i + 1) 0))
  | [], _, _, _, h => by simp at h
  | a :: as, [], _, h, _ => by simp at h
  | a :: as, [b], _, h, _ => by simp at h
  | a :: as, b :: c :: r, 0, h, _ => rfl
  | a :: as, b :: c :: r, i + 1, h, hi => by
    show (red as (c :: r))[i]? = _
    rw [red_get (A := as) (by simpa using h) (by simpa using hi)]
    rfl
theorem red_mem : ∀ {A R : List Int} {x : Int}, x ∈ red A R → x ∈ A ∨ x ∈ R
  | [], _, _, h => by simp [red] at h
  | a :: as, [], _, h => by simp [red] at h
  | a :: as, [b], _, h => by simp [red] at h
  | a :: as, b :: c :: r, x, h => by
    rcases List.mem_cons.mp h with h | h
    · rcases med_mem a b c with e | e | e <;> rw [h, e] <;> simp
    · rcases red_mem h with h | h
      · left; simp [h]
      · right; exact List.mem_cons_of_mem _ h

end Mine
end partMed

/- the part Ypure -/
section
open PySem PySem.W PySem.Calls PyProof.Rows PySem.Spec
namespace Mine
theorem fresh_Ypure (prog : Program) (w : World) (A : Around) (env : Env) (s : Shared) (Q : Flow → Shared → Prop) (E : Value → Shared → Prop) (h : Q .next s) :
    wpAny (model prog w) A (execs [] env) Q E s := by
  w_top off
  walk1
  exact h
end Mine
end
section partYpure
open PySem PySem.W PySem.Calls PyProof.Rows PySem.Spec
set_option maxHeartbeats 1600000
namespace Mine
/-- two spots of the board touch -/
noncomputable def Adj (i j i' j' : Nat) : Prop := (i' = i ∧ j' = j + 1) ∨ (i = i' ∧ j = j' + 1) ∨ (i' = i + 1 ∧ (j' = j ∨ j' = j + 1)) ∨ (i = i' + 1 ∧ (j = j' ∨ j = j' + 1))
theorem Adj.symm {i j i' j' : Nat} (h : Adj i j i' j') : Adj i' j' i j := by unfold Adj at *; omega
/-- the three spots of a spot of the board with a row less -/
noncomputable def Tri (i j a b : Nat) : Prop := (a = i ∧ b = j) ∨ (a = i + 1 ∧ b = j) ∨ (a = i + 1 ∧ b = j + 1)
theorem tri_clique {i j a b a' b' : Nat} (h : Tri i j a b) (h' : Tri i j a' b') : (a = a' ∧ b = b') ∨ Adj a b a' b' := by unfold Tri Adj at *; omega
/-- a piece of n rows that hangs together and touches all three sides -/
structure YY (n : Nat) (P : Nat → Nat → Prop) (C : Nat → Nat → Prop) : Prop where
  sub : ∀ i j, C i j → j ≤ i ∧ i < n ∧ P i j
  left : ∃ i, C i 0
  right : ∃ i, C i i
  low : ∃ i j, C i j ∧ i + 1 = n
  conn : ∀ S : Nat → Nat → Prop, (∃ i j, C i j ∧ S i j) → (∀ i j i' j', C i j → S i j → C i' j' → Adj i j i' j' → S i' j') → ∀ i j, C i j → S i j
noncomputable def Two (P : Nat → Nat → Prop) (i j : Nat) : Prop := (P i j ∧ P (i + 1) j) ∨ (P i j ∧ P (i + 1) (j + 1)) ∨ (P (i + 1) j ∧ P (i + 1) (j + 1))
noncomputable def Link (P : Nat → Nat → Prop) (i j i' j' : Nat) : Prop := ∃ a b a' b', P a b ∧ Tri i j a b ∧ P a' b' ∧ Tri i' j' a' b' ∧ ((a = a' ∧ b = b') ∨ Adj a b a' b')
theorem Link.symm {P : Nat → Nat → Prop} {i j i' j' : Nat} (h : Link P i j i' j') : Link P i' j' i j := by
  obtain ⟨a, b, a', b', h1, h2, h3, h4, h5⟩ := h
  refine ⟨a', b', a, b, h3, h4, h1, h2, ?_⟩
  rcases h5 with ⟨h, h'⟩ | h
  · exact .inl ⟨h.symm, h'.symm⟩
  · exact .inr h.symm
theorem link1 {P : Nat → Nat → Prop} {i j : Nat} (h : Two P i j) (h' : Two P i (j + 1)) : Link P i j i (j + 1) := by
  by_cases hs : P (i + 1) (j + 1)
  · exact ⟨_, _, _, _, hs, .inr (.inr ⟨rfl, rfl⟩), hs, .inr (.inl ⟨rfl, rfl⟩), .inl ⟨rfl, rfl⟩⟩
  · have ha : P i j := by unfold Two at h; rcases h with h | h | h <;> first | exact h.1 | exact absurd h.2 hs
    have hb : P i (j + 1) := by unfold Two at h'; rcases h' with h | h | h <;> first | exact h.1 | exact absurd h.1 hs
    exact ⟨_, _, _, _, ha, .inl ⟨rfl, rfl⟩, hb, .inl ⟨rfl, rfl⟩, .inr (by unfold Adj; omega)⟩
theorem link2 {P : Nat → Nat → Prop} {i j : Nat} (h : Two P i j) (h' : Two P (i + 1) j) : Link P i j (i + 1) j := by
  by_cases hs : P (i + 1) j
  · exact ⟨_, _, _, _, hs, .inr (.inl ⟨rfl, rfl⟩), hs, .inl ⟨rfl, rfl⟩, .inl ⟨rfl, rfl⟩⟩
  · have ha : P (i + 1) (j + 1) := by unfold Two at h; rcases h with h | h | h <;> first | exact absurd h.2 hs | exact h.2 | exact absurd h.1 hs
    have hb : P (i + 1 + 1) (j + 1) := by unfold Two at h'; rcases h' with h | h | h <;> first | exact absurd h.1 hs | exact h.2
    exact ⟨_, _, _, _, ha, .inr (.inr ⟨rfl, rfl⟩), hb, .inr (.inr ⟨rfl, rfl⟩), .inr (by unfold Adj; omega)⟩
theorem link3 {P : Nat → Nat → Prop} {i j : Nat} (h : Two P i j) (h' : Two P (i + 1) (j + 1)) : Link P i j (i + 1) (j + 1) := by
  by_cases hs : P (i + 1) (j + 1)
  · exact ⟨_, _, _, _, hs, .inr (.inr ⟨rfl, rfl⟩), hs, .inl ⟨rfl, rfl⟩, .inl ⟨rfl, rfl⟩⟩
  · have ha : P (i + 1) j := by unfold Two at h; rcases h with h | h | h <;> first | exact h.2 | exact absurd h.2 hs
    have hb : P (i + 1 + 1) (j + 1) := by unfold Two at h'; rcases h' with h | h | h <;> first | exact absurd h.1 hs | exact h.1
    exact ⟨_, _, _, _, ha, .inr (.inl ⟨rfl, rfl⟩), hb, .inr (.inl ⟨rfl, rfl⟩), .inr (by unfold Adj; omega)⟩
theorem link {P : Nat → Nat → Prop} {i j i' j' : Nat} (ha : Adj i j i' j') (h : Two P i j) (h' : Two P i' j') : Link P i j i' j' := by
  rcases ha with ⟨rfl, rfl⟩ | ⟨rfl, rfl⟩ | ⟨rfl, rfl | rfl⟩ | ⟨rfl, rfl | rfl⟩
  · exact link1 h h'
  · exact (link1 h' h).symm
  · exact link2 h h'
  · exact link3 h h'
  · exact (link2 h' h).symm
  · exact (link3 h' h).symm
/-- a piece of the board with a row less gives one of the board -/
theorem lift {n : Nat} {P P' : Nat → Nat → Prop} {C' : Nat → Nat → Prop} (h : YY n P' C') (hp : ∀ i j, j ≤ i → i < n → P' i j → Two P i j) : ∃ C, YY (n + 1) P C := by
  have two : ∀ i j, C' i j → Two P i j := fun i j hc => by
    obtain ⟨h1, h2, h3⟩ := h.sub i j hc
    exact hp i j h1 h2 h3
  refine ⟨fun a b => P a b ∧ ∃ i j, C' i j ∧ Tri i j a b, ⟨?_, ?_, ?_, ?_, ?_⟩⟩
  · rintro a b ⟨hpab, i, j, hc, ht⟩
    obtain ⟨h1, h2, _⟩ := h.sub i j hc
    unfold Tri at ht
    exact ⟨by omega, by omega, hpab⟩
  · obtain ⟨i, hc⟩ := h.left
    rcases two i 0 hc with ⟨h1, h2⟩ | ⟨h1, h2⟩ | ⟨h1, h2⟩
    · exact ⟨i, h1, i, 0, hc, .inl ⟨rfl, rfl⟩⟩
    · exact ⟨i, h1, i, 0, hc, .inl ⟨rfl, rfl⟩⟩
    · exact ⟨i + 1, h1, i, 0, hc, .inr (.inl ⟨rfl, rfl⟩)⟩
  · obtain ⟨i, hc⟩ := h.right
    rcases two i i hc with ⟨h1, h2⟩ | ⟨h1, h2⟩ | ⟨h1, h2⟩
    · exact ⟨i, h1, i, i, hc, .inl ⟨rfl, rfl⟩⟩
    · exact ⟨i, h1, i, i, hc, .inl ⟨rfl, rfl⟩⟩
    · exact ⟨i + 1, h2, i, i, hc, .inr (.inr ⟨rfl, rfl⟩)⟩
  · obtain ⟨i, j, hc, hi⟩ := h.low
    rcases two i j hc with ⟨h1, h2⟩ | ⟨h1, h2⟩ | ⟨h1, h2⟩
    · exact ⟨i + 1, j, ⟨h2, i, j, hc, .inr (.inl ⟨rfl, rfl⟩)⟩, by omega⟩
    · exact ⟨i + 1, j + 1, ⟨h2, i, j, hc, .inr (.inr ⟨rfl, rfl⟩)⟩, by omega⟩
    · exact ⟨i + 1, j, ⟨h1, i, j, hc, .inr (.inl ⟨rfl, rfl⟩)⟩, by omega⟩
  · intro S hS hcl
    have hcl' : ∀ a b a' b', (P a b ∧ ∃ i j, C' i j ∧ Tri i j a b) → S a b → (P a' b' ∧ ∃ i j, C' i j ∧ Tri i j a' b') → ((a = a' ∧ b = b') ∨ Adj a b a' b') → S a' b' := by
      intro a b a' b' h1 h2 h3 h4
      rcases h4 with ⟨rfl, rfl⟩ | h4
      · exact h2
      · exact hcl a b a' b' h1 h2 h3 h4
    have spread : ∀ i j a b, C' i j → P a b → Tri i j a b → S a b → ∀ a' b', P a' b' → Tri i j a' b' → S a' b' := fun i j a b hc hpa ht hs a' b' hpa' ht' =>
      hcl' a b a' b' ⟨hpa, i, j, hc, ht⟩ hs ⟨hpa', i, j, hc, ht'⟩ (tri_clique ht ht')
    have all := h.conn (fun i j => ∀ a b, P a b → Tri i j a b → S a b) (by
      obtain ⟨a, b, ⟨hpa, i, j, hc, ht⟩, hs⟩ := hS
      exact ⟨i, j, hc, spread i j a b hc hpa ht hs⟩) (by
      intro i j i' j' hc hs hc' hadj
      obtain ⟨a, b, a', b', p1, t1, p2, t2, e⟩ := link hadj (two i j hc) (two i' j' hc')
      have s1 := hs a b p1 t1
      have s2 := hcl' a b a' b' ⟨p1, i, j, hc, t1⟩ s1 ⟨p2, i', j', hc', t2⟩ e
      exact spread i' j' a' b' hc' p2 t2 s2)
    rintro a b ⟨hpa, i, j, hc, ht⟩
    exact all i j hc a b hpa ht
theorem YY.one {P : Nat → Nat → Prop} (h : P 0 0) : YY 1 P (fun i j => i = 0 ∧ j = 0) := by
  refine ⟨?_, ⟨0, rfl, rfl⟩, ⟨0, rfl, rfl⟩, ⟨0, 0, ⟨rfl, rfl⟩, rfl⟩, ?_⟩
  · rintro i j ⟨rfl, rfl⟩
    exact ⟨Nat.le_refl _, by decide, h⟩
  · rintro S ⟨i, j, ⟨rfl, rfl⟩, hs⟩ _ i j ⟨rfl, rfl⟩
    exact hs
theorem med_ge {a b c t : Int} (h : t ≤ med3 a b c) : (t ≤ a ∧ t ≤ b) ∨ (t ≤ a ∧ t ≤ c) ∨ (t ≤ b ∧ t ≤ c) := by unfold med3 at h; omega
theorem med_le {a b c t : Int} (h : med3 a b c ≤ t) : (a ≤ t ∧ b ≤ t) ∨ (a ≤ t ∧ c ≤ t) ∨ (b ≤ t ∧ c ≤ t) := by unfold med3 at h; omega

end Mine
end partYpure

/- the part Ord -/
section
open PySem PySem.W PySem.Calls PyProof.Rows PySem.Spec
namespace Mine
theorem fresh_Ord (prog : Program) (w : World) (A : Around) (env : Env) (s : Shared) (Q : Flow → Shared → Prop) (E : Value → Shared → Prop) (h : Q .next s) :
    wpAny (model prog w) A (execs [] env) Q E s := by
  w_top off
  walk1
  exact h
end Mine
end
section partOrd
open PySem PySem.W PySem.Calls PyProof.Rows PySem.Spec
set_option maxHeartbeats 1600000
namespace Mine
theorem word_step : ∀ l ∈ List.range 584, wordL 3 (l : Int) < wordL 3 ((l : Int) + 1) := by decide +kernel
theorem word_lt {l m : Int} (h0 : 0 ≤ l) (h : l < m) (hm : m < 585) : wordL 3 l < wordL 3 m := by
  obtain ⟨a, rfl⟩ := Int.eq_ofNat_of_zero_le h0
  obtain ⟨d, hd⟩ : ∃ d : Nat, m = (a : Int) + (d : Int) + 1 := ⟨(m - a - 1).toNat, by omega⟩
  subst hd
  induction d with
  | zero =>
    have := word_step a (List.mem_range.mpr (by omega))
    simpa using this
  | succ d ih =>
    have h1 := ih (by omega) (by omega)
    have h2 := word_step (a + d + 1) (List.mem_range.mpr (by omega))
    have e1 : ((a + d + 1 : Nat) : Int) = (a : Int) + (d : Int) + 1 := by omega
    have e2 : (a : Int) + ((d + 1 : Nat) : Int) + 1 = (a : Int) + (d : Int) + 1 + 1 := by omega
    rw [e1] at h2
    rw [e2]
    exact List.lt_trans h1 h2
theorem word_irrefl (l : List Nat) : ¬ l < l := List.lt_irrefl l
theorem word_asymm {a b : List Nat} (h : a < b) : ¬ b < a := fun h2 => List.lt_irrefl a (List.lt_trans h h2)
theorem word_inj {l m : Int} (hl : 0 ≤ l ∧ l < 585) (hm : 0 ≤ m ∧ m < 585) (h : wordL 3 l = wordL 3 m) : l = m := by
  rcases Int.lt_trichotomy l m with h1 | h1 | h1
  · have := word_lt hl.1 h1 hm.2
    rw [h] at this
    exact absurd this (word_irrefl _)
  · exact h1
  · have := word_lt hm.1 h1 hl.2
    rw [h] at this
    exact absurd this (word_irrefl _)
theorem S_list (l : List Nat) : (S l).cps.toList = l := by show (l.toArray).toList = _; simp
theorem word_coll {l t : Int} (hl : 0 ≤ l ∧ l < 585) (ht : 0 ≤ t ∧ t < 585) :
    b2i (decide ((S (wordL 3 t)).cps.toList < (S (wordL 3 l)).cps.toList)) - b2i (decide ((S (wordL 3 l)).cps.toList < (S (wordL 3 t)).cps.toList)) = if l < t then -1 else if t < l then 1 else 0 := by
  rw [S_list, S_list]
  rcases Int.lt_trichotomy l t with h | h | h
  · have h1 := word_lt hl.1 h ht.2
    rw [decide_eq_true h1, decide_eq_false (word_asymm h1), if_pos h]; rfl
  · subst h
    rw [decide_eq_false (word_irrefl _), if_neg (by omega), if_neg (by omega)]; rfl
  · have h1 := word_lt ht.1 h hl.2
    rw [decide_eq_true h1, decide_eq_false (word_asymm h1), if_neg (by omega), if_pos h]; rfl
theorem word_signs : ∀ k lv, ∀ c ∈ wordL k lv, c ∈ sgn8 ∨ c = 0
  | 0, _, _, h => by cases h
  | k + 1, lv, c, h => by
    unfold wordL at h
    split at h
    · cases h
    · rcases List.mem_cons.mp h with rfl | h
      · rcases Nat.lt_or_ge (((lv - 1).fdiv (mst (k + 1))).toNat) sgn8.length with h2 | h2
        · left
          rw [List.getD_eq_getElem?_getD, List.getElem?_eq_getElem h2]
          exact List.getElem_mem h2
        · right
          rw [List.getD_eq_getElem?_getD, List.getElem?_eq_none h2]; rfl
      · exact word_signs k _ c h
/-- the blanks ahead of a token -/
theorem lex_ws : ∀ {ws : List Nat} {r : List Nat} {wd : List Nat} {n : Nat}, (∀ c ∈ ws, isWs c = true) → lex r = some (wd, n) → lex (ws ++ r) = some (wd, n + ws.length)
  | [], r, wd, n, _, h => h
  | c :: ws, r, wd, n, hw, h => by
    have ih := lex_ws (ws := ws) (fun d hd => hw d (List.mem_cons_of_mem _ hd)) h
    show lex (c :: (ws ++ r)) = _
    unfold lex
    rw [if_pos (hw c (List.mem_cons_self ..)), ih]
    rfl
theorem quo_enc {hl : List Nat} : ∀ (l acc tl : List Nat), (∀ c ∈ l, c = 34 ∨ c = 92 → c ∈ hl) → quo (l.flatMap (encL hl) ++ 34 :: tl) acc = some (acc ++ l, (l.flatMap (encL hl)).length + 1)
  | [], acc, tl, _ => by
    show quo (34 :: tl) acc = _
    unfold quo
    rw [if_pos rfl, List.append_nil]; rfl
  | c :: l, acc, tl, h => by
    have ih := quo_enc l (acc ++ [c]) tl fun d hd => h d (List.mem_cons_of_mem _ hd)
    by_cases hc : c ∈ hl
    · have e : encL hl c = [92, c] := if_pos hc
      rw [List.flatMap_cons, e]
      show quo (92 :: c :: (l.flatMap (encL hl) ++ 34 :: tl)) acc = _
      unfold quo
      rw [if_neg (by decide), if_pos rfl]
      show (quo (l.flatMap (encL hl) ++ 34 :: tl) (acc ++ [c])).map _ = _
      rw [ih]
      simp
    · have e : encL hl c = [c] := if_neg hc
      have h34 : ¬ c = 34 := fun e => hc (h c (List.mem_cons_self ..) (.inl e))
      have h92 : ¬ c = 92 := fun e => hc (h c (List.mem_cons_self ..) (.inr e))
      rw [List.flatMap_cons, e]
      show quo (c :: (l.flatMap (encL hl) ++ 34 :: tl)) acc = _
      unfold quo
      rw [if_neg h34, if_neg h92, ih]
      simp
theorem bare_enc {hl : List Nat} {t : Nat} (ht : isWs t = true) : ∀ (l acc tl : List Nat), (∀ c ∈ l, isWs c = true ∨ c = 92 → c ∈ hl) → bare (l.flatMap (encL hl) ++ t :: tl) acc = some (acc ++ l, (l.flatMap (encL hl)).length + 1)
  | [], acc, tl, _ => by
    show bare (t :: tl) acc = _
    unfold bare
    rw [if_pos ht, List.append_nil]; rfl
  | c :: l, acc, tl, h => by
    have ih := bare_enc ht l (acc ++ [c]) tl fun d hd => h d (List.mem_cons_of_mem _ hd)
    by_cases hc : c ∈ hl
    · have e : encL hl c = [92, c] := if_pos hc
      rw [List.flatMap_cons, e]
      show bare (92 :: c :: (l.flatMap (encL hl) ++ t :: tl)) acc = _
      unfold bare
      rw [if_neg (by decide), if_pos rfl]
      show (bare (l.flatMap (encL hl) ++ t :: tl) (acc ++ [c])).map _ = _
      rw [ih]
      simp
    · have e : encL hl c = [c] := if_neg hc
      have hws : ¬ isWs c = true := fun e => hc (h c (List.mem_cons_self ..) (.inl e))
      have h92 : ¬ c = 92 := fun e => hc (h c (List.mem_cons_self ..) (.inr e))
      rw [List.flatMap_cons, e]
      show bare (c :: (l.flatMap (encL hl) ++ t :: tl)) acc = _
      unfold bare
      rw [if_neg hws, if_neg h92, ih]
      simp
theorem drop_mid (A B : List Nat) (x : Nat) : (A ++ x :: B).drop (A.length + 1) = B := by
  rw [show A ++ x :: B = (A ++ [x]) ++ B by simp]
  exact List.drop_left' (by simp)
/-- what is read of a written word: the word, and blanks are left -/
theorem lex_writ {wd gp tl : List Nat} {way : Nat} (hgp : ∀ c ∈ gp, isWs c = true) : ∃ n ws', (∀ c ∈ ws', isWs c = true) ∧ lex (writ wd way gp ++ tl) = some (wd, n) ∧ (writ wd way gp ++ tl).drop n = ws' ++ tl ∧ n ≤ (writ wd way gp).length := by
  by_cases hq : way < 2 ∨ wd = []
  · have hh : ∀ c ∈ wd, c = 34 ∨ c = 92 → c ∈ hid wd way := by
      intro c hc h
      rcases hq with hq | hq
      · have : way = 0 ∨ way = 1 := by omega
        rcases this with rfl | rfl
        · show c ∈ [34, 92]
          rcases h with rfl | rfl <;> decide
        · exact hc
      · rw [hq] at hc; cases hc
    have e : writ wd way gp ++ tl = 34 :: (wd.flatMap (encL (hid wd way)) ++ 34 :: (gp ++ tl)) := by
      unfold writ
      rw [if_pos hq]
      simp
    have hl : (writ wd way gp).length = (wd.flatMap (encL (hid wd way))).length + 2 + gp.length := by
      unfold writ
      rw [if_pos hq]
      simp
      omega
    refine ⟨(wd.flatMap (encL (hid wd way))).length + 1 + 1, gp, hgp, ?_, ?_, by omega⟩
    · rw [e]
      unfold lex
      rw [if_neg (by decide), if_pos rfl, quo_enc wd [] (gp ++ tl) hh]
      rfl
    · rw [e, List.drop_succ_cons, drop_mid]
  · have hw2 : ¬ way < 2 := fun h => hq (.inl h)
    have hwd : wd ≠ [] := fun h => hq (.inr h)
    obtain ⟨t, g', hg, ht, hg'⟩ : ∃ t g', (if gp = [] then [13] else gp) = t :: g' ∧ isWs t = true ∧ ∀ c ∈ g', isWs c = true := by
      by_cases h : gp = []
      · rw [if_pos h]; exact ⟨13, [], rfl, by decide, fun c hc => by cases hc⟩
      · rw [if_neg h]
        match gp, h, hgp with
        | t :: g', _, hgp => exact ⟨t, g', rfl, hgp t (List.mem_cons_self ..), fun c hc => hgp c (List.mem_cons_of_mem _ hc)⟩
    have hh : ∀ c ∈ wd, isWs c = true ∨ c = 92 → c ∈ hid wd way := by
      intro c hc h
      match way, hw2 with
      | 2, _ => exact hc
      | n + 3, _ =>
        show c ∈ [9, 10, 13, 32, 92] ++ _
        refine List.mem_append_left _ ?_
        rcases h with h | rfl
        · simp only [isWs, Bool.or_eq_true, beq_iff_eq] at h
          rcases h with ((h | h) | h) | h <;> rw [h] <;> decide
        · decide
    have e : writ wd way gp ++ tl = wd.flatMap (encL (hid wd way)) ++ t :: (g' ++ tl) := by
      unfold writ
      rw [if_neg hq, hg]
      simp
    have hl : (writ wd way gp).length = (wd.flatMap (encL (hid wd way))).length + 1 + g'.length := by
      unfold writ
      rw [if_neg hq, hg]
      simp
      omega
    refine ⟨(wd.flatMap (encL (hid wd way))).length + 1, g', hg', ?_, ?_, by omega⟩
    · rw [e]
      match wd, hwd, hh with
      | c :: r, _, hh =>
        by_cases hc : c ∈ hid (c :: r) way
        · have ec : encL (hid (c :: r) way) c = [92, c] := if_pos hc
          rw [List.flatMap_cons, ec]
          show lex (92 :: c :: (r.flatMap (encL (hid (c :: r) way)) ++ t :: (g' ++ tl))) = _
          unfold lex
          rw [if_neg (by decide), if_neg (by decide), if_pos rfl]
          show (bare (r.flatMap (encL (hid (c :: r) way)) ++ t :: (g' ++ tl)) [c]).map _ = _
          rw [bare_enc ht r [c] (g' ++ tl) fun d hd => hh d (List.mem_cons_of_mem _ hd)]
          simp
        · have ec : encL (hid (c :: r) way) c = [c] := if_neg hc
          have hws : ¬ isWs c = true := fun e => hc (hh c (List.mem_cons_self ..) (.inl e))
          have h92 : ¬ c = 92 := fun e => hc (hh c (List.mem_cons_self ..) (.inr e))
          have h34 : ¬ c = 34 := by
            rintro rfl
            apply hc
            match way, hw2 with
            | 2, _ => exact List.mem_cons_self ..
            | n + 3, _ =>
              show 34 ∈ [9, 10, 13, 32, 92] ++ (if List.take 1 (34 :: r) = [34] then [34] else [])
              rw [if_pos (show List.take 1 (34 :: r) = [34] by simp)]
              decide
          rw [List.flatMap_cons, ec]
          show lex (c :: (r.flatMap (encL (hid (c :: r) way)) ++ t :: (g' ++ tl))) = _
          unfold lex
          rw [if_neg hws, if_neg h34, if_neg h92, bare_enc ht r [c] (g' ++ tl) fun d hd => hh d (List.mem_cons_of_mem _ hd)]
          simp
    · rw [e, drop_mid]
/-- where the i-th word is asked for -/
noncomputable def ksN (text : List Nat) : Nat → Nat
  | 0 => 0
  | i + 1 => ksN text i + ((lex (text.drop (ksN text i))).map (·.2)).getD 0
theorem ks_inv {w : Nat → List Nat} {way : Nat → Nat} {gp : Nat → List Nat} (hgp : ∀ i, ∀ c ∈ gp i, isWs c = true) (text : List Nat) (N : Nat) (ht : text = ((List.range N).flatMap fun k => writ (w k) (way k) (gp k)) ++ [46]) :
    ∀ i, i ≤ N → ∃ ws, (∀ c ∈ ws, isWs c = true) ∧ text.drop (ksN text i) = ws ++ ((((List.range N).drop i).flatMap fun k => writ (w k) (way k) (gp k)) ++ [46])
  | 0, _ => ⟨[], (fun c hc => by cases hc), by rw [ht]; rfl⟩
  | i + 1, hi => by
    obtain ⟨ws, hws, hd⟩ := ks_inv hgp text N ht i (by omega)
    have hdr : (List.range N).drop i = i :: (List.range N).drop (i + 1) := by
      have hlt : i < (List.range N).length := by rw [List.length_range]; omega
      rw [List.drop_eq_getElem_cons hlt, List.getElem_range]
    rw [hdr, List.flatMap_cons, List.append_assoc] at hd
    obtain ⟨n, ws', hws', hlex, hdrop, _⟩ := lex_writ (wd := w i) (way := way i) (gp := gp i) (tl := (((List.range N).drop (i + 1)).flatMap fun k => writ (w k) (way k) (gp k)) ++ [46]) (hgp i)
    have hl := lex_ws hws hlex
    refine ⟨ws', hws', ?_⟩
    have hk : ksN text (i + 1) = ksN text i + (n + ws.length) := by
      show ksN text i + ((lex (text.drop (ksN text i))).map (·.2)).getD 0 = _
      rw [hd, hl]
      rfl
    rw [hk, ← List.drop_drop, hd, show n + ws.length = ws.length + n by omega, ← List.drop_drop, List.drop_left' rfl, hdrop]
theorem ks_step {w : Nat → List Nat} {way : Nat → Nat} {gp : Nat → List Nat} (hgp : ∀ i, ∀ c ∈ gp i, isWs c = true) (text : List Nat) (N : Nat) (ht : text = ((List.range N).flatMap fun k => writ (w k) (way k) (gp k)) ++ [46]) (i : Nat) (hi : i < N) :
    ∃ n, lex (text.drop (ksN text i)) = some (w i, n) ∧ ksN text (i + 1) = ksN text i + n ∧ ksN text i + n < text.length := by
  obtain ⟨ws, hws, hd⟩ := ks_inv hgp text N ht i (by omega)
  have hdr : (List.range N).drop i = i :: (List.range N).drop (i + 1) := by
    have hlt : i < (List.range N).length := by rw [List.length_range]; omega
    rw [List.drop_eq_getElem_cons hlt, List.getElem_range]
  rw [hdr, List.flatMap_cons, List.append_assoc] at hd
  obtain ⟨n, ws', hws', hlex, hdrop, _⟩ := lex_writ (wd := w i) (way := way i) (gp := gp i) (tl := (((List.range N).drop (i + 1)).flatMap fun k => writ (w k) (way k) (gp k)) ++ [46]) (hgp i)
  have hl := lex_ws hws hlex
  have hk : ksN text (i + 1) = ksN text i + (n + ws.length) := by
    show ksN text i + ((lex (text.drop (ksN text i))).map (·.2)).getD 0 = _
    rw [hd, hl]
    rfl
  refine ⟨n + ws.length, by rw [hd]; exact hl, hk, ?_⟩
  obtain ⟨ws2, _, hd2⟩ := ks_inv hgp text N ht (i + 1) (by omega)
  have hlen := congrArg List.length hd2
  simp only [List.length_drop, List.length_append, List.length_cons, List.length_nil] at hlen
  omega
theorem ks_last {w : Nat → List Nat} {way : Nat → Nat} {gp : Nat → List Nat} (hgp : ∀ i, ∀ c ∈ gp i, isWs c = true) (text : List Nat) (N : Nat) (ht : text = ((List.range N).flatMap fun k => writ (w k) (way k) (gp k)) ++ [46]) :
    ∃ n1, lex (text.drop (ksN text N)) = some ([46], n1) ∧ lex (text.drop (ksN text N + n1)) = some ([], 1) ∧ text.length ≤ ksN text N + n1 + 1 ∧ ksN text N + n1 ≤ text.length + 1 := by
  obtain ⟨ws, hws, hd⟩ := ks_inv hgp text N ht N (Nat.le_refl _)
  rw [List.drop_of_length_le (l := List.range N) (i := N) (by rw [List.length_range]; omega)] at hd
  replace hd : text.drop (ksN text N) = ws ++ [46] := hd
  have hlen := congrArg List.length hd
  simp only [List.length_drop, List.length_append, List.length_cons, List.length_nil] at hlen
  have hl : lex [46] = some ([46], 2) := by decide +kernel
  refine ⟨2 + ws.length, by rw [hd]; exact lex_ws hws hl, ?_, by omega, by omega⟩
  rw [List.drop_of_length_le (by omega)]
  rfl

end Mine
end partOrd

/- the part SA -/
section
open PySem PySem.W PySem.Calls PyProof.Rows PySem.Spec
namespace Mine
theorem fresh_SA (prog : Program) (w : World) (A : Around) (env : Env) (s : Shared) (Q : Flow → Shared → Prop) (E : Value → Shared → Prop) (h : Q .next s) :
    wpAny (model prog w) A (execs [] env) Q E s := by
  w_top off
  walk1
  exact h
end Mine
end
section partSA
open PySem PySem.W PySem.Calls PyProof.Rows PySem.Spec
set_option maxHeartbeats 1600000
namespace Mine
open K
/-- statement 0: the cells are made -/
theorem s0 {rest : List Stmt} {s : Shared}
             (X1 : (_root_.Mine.hd.heap_1 w.params).In h₀) (T1 : Top p loose mean mg mb h₀) (B1 : Below callerA h₀ [] h₀) (CH1 : CodeHd h₀ 88 84) {o9 : Obj} {rest0 : List (Addr × Obj)} (d9 : o9.data = .cell none) {mm : Str → Option Value}
    (F : Fr h₀ L s.heap mm) (N : News h₀ L s.heap ((L + 1, o9) :: rest0)) (hr : ∀ q ∈ rest0, q.1 ≠ L + 1)
    (hk : ∀ h' tk' D ys o', Fr h₀ L h' mm → News h₀ L h' ((D, W.listOf ys.toArray ys.length) :: (L + 1, o') :: rest0) → o'.data = .cell (some (.ref D)) → (∃ cs : List Int, IntsAre ys cs ∧ cs.length = 15) → (@Ne Nat (L + 1) D) → (∀ q ∈ rest0, q.1 ≠ D) → wpAny (model PySem.Challenge.rw_kl0066_01.row.prog w) (callerA.deeper (lawEnv L fa cd)) (execs (rest) (lawEnv L fa cd)) Q (fun _ _ => False) { heap := h', gens := s.gens, drawn := s.drawn, toks := tk', os := s.os }) :
    wpAny (model PySem.Challenge.rw_kl0066_01.row.prog w) (callerA.deeper (lawEnv L fa cd)) (execs (st0 :: rest) (lawEnv L fa cd)) Q (fun _ _ => False) s := by
  unfold st0
  revert X1
  k_fill
  intro X1
  dsimp only [lawEnv, lawScope]
  k_steps
  rename_i D _ _ hoff hz o' Fz Nz dz
  exact hk _ _ D ys o' Fz Nz dz ⟨_, by assumption, rfl⟩ hoff.1 (off1_mem hoff.2)

end Mine
end partSA

/- the part SB -/
section
open PySem PySem.W PySem.Calls PyProof.Rows PySem.Spec
namespace Mine
theorem fresh_SB (prog : Program) (w : World) (A : Around) (env : Env) (s : Shared) (Q : Flow → Shared → Prop) (E : Value → Shared → Prop) (h : Q .next s) :
    wpAny (model prog w) A (execs [] env) Q E s := by
  w_top off
  walk1
  exact h
end Mine
end
section partSB
open PySem PySem.W PySem.Calls PyProof.Rows PySem.Spec
set_option maxHeartbeats 1600000
namespace Mine
open K
local macro_rules | `(tactic| walk_at "exec For Name Call cons nil") => `(tactic| (k_here; refine hold ?_))
local macro_rules | `(tactic| walk_at "pyIter ref") => `(tactic| (k_here; refine hold ?_))
/-- statement 1: the script goes into the cells -/
theorem rsize0 (n : Nat) : Builtin.Range.rangeSize 0 (n : Int) 1 = (n : Int) := by
  unfold Builtin.Range.rangeSize
  (repeat' split) <;> omega
inductive AddI (s : Shared) (I D : Addr) (o9 : Obj) (R : List (Addr × Obj)) (mm : Str → Option Value) (M n : Nat) (s' : Shared) : Prop
  | mk (i : Nat) (h : Heap) (tk : Nat) (mm2 : Str → Option Value) (oI : Obj) (zs : List Value) (cs : List Int) (e : Nat) : n + i = M → s' = { heap := h, gens := s.gens, drawn := s.drawn, toks := tk, os := s.os } → Fr h₀ L h mm2 → (∀ y, y ≠ Str.ofString "k" → mm2 y = mm y) →
    News h₀ L h ((I, oI) :: (D, W.listOf zs.toArray e) :: (L + 1, o9) :: R) → RngIt oI i n 1 → IntsAre zs cs → cs.length = 15 → AddI s I D o9 R mm M n s'
theorem s1 {rest : List Stmt} {s : Shared}
             (X1 : (_root_.Mine.hd.heap_1 w.params).In h₀) (T1 : Top p loose mean mg mb h₀) (B1 : Below callerA h₀ [] h₀) (CH1 : CodeHd h₀ 88 84) {o9 : Obj} {rest0 : List (Addr × Obj)} {D sl : Addr} {ys vs : List Value} {cs ns : List Int} {e : Nat} (d9 : o9.data = .cell (some (.ref D))) {mm : Str → Option Value} (hm : mm (Str.ofString "script") = some (.ref sl))
    (hl : h₀.IsList sl vs.toArray) (hi : IntsAre vs ns) (hlen : ns.length ≤ 63) (hys : IntsAre ys cs) (hcl : cs.length = 15)
    (F : Fr h₀ L s.heap mm) (N : News h₀ L s.heap ((D, W.listOf ys.toArray e) :: (L + 1, o9) :: rest0)) (hr : ∀ q ∈ rest0, q.1 ≠ D) (hD : @Ne Nat (L + 1) D)
    (hk : ∀ h' tk' mm' ys' e', Fr h₀ L h' mm' → (∀ y, y ≠ Str.ofString "k" → mm' y = mm y) → News h₀ L h' ((D, W.listOf ys'.toArray e') :: (L + 1, o9) :: rest0) → (∃ cs : List Int, IntsAre ys' cs ∧ cs.length = 15) → wpAny (model PySem.Challenge.rw_kl0066_01.row.prog w) (callerA.deeper (lawEnv L fa cd)) (execs (rest) (lawEnv L fa cd)) Q (fun _ _ => False) { heap := h', gens := s.gens, drawn := s.drawn, toks := tk', os := s.os }) :
    wpAny (model PySem.Challenge.rw_kl0066_01.row.prog w) (callerA.deeper (lawEnv L fa cd)) (execs (st1 :: rest) (lawEnv L fa cd)) Q (fun _ _ => False) s := by
  unfold st1
  revert X1
  k_fill
  intro X1
  dsimp only [lawEnv, lawScope]
  rw [← mm_as hm] at F
  k_steps
  unfold Hold
  refine wpAny_For ?_
  k_steps
  unfold Hold
  rename_i hR _ _ _ _ hrng FR NR _
  have hsz := rsize0 ns.length
  refine' rng_iter ?sm FR NR hrng ?_
  case sm => exact small_one (by omega) (by omega) (by omega) (by omega)
  intro I oI h8 F8 N8 hI l8
  rw [hsz] at hI
  have hID : @LT.lt Nat _ D I := l8 _ (List.mem_cons_self ..)
  have hIc : @LT.lt Nat _ (L + 1) I := l8 _ (List.mem_cons_of_mem _ (List.mem_cons_self ..))
  have hIr : ∀ q ∈ rest0, q.1 < I := fun q hq => l8 q (by simp [hq])
  clear l8
  refine forLoopS (AddI s I D o9 rest0 mm ns.length) ?turn ns.length ?h0
  case h0 => exact ⟨0, h8, _, _, oI, ys, cs, e, rfl, rfl, (mm_as hm ▸ F8), fun _ _ => rfl, N8, hI, hys, hcl⟩
  case turn =>
    clear F8 N8 hI FR NR hys hcl
    rintro n sB ⟨i, hB, tkB, mB, oI, zs, cs, e, hni, rfl, FB, hmB, NB, hI, hys, hcl⟩
    have offB : ∀ q ∈ (D, W.listOf zs.toArray e) :: (L + 1, o9) :: rest0, q.1 ≠ I := nes_cons (Nat.ne_of_lt hID) (nes_cons (Nat.ne_of_lt hIc) (fun q hq => Nat.ne_of_lt (hIr q hq)))
    by_cases hin : i = ns.length
    · refine rng_done rfl FB NB offB hI (by omega) fun ha Fa Na => ?_
      clear FB NB
      dsimp only
      k_steps
      dsimp only
      exact hk _ _ _ zs e Fa hmB Na ⟨_, hys, hcl⟩
    · refine rng_next FB NB offB hI (by omega) fun oA ha Fa Na hA => ?_
      clear FB NB
      dsimp only
      have hms : mB (Str.ofString "script") = some (.ref sl) := (hmB _ (by decide)).trans hm
      rw [← mm_as hms] at Fa
      k_steps
      rename_i hz Fz Nz hiz hlz _
      show Step _ n _
      refine ⟨n - 1, by omega, i + 1, hz, _, _, oA, _, _, _, by omega, rfl, Fz, ?_, Nz, ?_, hiz, hlz.trans hcl⟩
      · intro y hy
        simp only [hy, if_false]
        split
        · rename_i q; rw [q]; exact hm.symm
        · exact hmB y hy
      · have e : ((n - 1 : Nat) : Int) = (n : Int) - 1 := by omega
        rw [e]
        exact hA

end Mine
end partSB

/- the part SR -/
section
open PySem PySem.W PySem.Calls PyProof.Rows PySem.Spec
namespace Mine
theorem fresh_SR (prog : Program) (w : World) (A : Around) (env : Env) (s : Shared) (Q : Flow → Shared → Prop) (E : Value → Shared → Prop) (h : Q .next s) :
    wpAny (model prog w) A (execs [] env) Q E s := by
  w_top off
  walk1
  exact h
end Mine
end
section partSR
open PySem PySem.W PySem.Calls PyProof.Rows PySem.Spec
set_option maxHeartbeats 1600000
namespace Mine
open K
local macro_rules | `(tactic| walk_at "eval ListComp") => `(tactic| (k_here; k_dflt (refine ListComp2 (F₀ := by k_asm) (by with_unfolding_all rfl) (by decide) (by rfl) (by decide) ?_)))
local macro_rules | `(tactic| walk_at "pyIter ref") => `(tactic| (k_here; refine hold ?_))
local macro_rules | `(tactic| walk_at "call builtin:list.append") => `(tactic| (k_here; refine hold ?_))
noncomputable def spl (i j : Nat) : List Int := ((List.range i).flatMap fun line : Nat => (List.range (line + 1)).map fun k : Nat => 8 * (line : Int) + (k : Int)) ++ (List.range j).map fun k : Nat => 8 * (i : Int) + (k : Int)
theorem spl_succ (i j : Nat) : spl i (j + 1) = spl i j ++ [8 * (i : Int) + (j : Int)] := by
  unfold spl
  rw [List.range_succ, List.map_append, List.append_assoc]; rfl
theorem spl_next (i : Nat) : spl (i + 1) 0 = spl i (i + 1) := by
  unfold spl
  rw [List.range_succ (n := i), List.flatMap_append]
  simp
  rw [List.range_succ, List.map_append]; rfl
theorem spl_len0 : ∀ i ∈ List.range 6, ∀ j ∈ List.range 7, (spl i j).length ≤ 100 := by decide +kernel
theorem spl_len (i j : Nat) (hi : i ≤ 5) (hj : j ≤ 6) : (spl i j).length ≤ 100 := spl_len0 i (List.mem_range.mpr (by omega)) j (List.mem_range.mpr (by omega))
/-- statement 16: the fifteen spots -/
theorem s16 {rest : List Stmt} {s : Shared}
              (X1 : (_root_.Mine.hd.heap_1 w.params).In h₀) (T1 : Top p loose mean mg mb h₀) (B1 : Below callerA h₀ [] h₀) (CH1 : CodeHd h₀ 88 84) {o1 : Obj} {R : List (Addr × Obj)} {mm : Str → Option Value} (d1 : o1.data = .cell none)
    (F : Fr h₀ L s.heap mm) (N : News h₀ L s.heap ((L + 1 + 1 + 1 + 1 + 1 + 1 + 1 + 1 + 1, o1) :: R)) (hr : ∀ q ∈ R, @Ne Nat q.1 (L + 1 + 1 + 1 + 1 + 1 + 1 + 1 + 1 + 1))
    (hk : ∀ h' tk' D sp o' e', Fr h₀ L h' mm → News h₀ L h' ((D, W.listOf sp.toArray e') :: (L + 1 + 1 + 1 + 1 + 1 + 1 + 1 + 1 + 1, o') :: R) → o'.data = .cell (some (.ref D)) → IntsAre sp [0, 8, 9, 16, 17, 18, 24, 25, 26, 27, 32, 33, 34, 35, 36] → (∀ q ∈ R, @Ne Nat q.1 D) → wpAny (model PySem.Challenge.rw_kl0066_01.row.prog w) (callerA.deeper (lawEnv L fa cd)) (execs (rest) (lawEnv L fa cd)) Q (fun _ _ => False) { heap := h', gens := s.gens, drawn := s.drawn, toks := tk', os := s.os }) :
    wpAny (model PySem.Challenge.rw_kl0066_01.row.prog w) (callerA.deeper (lawEnv L fa cd)) (execs (st16 :: rest) (lawEnv L fa cd)) Q (fun _ _ => False) s := by
  unfold st16
  revert X1
  k_fill
  intro X1
  dsimp only [lawEnv, lawScope]
  k_steps
  rename_i hRg _ _ _ _ hrng FR NR _
  refine ⟨_, 0, 5, _, _, _, 5, _, rfl, rfl, FR, NR, hrng, by decide +kernel, by decide +kernel, ?_⟩
  intro I oI C oC D h5 tk5 F5 N5 hC5 hI5 off5 ne5 hCL
  have offm := off5.mem
  refine comp2_loop0 (fun n s' => ∃ (i : Nat) (h : Heap) (tk : Nat) (oI oC : Obj) (m₂ : Str → Option Value) (ys : List Value), n + i = 5 ∧ s' = { heap := h, gens := s.gens, drawn := s.drawn, toks := tk, os := s.os } ∧ Fr h₀ L h mm ∧
    News h₀ L h ((I, oI) :: (C, oC) :: (D, LCg.lst ys) :: (L + 1 + 1 + 1 + 1 + 1 + 1 + 1 + 1 + 1, o1) :: R) ∧ LCg.NsObj oC m₂ ∧ RngIt oI i n 1 ∧ IntsAre ys (spl i 0)) ?turn 5 ?h0
  case h0 => exact ⟨0, h5, _, oI, oC, _, [], rfl, rfl, F5, N5, hC5, hI5, by show IntsAre [] []; exact .nil⟩
  case turn =>
    clear F5 N5 hC5 hI5
    rintro n sB ⟨i, hB, tkB, oI, oC, m₂, ys, hni, rfl, FB, NB, hC, hI, hys⟩
    have offI : ∀ q ∈ (C, oC) :: (D, LCg.lst ys) :: (L + 1 + 1 + 1 + 1 + 1 + 1 + 1 + 1 + 1, o1) :: R, q.1 ≠ I := nes_cons (Ne.symm ne5.1) (nes_cons (Ne.symm ne5.2.1) (fun q hq => (offm q (by simpa using hq)).1))
    by_cases hi5 : i = 5
    · subst hi5
      refine rng_done rfl FB NB offI hI (by omega) fun ha Fa Na => ?_
      clear FB NB
      dsimp only
      have hDC : @Ne Nat D C := Ne.symm ne5.2.2
      have hD9 : @Ne Nat (L + 1 + 1 + 1 + 1 + 1 + 1 + 1 + 1 + 1) D := (offm _ (List.mem_cons_self ..)).2.2
      refine ⟨oC, m₂, ys, (L + 1 + 1 + 1 + 1 + 1 + 1 + 1 + 1 + 1, o1) :: R, Fa, Na, hC, ?_, fun h7 F7 N7 => ?_⟩
      · intro q hq
        rcases List.mem_cons.mp hq with rfl | hq
        · exact hDC
        · exact (offm q hq).2.1
      · dsimp only
        have he : spl 5 0 = [0, 8, 9, 16, 17, 18, 24, 25, 26, 27, 32, 33, 34, 35, 36] := by decide +kernel
        k_steps
        rename_i hZ o' Fz Nz dz
        exact hk hZ _ D ys o' _ Fz Nz dz (he ▸ hys) (fun q hq => (offm q (List.mem_cons_of_mem _ hq)).2.2)
    · refine rng_next FB NB offI hI (by omega) fun oA ha Fa Na hA => ?_
      clear FB NB
      dsimp only
      have Na' : News h₀ L ha ((C, oC) :: (I, oA) :: (D, LCg.lst ys) :: (L + 1 + 1 + 1 + 1 + 1 + 1 + 1 + 1 + 1, o1) :: R) := news_of_sub Na (by repeat (first | with_reducible apply sub_nil | with_reducible apply sub_refl | with_reducible refine sub_cons (by with_reducible first | apply at0 | apply at1 | apply at2 | apply at3 | apply at4 | apply at5 | apply at6 | apply at7 | apply at8 | apply at9 | apply at10 | apply at11 | apply at12 | apply at13) ?_ | with_reducible refine sub_tail4 ?_ | with_reducible refine sub_tail ?_))
      clear Na
      have hDC : @Ne Nat D C := Ne.symm ne5.2.2
      refine assign_comp (by rfl) (by rfl) Fa Na' hC ?offC ?_
      case offC =>
        intro q hq
        simp only [List.mem_cons] at hq
        rcases hq with rfl | rfl | hq
        · exact ne5.1
        · exact hDC
        · exact (offm q (by simpa using hq)).2.1
      intro h6 oC6 F6 N6 hC6
      obtain ⟨m3, hm3, hl3⟩ : ∃ m3 : Str → Option Value, (fun z => if z = Str.ofString "line" then some (Value.int i tkB) else m₂ z) = m3 ∧ m3 (Str.ofString "line") = some (.int i tkB) := ⟨_, rfl, if_pos rfl⟩
      replace hC6 : LCg.NsObj oC6 m3 := hm3 ▸ hC6
      clear hm3
      k_steps
      unfold Hold
      rename_i hQ _ _ _ _ hrng2 FQ NQ _
      have hsz2 : Builtin.Range.rangeSize 0 ((i : Int) + 1) 1 = ((i + 1 : Nat) : Int) := by
        unfold Builtin.Range.rangeSize
        (repeat' split) <;> omega
      refine' rng_iter ?sm2 FQ NQ hrng2 ?_
      case sm2 => exact small_one (by omega) (by omega) (by omega) (by omega)
      intro I1 oI1 h8 F8 N8 hI1 l8
      rw [hsz2] at hI1
      have l8C : @LT.lt Nat _ C I1 := l8 _ (List.mem_cons_self ..)
      have l8I : @LT.lt Nat _ I I1 := l8 _ (List.mem_cons_of_mem _ (List.mem_cons_self ..))
      have l8D : @LT.lt Nat _ D I1 := l8 _ (List.mem_cons_of_mem _ (List.mem_cons_of_mem _ (List.mem_cons_self ..)))
      have l8R : ∀ q ∈ (L + 1 + 1 + 1 + 1 + 1 + 1 + 1 + 1 + 1, o1) :: R, q.1 < I1 := fun q hq => l8 q (by simp only [List.mem_cons] at hq ⊢; rcases hq with h | h <;> simp [h])
      clear l8
      refine (fun hl => comp2_start1 hl (rng_self rfl N8 (List.mem_cons_self ..) hI1 hl)) ?_
      refine comp2_loop1 (fun n' s' => ∃ (j : Nat) (h : Heap) (tk : Nat) (oI1 oC : Obj) (m3 : Str → Option Value) (zs : List Value), n' + j = i + 1 ∧ s' = { heap := h, gens := s.gens, drawn := s.drawn, toks := tk, os := s.os } ∧ Fr h₀ L h mm ∧
        News h₀ L h ((I1, oI1) :: (C, oC) :: (I, oA) :: (D, LCg.lst zs) :: (L + 1 + 1 + 1 + 1 + 1 + 1 + 1 + 1 + 1, o1) :: R) ∧ LCg.NsObj oC m3 ∧ m3 (Str.ofString "line") = some (.int i tkB) ∧ RngIt oI1 j n' 1 ∧ IntsAre zs (spl i j)) ?turn2 (i + 1) ?h02
      case h02 => exact ⟨0, h8, _, oI1, oC6, m3, ys, rfl, rfl, F8, N8, hC6, hl3, hI1, hys⟩
      case turn2 =>
        clear F8 N8 hI1 FQ NQ hC6 hl3 hys hC Na' Fa
        rintro n' sD ⟨j, hE, tkE, oI1, oC, m3, zs, hnj, rfl, FE, NE, hC, hl3, hI1, hzs⟩
        have offI1 : ∀ q ∈ (C, oC) :: (I, oA) :: (D, LCg.lst zs) :: (L + 1 + 1 + 1 + 1 + 1 + 1 + 1 + 1 + 1, o1) :: R, q.1 ≠ I1 := nes_cons (Nat.ne_of_lt l8C) (nes_cons (Nat.ne_of_lt l8I) (nes_cons (Nat.ne_of_lt l8D) (fun q hq => Nat.ne_of_lt (l8R q (by simpa using hq)))))
        by_cases hji : j = i + 1
        · subst hji
          refine rng_done rfl FE NE offI1 hI1 (by omega) fun hb Fb Nb => ?_
          clear FE NE
          dsimp only
          refine ⟨n - 1, by omega, i + 1, hb, _, oA, oC, m3, zs, by omega, rfl, Fb, news_of_sub Nb (by repeat (first | with_reducible apply sub_nil | with_reducible apply sub_refl | with_reducible refine sub_cons (by with_reducible first | apply at0 | apply at1 | apply at2 | apply at3 | apply at4 | apply at5 | apply at6 | apply at7 | apply at8 | apply at9 | apply at10 | apply at11 | apply at12 | apply at13) ?_ | with_reducible refine sub_tail4 ?_ | with_reducible refine sub_tail ?_)), hC, ?_, ?_⟩
          · have e1 : ((n - 1 : Nat) : Int) = (n : Int) - 1 := by omega
            rw [e1]
            exact hA
          · rw [spl_next]
            exact hzs
        · refine rng_next FE NE offI1 hI1 (by omega) fun oB hb Fb Nb hB1 => ?_
          clear FE NE
          dsimp only
          have Nb' : News h₀ L hb ((C, oC) :: (I1, oB) :: (I, oA) :: (D, LCg.lst zs) :: (L + 1 + 1 + 1 + 1 + 1 + 1 + 1 + 1 + 1, o1) :: R) := news_of_sub Nb (by repeat (first | with_reducible apply sub_nil | with_reducible apply sub_refl | with_reducible refine sub_cons (by with_reducible first | apply at0 | apply at1 | apply at2 | apply at3 | apply at4 | apply at5 | apply at6 | apply at7 | apply at8 | apply at9 | apply at10 | apply at11 | apply at12 | apply at13) ?_ | with_reducible refine sub_tail4 ?_ | with_reducible refine sub_tail ?_))
          clear Nb
          refine assign_comp (by rfl) (by rfl) Fb Nb' hC ?offC2 ?_
          case offC2 =>
            intro q hq
            simp only [List.mem_cons] at hq
            rcases hq with rfl | rfl | rfl | hq
            · exact Ne.symm (Nat.ne_of_lt l8C)
            · exact ne5.1
            · exact hDC
            · exact (offm q (by simpa using hq)).2.1
          intro h9 oC9 F9 N9 hC9
          obtain ⟨m4, hm4, hk4, hl4⟩ : ∃ m4 : Str → Option Value, (fun z => if z = Str.ofString "k" then some (Value.int j tkE) else m3 z) = m4 ∧ m4 (Str.ofString "k") = some (.int j tkE) ∧ m4 (Str.ofString "line") = some (.int i tkB) := ⟨_, rfl, if_pos rfl, (if_neg (by decide)).trans hl3⟩
          replace hC9 : LCg.NsObj oC9 m4 := hm4 ▸ hC9
          clear hm4
          k_steps
          unfold Hold
          have N9' : News h₀ L h9 ((D, LCg.lst zs) :: (C, oC9) :: (I1, oB) :: (I, oA) :: (L + 1 + 1 + 1 + 1 + 1 + 1 + 1 + 1 + 1, o1) :: R) := news_of_sub N9 (by repeat (first | with_reducible apply sub_nil | with_reducible apply sub_refl | with_reducible refine sub_cons (by with_reducible first | apply at0 | apply at1 | apply at2 | apply at3 | apply at4 | apply at5 | apply at6 | apply at7 | apply at8 | apply at9 | apply at10 | apply at11 | apply at12 | apply at13) ?_ | with_reducible refine sub_tail4 ?_ | with_reducible refine sub_tail ?_))
          refine append_comp F9 N9' ?offD (by rw [hzs.length, sizeLine_eq]; have := spl_len i j (by omega) (by omega); omega) ?_
          case offD =>
            intro q hq
            simp only [List.mem_cons] at hq
            rcases hq with rfl | rfl | rfl | hq
            · exact ne5.2.2
            · exact Ne.symm (Nat.ne_of_lt l8D)
            · exact ne5.2.1
            · exact (offm q (by simpa using hq)).2.2
          intro hF FF NF
          replace NF : News h₀ L hF ((D, LCg.lst (zs ++ [Value.int (8 * (i : Int) + (j : Int)) (tkE + 1 + 1 + 1 + 1)])) :: (C, oC9) :: (I1, oB) :: (I, oA) :: (L + 1 + 1 + 1 + 1 + 1 + 1 + 1 + 1 + 1, o1) :: R) := NF
          show Step _ n' _
          refine ⟨n' - 1, by omega, j + 1, hF, _, oB, oC9, m4, zs ++ [Value.int (8 * (i : Int) + (j : Int)) (tkE + 1 + 1 + 1 + 1)], by omega, rfl, FF, news_of_sub NF (by repeat (first | with_reducible apply sub_nil | with_reducible apply sub_refl | with_reducible refine sub_cons (by with_reducible first | apply at0 | apply at1 | apply at2 | apply at3 | apply at4 | apply at5 | apply at6 | apply at7 | apply at8 | apply at9 | apply at10 | apply at11 | apply at12 | apply at13) ?_ | with_reducible refine sub_tail4 ?_ | with_reducible refine sub_tail ?_)), hC9, hl4, ?_, ?_⟩
          · have e1 : ((n' - 1 : Nat) : Int) = (n' : Int) - 1 := by omega
            rw [e1]
            exact hB1
          · rw [spl_succ]
            exact ints_snoc hzs _ _

end Mine
end partSR

/- the part SS -/
section
open PySem PySem.W PySem.Calls PyProof.Rows PySem.Spec
namespace Mine
theorem fresh_SS (prog : Program) (w : World) (A : Around) (env : Env) (s : Shared) (Q : Flow → Shared → Prop) (E : Value → Shared → Prop) (h : Q .next s) :
    wpAny (model prog w) A (execs [] env) Q E s := by
  w_top off
  walk1
  exact h
end Mine
end
section partSS
open PySem PySem.W PySem.Calls PyProof.Rows PySem.Spec
set_option maxHeartbeats 1600000
namespace Mine
open K
local macro_rules | `(tactic| walk_at "exec Assign cons ListComp") => `(tactic| (k_here; k_dflt (refine LCt.Assign_ListComp_T (F₀ := by k_asm) (by rfl) (by with_unfolding_all rfl) (by with_unfolding_all rfl) (by decide) (by rfl) (by decide) (by rfl) (by rfl) (by rfl) ?_)))
local macro_rules | `(tactic| walk_at "CompSrcT") => `(tactic| (k_here; refine hold ?_))
local macro_rules | `(tactic| walk_at "CompEnd") => `(tactic| (k_here; refine hold ?_))
local macro_rules | `(tactic| walk_at "FinA") => `(tactic| (k_here; refine hold ?_))
local macro_rules | `(tactic| walk_at "subscriptTail") => `(tactic| (k_here; (with_reducible show wpAny _ _ (subscriptTail _ _ (Value.ref _) (Value.int _ _)) _ _ _); k_dflt (refine' item_list (news_isl ?N ?m) ?h0 ?hf ?hx ?_; (case N => k_asm); (case m => k_mem); (case hx => with_reducible assumption); (case h0 => omega); (case hf => omega); k_whole)))
/-- the spots that pass -/
noncomputable def pick (pr : Int → Bool) (sgn spn : List Int) (n : Nat) : List Int := ((List.range n).filter fun k => pr (sgn.getD k 0)).map fun k => spn.getD k 0
theorem pick_yes {pr : Int → Bool} {sgn spn : List Int} {i : Nat} (h : pr (sgn.getD i 0) = true) : pick pr sgn spn (i + 1) = pick pr sgn spn i ++ [spn.getD i 0] := by
  unfold pick
  rw [List.range_succ, List.filter_append, List.map_append, List.filter_cons_of_pos (by exact h)]
  rfl
theorem pick_no {pr : Int → Bool} {sgn spn : List Int} {i : Nat} (h : pr (sgn.getD i 0) = false) : pick pr sgn spn (i + 1) = pick pr sgn spn i := by
  unfold pick
  rw [List.range_succ, List.filter_append, List.map_append, List.filter_cons_of_neg (by rw [h]; decide)]
  simp
/-- statement 17: the first choice of spots -/
theorem s17 {rest : List Stmt} {s : Shared}
              (X1 : (_root_.Mine.hd.heap_1 w.params).In h₀) (T1 : Top p loose mean mg mb h₀) (B1 : Below callerA h₀ [] h₀) (CH1 : CodeHd h₀ 88 84) {o1 o2 : Obj} {R : List (Addr × Obj)} {Ds Dp : Addr} {sg sp : List Value} {sgn spn : List Int} {es ep : Nat} {mm : Str → Option Value} (d1 : o1.data = .cell (some (.ref Dp))) (d2 : o2.data = .cell (some (.ref Ds)))
    (m1 : (L + 1 + 1 + 1 + 1 + 1 + 1 + 1 + 1 + 1, o1) ∈ R) (m2 : (L + 1 + 1 + 1 + 1 + 1 + 1 + 1 + 1, o2) ∈ R) (ms : (Ds, W.listOf sg.toArray es) ∈ R) (mp : (Dp, W.listOf sp.toArray ep) ∈ R)
    (hsg : IntsAre sg sgn) (hsp : IntsAre sp spn) (hlg : sgn.length = 15) (hlp : spn.length = 15)
    (F : Fr h₀ L s.heap mm) (N : News h₀ L s.heap R)
    (hk : ∀ h' tk' mm' D hs e', Fr h₀ L h' mm' → (∀ y, y ≠ Str.ofString "hills" → mm' y = mm y) → mm' (Str.ofString "hills") = some (.ref D) → News h₀ L h' ((D, W.listOf hs.toArray e') :: R) → IntsAre hs (pick (fun x => decide (0 ≤ x)) sgn spn 15) → (∀ q ∈ R, @Ne Nat q.1 D) → wpAny (model PySem.Challenge.rw_kl0066_01.row.prog w) (callerA.deeper (lawEnv L fa cd)) (execs (rest) (lawEnv L fa cd)) Q (fun _ _ => False) { heap := h', gens := s.gens, drawn := s.drawn, toks := tk', os := s.os }) :
    wpAny (model PySem.Challenge.rw_kl0066_01.row.prog w) (callerA.deeper (lawEnv L fa cd)) (execs (st17 :: rest) (lawEnv L fa cd)) Q (fun _ _ => False) s := by
  unfold st17
  revert X1
  k_fill
  intro X1
  dsimp only [lawEnv, lawScope]
  k_steps
  unfold Hold
  rename_i hRg _ _ _ _ hrng FR NR _
  refine LCt.CompSrcT.range (n := 15) rfl FR NR hrng (by decide +kernel) (by decide +kernel) (by exact Nat.le_of_ble_eq_true rfl) fun g2 => ?_
  refine rest_genT (Inv := fun i zs nn => nn = R ∧ IntsAre zs (pick (fun x => decide (0 ≤ x)) sgn spn i)) ⟨rfl, .nil⟩ ?turn ?fin
  case turn =>
    rintro i zs nn v I oI C oC D m₂ h2 tk2 E' hi ⟨rfl, hz⟩ hP hC hx F2 N2 off ne
    obtain ⟨t, rfl⟩ := hP
    rw [Int.zero_add] at hx
    obtain ⟨tg, hg⟩ := ints_get hsg (i := i) (x := sgn.getD i 0) (getD_some (by omega) 0)
    obtain ⟨tq, hq⟩ := ints_get hsp (i := i) (x := spn.getD i 0) (getD_some (by omega) 0)
    have hg' : sg.toArray[(i : Int).toNat]? = some (.int (sgn.getD i 0) tg) := by simpa using hg
    have hq' : sp.toArray[(i : Int).toNat]? = some (.int (spn.getD i 0) tq) := by simpa using hq
    by_cases hc : 0 ≤ sgn.getD i 0
    · have hcp := pick_yes (pr := fun x => decide (0 ≤ x)) (spn := spn) (decide_eq_true hc)
      generalize sgn.getD i 0 = sv at *
      k_steps
      unfold Hold
      refine LCg.CompEnd.intro (by assumption) (by assumption) _ (fun _ h => h) off trivial ⟨rfl, ?_⟩
      rw [hcp]
      exact ints_snoc hz _ _
    · have hcp := pick_no (pr := fun x => decide (0 ≤ x)) (spn := spn) (decide_eq_false hc)
      generalize sgn.getD i 0 = sv at *
      k_steps
      unfold Hold
      refine LCg.CompEnd.intro (by assumption) (by assumption) _ (fun _ h => h) off trivial ⟨rfl, ?_⟩
      rw [hcp]
      exact hz
  case fin =>
    rintro zs nn ⟨rfl, hz⟩ D h2 tk2 F2 N2 off1
    have ho := off1_mem off1
    k_steps
    dsimp only
    exact hk _ _ _ D zs zs.length F2 (fun y hy => if_neg hy) (if_pos rfl) N2 hz ho
/-- statement 18: the second choice of spots -/
theorem s18 {rest : List Stmt} {s : Shared}
              (X1 : (_root_.Mine.hd.heap_1 w.params).In h₀) (T1 : Top p loose mean mg mb h₀) (B1 : Below callerA h₀ [] h₀) (CH1 : CodeHd h₀ 88 84) {o1 o2 : Obj} {R : List (Addr × Obj)} {Ds Dp : Addr} {sg sp : List Value} {sgn spn : List Int} {es ep : Nat} {mm : Str → Option Value} (d1 : o1.data = .cell (some (.ref Dp))) (d2 : o2.data = .cell (some (.ref Ds)))
    (m1 : (L + 1 + 1 + 1 + 1 + 1 + 1 + 1 + 1 + 1, o1) ∈ R) (m2 : (L + 1 + 1 + 1 + 1 + 1 + 1 + 1 + 1, o2) ∈ R) (ms : (Ds, W.listOf sg.toArray es) ∈ R) (mp : (Dp, W.listOf sp.toArray ep) ∈ R)
    (hsg : IntsAre sg sgn) (hsp : IntsAre sp spn) (hlg : sgn.length = 15) (hlp : spn.length = 15)
    (F : Fr h₀ L s.heap mm) (N : News h₀ L s.heap R)
    (hk : ∀ h' tk' mm' D hs e', Fr h₀ L h' mm' → (∀ y, y ≠ Str.ofString "waters" → mm' y = mm y) → mm' (Str.ofString "waters") = some (.ref D) → News h₀ L h' ((D, W.listOf hs.toArray e') :: R) → IntsAre hs (pick (fun x => decide (x ≤ 0)) sgn spn 15) → (∀ q ∈ R, @Ne Nat q.1 D) → wpAny (model PySem.Challenge.rw_kl0066_01.row.prog w) (callerA.deeper (lawEnv L fa cd)) (execs (rest) (lawEnv L fa cd)) Q (fun _ _ => False) { heap := h', gens := s.gens, drawn := s.drawn, toks := tk', os := s.os }) :
    wpAny (model PySem.Challenge.rw_kl0066_01.row.prog w) (callerA.deeper (lawEnv L fa cd)) (execs (st18 :: rest) (lawEnv L fa cd)) Q (fun _ _ => False) s := by
  unfold st18
  revert X1
  k_fill
  intro X1
  dsimp only [lawEnv, lawScope]
  k_steps
  unfold Hold
  rename_i hRg _ _ _ _ hrng FR NR _
  refine LCt.CompSrcT.range (n := 15) rfl FR NR hrng (by decide +kernel) (by decide +kernel) (by exact Nat.le_of_ble_eq_true rfl) fun g2 => ?_
  refine rest_genT (Inv := fun i zs nn => nn = R ∧ IntsAre zs (pick (fun x => decide (x ≤ 0)) sgn spn i)) ⟨rfl, .nil⟩ ?turn ?fin
  case turn =>
    rintro i zs nn v I oI C oC D m₂ h2 tk2 E' hi ⟨rfl, hz⟩ hP hC hx F2 N2 off ne
    obtain ⟨t, rfl⟩ := hP
    rw [Int.zero_add] at hx
    obtain ⟨tg, hg⟩ := ints_get hsg (i := i) (x := sgn.getD i 0) (getD_some (by omega) 0)
    obtain ⟨tq, hq⟩ := ints_get hsp (i := i) (x := spn.getD i 0) (getD_some (by omega) 0)
    have hg' : sg.toArray[(i : Int).toNat]? = some (.int (sgn.getD i 0) tg) := by simpa using hg
    have hq' : sp.toArray[(i : Int).toNat]? = some (.int (spn.getD i 0) tq) := by simpa using hq
    by_cases hc : sgn.getD i 0 ≤ 0
    · have hcp := pick_yes (pr := fun x => decide (x ≤ 0)) (spn := spn) (decide_eq_true hc)
      generalize sgn.getD i 0 = sv at *
      k_steps
      unfold Hold
      refine LCg.CompEnd.intro (by assumption) (by assumption) _ (fun _ h => h) off trivial ⟨rfl, ?_⟩
      rw [hcp]
      exact ints_snoc hz _ _
    · have hcp := pick_no (pr := fun x => decide (x ≤ 0)) (spn := spn) (decide_eq_false hc)
      generalize sgn.getD i 0 = sv at *
      k_steps
      unfold Hold
      refine LCg.CompEnd.intro (by assumption) (by assumption) _ (fun _ h => h) off trivial ⟨rfl, ?_⟩
      rw [hcp]
      exact hz
  case fin =>
    rintro zs nn ⟨rfl, hz⟩ D h2 tk2 F2 N2 off1
    have ho := off1_mem off1
    k_steps
    dsimp only
    exact hk _ _ _ D zs zs.length F2 (fun y hy => if_neg hy) (if_pos rfl) N2 hz ho

end Mine
end partSS

section
open PySem PySem.W PySem.Calls PyProof.Rows PySem.Spec
namespace Mine
theorem fresh_C (prog : Program) (w : World) (A : Around) (env : Env) (s : Shared) (Q : Flow → Shared → Prop) (E : Value → Shared → Prop) (h : Q .next s) :
    wpAny (model prog w) A (execs [] env) Q E s := by
  w_top off
  walk1
  exact h
end Mine
end

section rulesC
open PySem PySem.W PySem.Calls PyProof.Rows PySem.Spec
local macro_rules | `(tactic| walk_at "call ref") => `(tactic| (k_here; refine _root_.Mine.hold ?_))
local macro_rules | `(tactic| walk_at "exec Assign cons ListComp") => `(tactic| (k_here; k_dflt (refine LCg.Assign_ListComp_U (F₀ := by k_asm) (by rfl) (by with_unfolding_all rfl) (by with_unfolding_all rfl) (by decide) (by rfl) (by decide) (by rfl) (by rfl) (by rfl) ?_)))
local macro_rules | `(tactic| walk_at "eval ListComp") => `(tactic| (k_here; k_dflt (refine LCg.ListComp_U (F₀ := by k_asm) (by with_unfolding_all rfl) (by decide) (by rfl) (by decide) (by rfl) ?_)))
local macro_rules | `(tactic| walk_at "CompSrc") => `(tactic| (k_here; refine _root_.Mine.hold ?_))
local macro_rules | `(tactic| walk_at "CompEnd") => `(tactic| (k_here; refine _root_.Mine.hold ?_))
local macro_rules | `(tactic| walk_at "FinA") => `(tactic| (k_here; refine _root_.Mine.hold ?_))
local macro_rules | `(tactic| walk_at "FinE") => `(tactic| (k_here; refine _root_.Mine.hold ?_))

/- the part SC -/
section
open PySem PySem.W PySem.Calls PyProof.Rows PySem.Spec
namespace Mine
theorem fresh_SC (prog : Program) (w : World) (A : Around) (env : Env) (s : Shared) (Q : Flow → Shared → Prop) (E : Value → Shared → Prop) (h : Q .next s) :
    wpAny (model prog w) A (execs [] env) Q E s := by
  w_top off
  walk1
  exact h
end Mine
end
section partSC
open PySem PySem.W PySem.Calls PyProof.Rows PySem.Spec
set_option maxHeartbeats 1600000
namespace Mine
open K
/-- statement 2: the levels -/
theorem s2 {rest : List Stmt} {s : Shared}
             (X1 : (_root_.Mine.hd.heap_1 w.params).In h₀) (T1 : Top p loose mean mg mb h₀) (B1 : Below callerA h₀ [] h₀) (CH1 : CodeHd h₀ 88 84) {o9 : Obj} {rest0 : List (Addr × Obj)} {D : Addr} {ys : List Value} {cs : List Int} {e : Nat} (d9 : o9.data = .cell (some (.ref D))) {mm : Str → Option Value} (hys : IntsAre ys cs) (hcl : cs.length = 15)
    (F : Fr h₀ L s.heap mm) (N : News h₀ L s.heap ((D, W.listOf ys.toArray e) :: (L + 1, o9) :: rest0)) (hr : ∀ q ∈ rest0, q.1 ≠ D) (hD : @Ne Nat (L + 1) D)
    (hk : ∀ h' tk' mm' Dl zs e', Fr h₀ L h' mm' → (∀ y, y ≠ Str.ofString "levels" → mm' y = mm y) → mm' (Str.ofString "levels") = some (.ref Dl) → News h₀ L h' ((Dl, W.listOf zs.toArray e') :: (D, W.listOf ys.toArray e) :: (L + 1, o9) :: rest0) → IntsAre zs (cs.map fun a => a.fmod 585) → (@Ne Nat D Dl) → (@Ne Nat (L + 1) Dl) → (∀ q ∈ rest0, q.1 ≠ Dl) → wpAny (model PySem.Challenge.rw_kl0066_01.row.prog w) (callerA.deeper (lawEnv L fa cd)) (execs (rest) (lawEnv L fa cd)) Q (fun _ _ => False) { heap := h', gens := s.gens, drawn := s.drawn, toks := tk', os := s.os }) :
    wpAny (model PySem.Challenge.rw_kl0066_01.row.prog w) (callerA.deeper (lawEnv L fa cd)) (execs (st2 :: rest) (lawEnv L fa cd)) Q (fun _ _ => False) s := by
  unfold st2
  revert X1
  k_fill
  intro X1
  dsimp only [lawEnv, lawScope]
  k_steps
  unfold Hold
  refine LCg.CompSrc.ledger rfl F N (List.mem_cons_self ..) (by rw [sizeLine_eq, List.size_toArray, hys.length]; omega) fun g2 => ?_
  refine rest_gen (Inv := fun i zs nn => nn = (D, W.listOf ys.toArray e) :: (L + 1, o9) :: rest0 ∧ IntsAre zs ((cs.take i).map fun a => a.fmod 585)) ⟨rfl, .nil⟩ ?turn ?fin
  case turn =>
    rintro i zs nn v I oI C oC Dl m₂ h2 tk2 E' hi ⟨rfl, hz⟩ hP hC hx F2 N2 off ne
    obtain ⟨x, t, rfl, hx2⟩ := ints_at hys (by simpa using hP)
    k_steps
    unfold Hold
    refine LCg.CompEnd.intro (by assumption) N2 _ (fun _ h => h) off (.inr ⟨_, List.mem_cons_self .., rfl, _, rfl⟩) ⟨rfl, ?_⟩
    rw [take_snoc hx2, List.map_append]
    exact ints_snoc hz _ _
  case fin =>
    rintro zs nn ⟨rfl, hz⟩ Dl h2 tk2 F2 N2 off1
    have ho := off1_mem off1
    have hn : cs.take ys.toArray.size = cs := by rw [List.size_toArray, hys.length, List.take_length]
    rw [hn] at hz
    k_steps
    exact hk _ _ _ Dl zs zs.length F2 (fun y hy => if_neg hy) (if_pos rfl) N2 hz (ho _ (List.mem_cons_self ..)) (ho _ (List.mem_cons_of_mem _ (List.mem_cons_self ..))) (fun q hq => ho q (by simp [hq]))

end Mine
end partSC

/- the part SD -/
section
open PySem PySem.W PySem.Calls PyProof.Rows PySem.Spec
namespace Mine
theorem fresh_SD (prog : Program) (w : World) (A : Around) (env : Env) (s : Shared) (Q : Flow → Shared → Prop) (E : Value → Shared → Prop) (h : Q .next s) :
    wpAny (model prog w) A (execs [] env) Q E s := by
  w_top off
  walk1
  exact h
end Mine
end
section partSD
open PySem PySem.W PySem.Calls PyProof.Rows PySem.Spec
set_option maxHeartbeats 1600000
namespace Mine
open K
theorem mst3 : mst 3 = 73 := by decide
theorem word3 (rest : List (Addr × Obj)) (lv : Int) (t1 t2 : Tok) (hl : 0 ≤ lv) (hb : lv < 585) :
   Told w p loose mean mg mb 4 (.ref 77) [.int lv t1, .int 73 t2] rest (fun r n' => n' = rest ∧ ∃ t, r = .str (S (wordL 3 lv)) t) := by
  have h := word_told 3 (by decide) rest lv t1 t2 hl (by rw [mst3]; omega)
  rw [mst3] at h
  exact h
/-- statement 3: the words -/
theorem s3 {rest : List Stmt} {s : Shared}
             (X1 : (_root_.Mine.hd.heap_1 w.params).In h₀) (T1 : Top p loose mean mg mb h₀) (B1 : Below callerA h₀ [] h₀) (CH1 : CodeHd h₀ 88 84) {o8 : Obj} {rest0 : List (Addr × Obj)} {Dl : Addr} {zs : List Value} {ls : List Int} {e : Nat} (d8 : o8.data = .cell none) {mm : Str → Option Value} (hm : mm (Str.ofString "levels") = some (.ref Dl))
    (hzs : IntsAre zs ls) (hll : ls.length = 15) (hlb : ∀ l ∈ ls, 0 ≤ l ∧ l < 585)
    (F : Fr h₀ L s.heap mm) (N : News h₀ L s.heap ((L + 1 + 1, o8) :: (Dl, W.listOf zs.toArray e) :: rest0)) (hr : ∀ q ∈ rest0, q.1 ≠ L + 1 + 1) (hD : @Ne Nat (L + 1 + 1) Dl)
    (hk : ∀ h' tk' D ws o' e', Fr h₀ L h' mm → News h₀ L h' ((D, W.listOf ws.toArray e') :: (L + 1 + 1, o') :: (Dl, W.listOf zs.toArray e) :: rest0) → o'.data = .cell (some (.ref D)) → StrsAre ws (ls.map fun l => S (wordL 3 l)) → (@Ne Nat (L + 1 + 1) D) → (@Ne Nat Dl D) → (∀ q ∈ rest0, q.1 ≠ D) → wpAny (model PySem.Challenge.rw_kl0066_01.row.prog w) (callerA.deeper (lawEnv L fa cd)) (execs (rest) (lawEnv L fa cd)) Q (fun _ _ => False) { heap := h', gens := s.gens, drawn := s.drawn, toks := tk', os := s.os }) :
    wpAny (model PySem.Challenge.rw_kl0066_01.row.prog w) (callerA.deeper (lawEnv L fa cd)) (execs (st3 :: rest) (lawEnv L fa cd)) Q (fun _ _ => False) s := by
  unfold st3
  revert X1
  k_fill
  intro X1
  dsimp only [lawEnv, lawScope]
  rw [← mm_as hm] at F
  k_steps
  unfold Hold
  refine LCg.CompSrc.ledger rfl F N (List.mem_cons_of_mem _ (List.mem_cons_self ..)) (by rw [sizeLine_eq, List.size_toArray, hzs.length]; omega) fun g2 => ?_
  refine rest_gen (Inv := fun i ws nn => nn = (L + 1 + 1, o8) :: (Dl, W.listOf zs.toArray e) :: rest0 ∧ StrsAre ws ((ls.take i).map fun l => S (wordL 3 l))) ⟨rfl, .nil⟩ ?turn ?fin
  case turn =>
    rintro i ws nn v I oI C oC D m₂ h2 tk2 E' hi ⟨rfl, hw⟩ hP hC hx F2 N2 off ne
    obtain ⟨x, t, rfl, hx2⟩ := ints_at hzs (by simpa using hP)
    have hb := hlb x (List.mem_of_getElem? hx2)
    k_steps
    unfold Hold
    k_dflt (refine' Told.use B1 ?F X1 ?N T1 CH1 (word3 _ x _ _ hb.1 hb.2) rfl rfl rfl ?hd ?hu ?_)
    case F => assumption
    case N => assumption
    case hd => exact Nat.le_of_ble_eq_true rfl
    case hu => exact Nat.le_of_ble_eq_true rfl
    rintro r h3 tk3 n3 F3 N3 ⟨rfl, t3, rfl⟩
    k_steps
    unfold Hold
    refine LCg.CompEnd.intro F3 N3 _ (fun _ h => h) off (.inr ⟨_, List.mem_cons_of_mem _ (List.mem_cons_self ..), rfl, _, rfl⟩) ⟨rfl, ?_⟩
    rw [take_snoc hx2, List.map_append]
    exact strs_snoc hw
  case fin =>
    rintro ws nn ⟨rfl, hw⟩ D h2 tk2 F2 N2 off1
    have ho := off1_mem off1
    have hn : ls.take zs.toArray.size = ls := by rw [List.size_toArray, hzs.length, List.take_length]
    rw [hn] at hw
    have hoD : @Ne Nat (L + 1 + 1) D := ho _ (List.mem_cons_self ..)
    k_steps
    rename_i hz o' Fz Nz dz
    rw [mm_as hm] at Fz
    exact hk _ _ D ws o' _ Fz Nz dz hw hoD (ho _ (List.mem_cons_of_mem _ (List.mem_cons_self ..))) (fun q hq => ho q (by simp [hq]))

end Mine
end partSD

/- the part SE -/
section
open PySem PySem.W PySem.Calls PyProof.Rows PySem.Spec
namespace Mine
theorem fresh_SE (prog : Program) (w : World) (A : Around) (env : Env) (s : Shared) (Q : Flow → Shared → Prop) (E : Value → Shared → Prop) (h : Q .next s) :
    wpAny (model prog w) A (execs [] env) Q E s := by
  w_top off
  walk1
  exact h
end Mine
end
section partSE
open PySem PySem.W PySem.Calls PyProof.Rows PySem.Spec
set_option maxHeartbeats 1600000
namespace Mine
open K
local macro_rules | `(tactic| walk_at "subscriptTail") => `(tactic| (k_here; (with_reducible show wpAny _ _ (subscriptTail _ _ (Value.ref _) (Value.int _ _)) _ _ _); k_dflt (refine' item_list (news_isl ?N ?m) ?h0 ?hf ?hx ?_; (case N => k_asm); (case m => k_mem); (case hx => with_reducible assumption); (case h0 => omega); (case hf => omega); k_whole)))
noncomputable def gapL : List (List Nat) := [[], [10], [32], [9], [13, 10]]
theorem gapL_eq : gapL.map S = [Str.ofString "", Str.ofString "\n", Str.ofString " ", Str.ofString "\t", Str.ofString "\x0d\n"] := by decide +kernel
/-- statement 4: the gaps -/
theorem s4 {rest : List Stmt} {s : Shared}
             (X1 : (_root_.Mine.hd.heap_1 w.params).In h₀) (T1 : Top p loose mean mg mb h₀) (B1 : Below callerA h₀ [] h₀) (CH1 : CodeHd h₀ 88 84) {o7 : Obj} {rest0 : List (Addr × Obj)} (d7 : o7.data = .cell none) {mm : Str → Option Value}
    (F : Fr h₀ L s.heap mm) (N : News h₀ L s.heap ((L + 1 + 1 + 1, o7) :: rest0)) (hr : ∀ q ∈ rest0, q.1 ≠ L + 1 + 1 + 1)
    (hk : ∀ h' tk' D gs o' e', Fr h₀ L h' mm → News h₀ L h' ((D, W.listOf gs.toArray e') :: (L + 1 + 1 + 1, o') :: rest0) → o'.data = .cell (some (.ref D)) → StrsAre gs (gapL.map S) → (@LT.lt Nat _ (L + 1 + 1 + 1) D) → (∀ q ∈ rest0, q.1 < D) → wpAny (model PySem.Challenge.rw_kl0066_01.row.prog w) (callerA.deeper (lawEnv L fa cd)) (execs (rest) (lawEnv L fa cd)) Q (fun _ _ => False) { heap := h', gens := s.gens, drawn := s.drawn, toks := tk', os := s.os }) :
    wpAny (model PySem.Challenge.rw_kl0066_01.row.prog w) (callerA.deeper (lawEnv L fa cd)) (execs (st4 :: rest) (lawEnv L fa cd)) Q (fun _ _ => False) s := by
  unfold st4
  revert X1
  k_fill
  intro X1
  dsimp only [lawEnv, lawScope]
  k_steps
  rename_i D _ lD hz o' Fz Nz dz
  refine hk _ _ D [_, _, _, _, _] o' 0 Fz Nz dz ?_ lD.1 (ktn_ltOf lD.2)
  rw [gapL_eq]
  exact .cons _ _ (.cons _ _ (.cons _ _ (.cons _ _ (.cons _ _ .nil))))
/-- the text asked, to the k-th word -/
noncomputable def txtL (ls cs : List Int) (k : Nat) : List Nat := writ (wordL 3 (ls.getD k 0)) (((cs.getD k 0).fdiv 585).fmod 4).toNat (gapL.getD (((cs.getD k 0).fdiv 2340).fmod 5).toNat [])
theorem gap_len : ∀ n, (gapL.getD n []).length ≤ 2
  | 0 => by decide
  | 1 => by decide
  | 2 => by decide
  | 3 => by decide
  | 4 => by decide
  | _ + 5 => by show ([] : List Nat).length ≤ 2; decide
theorem writ_len {wd gp : List Nat} {way : Nat} (h1 : wd.length ≤ 3) (h2 : gp.length ≤ 2) : (writ wd way gp).length ≤ 10 := by
  have := flat_len (hid wd way) wd
  unfold writ
  split
  · simp only [List.length_append, List.length_cons, List.length_nil]; omega
  · split
    · simp only [List.length_append, List.length_cons, List.length_nil]; omega
    · simp only [List.length_append]; omega
theorem txtL_len (ls cs : List Int) (k : Nat) : (txtL ls cs k).length ≤ 10 := writ_len (wordL_len 3 _) (gap_len _)
theorem sum10 {f : Nat → List Nat} (hf : ∀ k, (f k).length ≤ 10) : ∀ l : List Nat, ((l.map fun k => S (f k)).map (·.length)).sum ≤ 10 * l.length
  | [] => by simp
  | c :: r => by have := sum10 hf r; have h2 := hf c; have h3 := S_len (f c); simp only [List.map_cons, List.sum_cons, List.length_cons]; omega
theorem flat10 {f : Nat → List Nat} (hf : ∀ k, (f k).length ≤ 10) : ∀ l : List Nat, (l.flatMap f).length ≤ 10 * l.length
  | [] => by simp
  | c :: r => by have := flat10 hf r; have h2 := hf c; simp only [List.flatMap_cons, List.length_append, List.length_cons]; omega
/-- statement 5: the text is joined -/
theorem s5 {rest : List Stmt} {s : Shared}
             (X1 : (_root_.Mine.hd.heap_1 w.params).In h₀) (T1 : Top p loose mean mg mb h₀) (B1 : Below callerA h₀ [] h₀) (CH1 : CodeHd h₀ 88 84) {o9 o8 o7 : Obj} {rest0 : List (Addr × Obj)} {Dc Dw Dg : Addr} {ys ws gs : List Value} {cs ls : List Int} {ec ew eg : Nat} (d9 : o9.data = .cell (some (.ref Dc))) (d8 : o8.data = .cell (some (.ref Dw))) (d7 : o7.data = .cell (some (.ref Dg))) {mm : Str → Option Value}
    (hys : IntsAre ys cs) (hcl : cs.length = 15) (hll : ls.length = 15) (hlb : ∀ l ∈ ls, 0 ≤ l ∧ l < 585) (hws : StrsAre ws (ls.map fun l => S (wordL 3 l))) (hgs : StrsAre gs (gapL.map S))
    (F : Fr h₀ L s.heap mm) (N : News h₀ L s.heap ((L + 1, o9) :: (L + 1 + 1, o8) :: (L + 1 + 1 + 1, o7) :: (Dc, W.listOf ys.toArray ec) :: (Dw, W.listOf ws.toArray ew) :: (Dg, W.listOf gs.toArray eg) :: rest0))
    (hk : ∀ h' tk' mm' t, Fr h₀ L h' mm' → (∀ y, y ≠ Str.ofString "text" → mm' y = mm y) → mm' (Str.ofString "text") = some (.str (S ((List.range 15).flatMap (txtL ls cs) ++ [46])) t) → News h₀ L h' ((L + 1, o9) :: (L + 1 + 1, o8) :: (L + 1 + 1 + 1, o7) :: (Dc, W.listOf ys.toArray ec) :: (Dw, W.listOf ws.toArray ew) :: (Dg, W.listOf gs.toArray eg) :: rest0) → wpAny (model PySem.Challenge.rw_kl0066_01.row.prog w) (callerA.deeper (lawEnv L fa cd)) (execs (rest) (lawEnv L fa cd)) Q (fun _ _ => False) { heap := h', gens := s.gens, drawn := s.drawn, toks := tk', os := s.os }) :
    wpAny (model PySem.Challenge.rw_kl0066_01.row.prog w) (callerA.deeper (lawEnv L fa cd)) (execs (st5 :: rest) (lawEnv L fa cd)) Q (fun _ _ => False) s := by
  unfold st5
  revert X1
  k_fill
  intro X1
  dsimp only [lawEnv, lawScope]
  k_steps
  unfold Hold
  rename_i hR _ _ _ _ hrng FR NR _
  refine LCg.CompSrc.range (n := 15) rfl FR NR hrng (by decide +kernel) (by decide +kernel) (by exact Nat.le_of_ble_eq_true rfl) fun g2 => ?_
  refine rest_gen (Inv := fun i zs nn => nn = (L + 1, o9) :: (L + 1 + 1, o8) :: (L + 1 + 1 + 1, o7) :: (Dc, W.listOf ys.toArray ec) :: (Dw, W.listOf ws.toArray ew) :: (Dg, W.listOf gs.toArray eg) :: rest0 ∧ StrsAre zs ((List.range i).map fun k => S (txtL ls cs k))) ⟨rfl, .nil⟩ ?turn ?fin
  case turn =>
    rintro i zs nn v I oI C oC D m₂ h2 tk2 E' hi ⟨rfl, hz⟩ hP hC hx F2 N2 off ne
    obtain ⟨t, rfl⟩ := hP
    rw [Int.zero_add] at hx
    obtain ⟨tw, hw⟩ := strs_get hws (i := i) (x := S (wordL 3 (ls.getD i 0))) (by rw [List.getElem?_map, getD_some (by omega) 0]; rfl)
    have hg0 : 0 ≤ ((cs.getD (i : Int).toNat 0).fdiv 2340).fmod 5 := Int.fmod_nonneg_of_pos _ (by decide)
    have hg1 : ((cs.getD (i : Int).toNat 0).fdiv 2340).fmod 5 < 5 := Int.fmod_lt_of_pos _ (by decide)
    have hy0 : 0 ≤ ((cs.getD (i : Int).toNat 0).fdiv 585).fmod 4 := Int.fmod_nonneg_of_pos _ (by decide)
    have hy1 : ((cs.getD (i : Int).toNat 0).fdiv 585).fmod 4 < 4 := Int.fmod_lt_of_pos _ (by decide)
    obtain ⟨tg, hg⟩ := strs_get hgs (i := (((cs.getD (i : Int).toNat 0).fdiv 2340).fmod 5).toNat) (x := S (gapL.getD (((cs.getD (i : Int).toNat 0).fdiv 2340).fmod 5).toNat [])) (by rw [List.getElem?_map, getD_some (show _ < gapL.length by show _ < 5; omega) []]; rfl)
    have hw' : ws.toArray[(i : Int).toNat]? = some (.str (S (wordL 3 (ls.getD i 0))) tw) := by simpa using hw
    have hg' : gs.toArray[(((cs.getD (i : Int).toNat 0).fdiv 2340).fmod 5).toNat]? = some (.str (S (gapL.getD (((cs.getD (i : Int).toNat 0).fdiv 2340).fmod 5).toNat [])) tg) := by simpa using hg
    k_steps
    unfold Hold
    have hT := fun t1 t2 t3 => written_told ((I, oI) :: (C, oC) :: (D, LCg.lst zs) :: (L + 1, o9) :: (L + 1 + 1, o8) :: (L + 1 + 1 + 1, o7) :: (Dc, W.listOf ys.toArray ec) :: (Dw, W.listOf ws.toArray ew) :: (Dg, W.listOf gs.toArray eg) :: rest0) (wordL 3 (ls.getD i 0)) (gapL.getD (((cs.getD (i : Int).toNat 0).fdiv 2340).fmod 5).toNat []) ((((cs.getD (i : Int).toNat 0).fdiv 585).fmod 4).toNat) t1 t2 t3 (wordL_len 3 _) (gap_len _) (by omega)
    rw [Int.toNat_of_nonneg hy0] at hT
    k_dflt (refine' Told.use B1 ?F X1 ?N T1 CH1 (hT _ _ _) rfl rfl rfl ?hd ?hu ?_)
    case F => assumption
    case N => assumption
    case hd => exact Nat.le_of_ble_eq_true rfl
    case hu => exact Nat.le_of_ble_eq_true rfl
    rintro r h3 tk3 n3 F3 N3 ⟨rfl, t3, rfl⟩
    k_steps
    unfold Hold
    refine LCg.CompEnd.intro F3 N3 _ (fun _ h => h) off trivial ⟨rfl, ?_⟩
    rw [List.range_succ, List.map_append]
    exact strs_snoc hz
  case fin =>
    rintro zs nn ⟨rfl, hz⟩ D h2 tk2 F2 N2 off1
    have hsum := sum10 (txtL_len ls cs) (List.range 15)
    have hlen := flat10 (txtL_len ls cs) (List.range 15)
    rw [List.length_range] at hsum hlen
    k_steps
    refine join_list (ys := (List.range 15).map fun k => S (txtL ls cs k)) ⟨_, (N2 _ (List.mem_cons_self ..)).1, rfl, _, rfl⟩ (by simpa using hz) (by
      rw [show (Str.ofString "").length = 0 from by decide +kernel]; omega) (fun t5 k5 => ?_)
    rw [joinS2]
    have hbz : (S ((List.range 15).flatMap (txtL ls cs))).length ≤ 150 := by rw [S_len]; exact hlen
    k_steps
    rename_i hz2 Fz Nz
    have hte : S ((List.range 15).flatMap (txtL ls cs)) ++ Str.ofString "." = S ((List.range 15).flatMap (txtL ls cs) ++ [46]) := by
      rw [show Str.ofString "." = S [46] from by decide +kernel, S_app]
    rw [hte] at Fz
    exact hk _ _ _ _ Fz (fun y hy => if_neg hy) (if_pos rfl) (news_of_sub Nz fun q hq => List.mem_cons_of_mem _ hq)

end Mine
end partSE

/- the part SF -/
section
open PySem PySem.W PySem.Calls PyProof.Rows PySem.Spec
namespace Mine
theorem fresh_SF (prog : Program) (w : World) (A : Around) (env : Env) (s : Shared) (Q : Flow → Shared → Prop) (E : Value → Shared → Prop) (h : Q .next s) :
    wpAny (model prog w) A (execs [] env) Q E s := by
  w_top off
  walk1
  exact h
end Mine
end
section partSF
open PySem PySem.W PySem.Calls PyProof.Rows PySem.Spec
set_option maxHeartbeats 1600000
namespace Mine
open K
/-- statement 6: the lexer is made -/
theorem s6 {rest : List Stmt} {s : Shared}
             (X1 : (_root_.Mine.hd.heap_1 w.params).In h₀) (T1 : Top p loose mean mg mb h₀) (B1 : Below callerA h₀ [] h₀) (CH1 : CodeHd h₀ 88 84) {o6 : Obj} {rest0 : List (Addr × Obj)} (d6 : o6.data = .cell none) {mm : Str → Option Value} (text : List Nat) {tt : Tok} (hm : mm (Str.ofString "text") = some (.str (S text) tt)) (hsz : (S text).length ≤ sizeLine)
    (F : Fr h₀ L s.heap mm) (N : News h₀ L s.heap ((84, tabObj #[]) :: (L + 1 + 1 + 1 + 1, o6) :: rest0)) (hr : ∀ q ∈ rest0, q.1 ≠ L + 1 + 1 + 1 + 1) (hr84 : ∀ q ∈ rest0, q.1 ≠ 84) (h84 : @LT.lt Nat _ 84 L)
    (hk : ∀ h' tk' x dx pb fs la st a b c d e1 f t o' ps, Fr h₀ L h' mm → News h₀ L h' ((pb, W.listOf #[] 0) :: (x, instObj 66 dx) :: (dx, dictOf (lexd w 1 fs pb a b c d e1 f) 4) :: (la, W.listOf #[.int 0 t] 0) :: (L + 1 + 1 + 1 + 1, o') :: (84, tabObj ps) :: (st ++ rest0)) →
      o'.data = .cell (some (.ref x)) → Strm w p loose mean mg mb st fs text la → (@LT.lt Nat _ la dx) → (@LT.lt Nat _ dx x) → (@LT.lt Nat _ x pb) → (@LT.lt Nat _ (L + 1 + 1 + 1 + 1) la) → (∀ q ∈ st ++ rest0, @LT.lt Nat _ q.1 dx) → (∀ q ∈ st ++ rest0, @Ne Nat q.1 la) → (∀ q ∈ st ++ rest0, @Ne Nat q.1 (L + 1 + 1 + 1 + 1)) → (∀ q ∈ st, ∀ r ∈ rest0, @LT.lt Nat _ r.1 q.1) → (∀ r ∈ rest0, @LT.lt Nat _ r.1 la) → wpAny (model PySem.Challenge.rw_kl0066_01.row.prog w) (callerA.deeper (lawEnv L fa cd)) (execs (rest) (lawEnv L fa cd)) Q (fun _ _ => False) { heap := h', gens := s.gens, drawn := s.drawn, toks := tk', os := s.os }) :
    wpAny (model PySem.Challenge.rw_kl0066_01.row.prog w) (callerA.deeper (lawEnv L fa cd)) (execs (st6 :: rest) (lawEnv L fa cd)) Q (fun _ _ => False) s := by
  unfold st6
  revert X1
  k_fill
  intro X1
  dsimp only [lawEnv, lawScope]
  rw [← mm_as hm] at F
  k_steps
  unfold Hold
  k_dflt (refine' Told.use B1 ?F X1 ?N T1 CH1 (stream_told ((L + 1 + 1 + 1 + 1, o6) :: rest0) text _ (List.forall_mem_cons.mpr ⟨by show @Ne Nat _ _; omega, hr84⟩) hsz) rfl rfl rfl ?hd ?hu ?_)
  case F => assumption
  case N => assumption
  case hd => exact Nat.le_of_ble_eq_true rfl
  case hu => exact Nat.le_of_ble_eq_true rfl
  rintro r h3 tk3 n3 F3 N3 ⟨fs, la, t, st, lo, ps, rfl, rfl, hS, hlo, hR, hla⟩
  replace N3 : News h₀ L h3 ((L + 1 + 1 + 1 + 1, o6) :: (la, W.listOf #[.int 0 t] 0) :: (84, tabObj ps) :: (st ++ rest0)) := news_of_sub N3 (by intro q hq; simp only [List.mem_cons, List.mem_append] at hq ⊢; rcases hq with h | h | h | h | h <;> simp [h])
  have hL4 : @LT.lt Nat _ (L + 1 + 1 + 1 + 1) lo := hR _ (List.mem_cons_self ..)
  have hla' : @LE.le Nat _ lo la := hla
  have hst4 : ∀ q ∈ st ++ rest0, @Ne Nat q.1 (L + 1 + 1 + 1 + 1) := by
    intro q hq
    rcases List.mem_append.mp hq with hq | hq
    · have : @LE.le Nat _ lo q.1 := (hlo q hq).1
      omega
    · exact hr q hq
  have hstla : ∀ q ∈ st ++ rest0, @Ne Nat q.1 la := by
    intro q hq
    rcases List.mem_append.mp hq with hq | hq
    · exact (hlo q hq).2
    · have : @LT.lt Nat _ q.1 lo := hR q (List.mem_cons_of_mem _ hq)
      omega
  clear N F
  have h84la : @Ne Nat 84 (L + 1 + 1 + 1 + 1) := by omega
  k_steps
  unfold Hold
  k_dflt (refine' ToldW.use B1 ?F X1 ?N T1 CH1 (new_told ((L + 1 + 1 + 1 + 1, o6) :: (la, W.listOf #[.int 0 t] 0) :: (84, tabObj ps) :: (st ++ rest0)) fs) rfl rfl rfl ?hd ?hu ?_)
  case F => assumption
  case N => assumption
  case hd => exact Nat.le_of_ble_eq_true rfl
  case hu => exact Nat.le_of_ble_eq_true rfl
  rintro r h4 tk4 n4 F4 N4 ⟨x, dx, pb, a, b, c, d, e1, f, rfl, rfl, hdx, hdx2, hxp⟩
  replace N4 : News h₀ L h4 ((L + 1 + 1 + 1 + 1, o6) :: (pb, W.listOf #[] 0) :: (x, instObj 66 dx) :: (dx, dictOf (lexd w 1 fs pb a b c d e1 f) 4) :: (la, W.listOf #[.int 0 t] 0) :: (84, tabObj ps) :: (st ++ rest0)) := news_of_sub N4 (by repeat (first | with_reducible apply sub_nil | with_reducible apply sub_refl | with_reducible refine sub_cons (by with_reducible first | apply at0 | apply at1 | apply at2 | apply at3 | apply at4 | apply at5 | apply at6 | apply at7 | apply at8 | apply at9 | apply at10 | apply at11 | apply at12 | apply at13) ?_ | with_reducible refine sub_tail4 ?_ | with_reducible refine sub_tail ?_))
  have hladx : @LT.lt Nat _ la dx := hdx _ (List.mem_cons_of_mem _ (List.mem_cons_self ..))
  have hstd : ∀ q ∈ st ++ rest0, @LT.lt Nat _ q.1 dx := fun q hq => hdx q (List.mem_cons_of_mem _ (List.mem_cons_of_mem _ (List.mem_cons_of_mem _ hq)))
  clear N3 F3
  k_steps
  rename_i hz o' Fz Nz dz
  rw [mm_as hm] at Fz
  exact hk hz _ x dx pb fs la st a b c d e1 f t o' ps Fz (news_of_sub Nz (by repeat (first | with_reducible apply sub_nil | with_reducible apply sub_refl | with_reducible refine sub_cons (by with_reducible first | apply at0 | apply at1 | apply at2 | apply at3 | apply at4 | apply at5 | apply at6 | apply at7 | apply at8 | apply at9 | apply at10 | apply at11 | apply at12 | apply at13) ?_ | with_reducible refine sub_tail4 ?_ | with_reducible refine sub_tail ?_))) dz hS hladx hdx2 hxp (by omega) hstd hstla hst4 (fun q hq r hr => Nat.lt_of_lt_of_le (hR r (List.mem_cons_of_mem _ hr)) (hlo q hq).1) (fun r hr => Nat.lt_of_lt_of_le (hR r (List.mem_cons_of_mem _ hr)) hla)

end Mine
end partSF

/- the part SG -/
section
open PySem PySem.W PySem.Calls PyProof.Rows PySem.Spec
namespace Mine
theorem fresh_SG (prog : Program) (w : World) (A : Around) (env : Env) (s : Shared) (Q : Flow → Shared → Prop) (E : Value → Shared → Prop) (h : Q .next s) :
    wpAny (model prog w) A (execs [] env) Q E s := by
  w_top off
  walk1
  exact h
end Mine
end
section partSG
open PySem PySem.W PySem.Calls PyProof.Rows PySem.Spec
set_option maxHeartbeats 1600000
namespace Mine
open K
local macro_rules | `(tactic| walk_at "compareOp NotEq ref ref") => `(tactic| (k_here; refine hold ?_))
theorem sgn8_lt (n : Nat) : sgn8.getD n 0 < 128 := by
  have : ∀ c ∈ sgn8, c < 128 := by decide
  rcases Nat.lt_or_ge n sgn8.length with h | h
  · rw [List.getD_eq_getElem?_getD, List.getElem?_eq_getElem h]; exact this _ (List.getElem_mem h)
  · rw [List.getD_eq_getElem?_getD, List.getElem?_eq_none h]; decide
theorem wordL_lt : ∀ k lv, ∀ c ∈ wordL k lv, c < 128
  | 0, _, _, h => by cases h
  | k + 1, lv, c, h => by
    unfold wordL at h
    split at h
    · cases h
    · rcases List.mem_cons.mp h with rfl | h
      · exact sgn8_lt _
      · exact wordL_lt k _ c h
theorem strOk_S {l : List Nat} (h : ∀ c ∈ l, c < 128) : PyData.strOk (S l) = true := by
  show (l.toArray).all _ = true
  rw [List.all_toArray, List.all_eq_true]
  intro c hc
  have := h c hc
  simp only [decide_eq_true_eq]
  omega
theorem map_getD {α : Type} (f : Int → α) {ls : List Int} {n : Nat} (h : ls.length = n) : ((List.range n).map fun k => f (ls.getD k 0)) = ls.map f := by
  subst h
  apply List.ext_getElem
  · simp
  · intro i h1 h2
    simp only [List.getElem_map, List.getElem_range]
    congr 1
    simp only [List.length_map] at h2
    rw [List.getD_eq_getElem?_getD, List.getElem?_eq_getElem h2]; rfl
/-- statement 7: the words are read back -/
theorem s7 {rest : List Stmt} {s : Shared}
             (X1 : (_root_.Mine.hd.heap_1 w.params).In h₀) (T1 : Top p loose mean mg mb h₀) (B1 : Below callerA h₀ [] h₀) (CH1 : CodeHd h₀ 88 84) {o8 o6 : Obj} {R : List (Addr × Obj)} {Dw x dx pb fs la : Addr} {ws : List Value} {ls : List Int} {ew ep el : Nat} {a b c d e1 f t : Tok} {text : List Nat} {mm : Str → Option Value} (ks : Nat → Nat)
    (d8 : o8.data = .cell (some (.ref Dw))) (d6 : o6.data = .cell (some (.ref x))) (m8 : (L + 1 + 1, o8) ∈ R) (m6 : (L + 1 + 1 + 1 + 1, o6) ∈ R) (mw : (Dw, W.listOf ws.toArray ew) ∈ R) (mx : (x, instObj 66 dx) ∈ R)
    (hS : Strm w p loose mean mg mb R fs text la) (hll : ls.length = 15) (hws : StrsAre ws (ls.map fun l => S (wordL 3 l)))
    (hk0 : ks 0 = 0) (hks : ∀ i, i < 15 → ∃ n, lex (text.drop (ks i)) = some (wordL 3 (ls.getD i 0), n) ∧ ks (i + 1) = ks i + n ∧ ks i + n ≤ 100000)
    (F : Fr h₀ L s.heap mm) (N : News h₀ L s.heap ((pb, W.listOf #[] ep) :: (dx, dictOf (lexd w 1 fs pb a b c d e1 f) 4) :: (la, W.listOf #[.int 0 t] el) :: R))
    (hpb : ∀ q ∈ R, @Ne Nat q.1 pb) (hdx : ∀ q ∈ R, @Ne Nat q.1 dx) (hla : ∀ q ∈ R, @Ne Nat q.1 la) (h1' : @Ne Nat pb dx) (h2' : @Ne Nat pb la) (h3' : @Ne Nat dx la)
    (hk : ∀ h' tk' b' t' e', Fr h₀ L h' mm → News h₀ L h' ((pb, W.listOf #[] ep) :: (dx, dictOf (lexd w (1 + cnt text (ks 15)) fs pb a b' c d e1 f) 4) :: (la, W.listOf #[.int (ks 15) t'] e') :: R) → wpAny (model PySem.Challenge.rw_kl0066_01.row.prog w) (callerA.deeper (lawEnv L fa cd)) (execs (rest) (lawEnv L fa cd)) Q (fun _ _ => False) { heap := h', gens := s.gens, drawn := s.drawn, toks := tk', os := s.os }) :
    wpAny (model PySem.Challenge.rw_kl0066_01.row.prog w) (callerA.deeper (lawEnv L fa cd)) (execs (st7 :: rest) (lawEnv L fa cd)) Q (fun _ _ => False) s := by
  unfold st7
  revert X1
  k_fill
  intro X1
  dsimp only [lawEnv, lawScope]
  k_steps
  unfold Hold
  refine LCg.CompSrc.ledger rfl F N (List.mem_cons_of_mem _ (List.mem_cons_of_mem _ (List.mem_cons_of_mem _ mw))) (by rw [sizeLine_eq, List.size_toArray, hws.length, List.length_map]; omega) fun g2 => ?_
  refine rest_gen (Inv := fun i zs nn => (∃ b' t' e', nn = (pb, W.listOf #[] ep) :: (dx, dictOf (lexd w (1 + cnt text (ks i)) fs pb a b' c d e1 f) 4) :: (la, W.listOf #[.int (ks i) t'] e') :: R) ∧ StrsAre zs ((List.range i).map fun k => S (wordL 3 (ls.getD k 0)))) ⟨⟨b, t, el, by rw [hk0]; rfl⟩, .nil⟩ ?turn ?fin
  case turn =>
    rintro i zs nn v I oI C oC D m₂ h2 tk2 E' hi ⟨⟨b', t', e', rfl⟩, hz⟩ hP hC hx F2 N2 off ne
    have hi15 : i < 15 := by rw [List.size_toArray, hws.length, List.length_map, hll] at hi; exact hi
    obtain ⟨n, hlex, hkn, hkb⟩ := hks i hi15
    obtain ⟨oI1, oI2, oI3⟩ := off.mem _ (List.mem_cons_self ..)
    obtain ⟨od1, od2, od3⟩ := off.mem _ (List.mem_cons_of_mem _ (List.mem_cons_self ..))
    obtain ⟨ol1, ol2, ol3⟩ := off.mem _ (List.mem_cons_of_mem _ (List.mem_cons_of_mem _ (List.mem_cons_self ..)))
    k_steps
    unfold Hold
    have N2' : News h₀ L h2 ((la, W.listOf #[.int (ks i) t'] e') :: (dx, dictOf (lexd w (1 + cnt text (ks i)) fs pb a b' c d e1 f) 4) :: (pb, W.listOf #[] ep) :: (I, oI) :: (C, oC) :: (D, LCg.lst zs) :: R) :=
      news_of_sub N2 (by repeat (first | with_reducible apply sub_nil | with_reducible apply sub_refl | with_reducible refine sub_cons (by with_reducible first | apply at0 | apply at1 | apply at2 | apply at3 | apply at4 | apply at5 | apply at6 | apply at7 | apply at8 | apply at9 | apply at10 | apply at11 | apply at12 | apply at13) ?_ | with_reducible refine sub_tail4 ?_ | with_reducible refine sub_tail ?_))
    clear N2
    have hx5 : (x, instObj 66 dx) ∈ (pb, W.listOf #[] ep) :: (I, oI) :: (C, oC) :: (D, LCg.lst zs) :: R := List.mem_cons_of_mem _ (List.mem_cons_of_mem _ (List.mem_cons_of_mem _ (List.mem_cons_of_mem _ mx)))
    have hla5 : ∀ q ∈ (pb, W.listOf #[] ep) :: (I, oI) :: (C, oC) :: (D, LCg.lst zs) :: R, q.1 ≠ la := nes_cons (h2') (nes_cons (Ne.symm ol1) (nes_cons (Ne.symm ol2) (nes_cons (Ne.symm ol3) (fun q hq => hla _ hq))))
    have hdx5 : ∀ q ∈ (pb, W.listOf #[] ep) :: (I, oI) :: (C, oC) :: (D, LCg.lst zs) :: R, q.1 ≠ dx := nes_cons (h1') (nes_cons (Ne.symm od1) (nes_cons (Ne.symm od2) (nes_cons (Ne.symm od3) (fun q hq => hdx _ hq))))
    k_dflt (refine' Told.use B1 ?F X1 ?N T1 CH1 (tok_told ((pb, W.listOf #[] ep) :: (I, oI) :: (C, oC) :: (D, LCg.lst zs) :: R) text (ks i) t' e' ep a b' c d e1 f (wordL 3 (ls.getD i 0)) n hx5 (hS.mono fun q hq => by simp [hq]) (List.mem_cons_self ..) hla5 hdx5 h3' hkb hlex) rfl rfl rfl ?hd ?hu ?_)
    case F => assumption
    case N => assumption
    case hd => exact Nat.le_of_ble_eq_true rfl
    case hu => exact Nat.le_of_ble_eq_true rfl
    rintro r h3 tk3 n3 F3 N3 ⟨t2, t3, e3, b3, rfl, rfl⟩
    k_steps
    unfold Hold
    refine LCg.CompEnd.intro F3 N3 ((pb, W.listOf #[] ep) :: (dx, dictOf (lexd w (1 + cnt text (ks i + n)) fs pb a b3 c d e1 f) 4) :: (la, W.listOf #[.int (ks i + n : Nat) t3] e3) :: R) (by repeat (first | with_reducible apply sub_nil | with_reducible apply sub_refl | with_reducible refine sub_cons (by with_reducible first | apply at0 | apply at1 | apply at2 | apply at3 | apply at4 | apply at5 | apply at6 | apply at7 | apply at8 | apply at9 | apply at10 | apply at11 | apply at12 | apply at13) ?_ | with_reducible refine sub_tail4 ?_ | with_reducible refine sub_tail ?_)) off (.inr ⟨_, List.mem_cons_of_mem _ (List.mem_cons_of_mem _ (List.mem_cons_of_mem _ mw)), rfl, _, rfl⟩) ⟨⟨b3, t3, e3, by rw [hkn]⟩, ?_⟩
    rw [List.range_succ, List.map_append]
    exact strs_snoc hz
  case fin =>
    rintro zs nn ⟨⟨b', t', e', rfl⟩, hz⟩ D h2 tk2 F2 N2 off1
    have hn : ws.toArray.size = 15 := by rw [List.size_toArray, hws.length, List.length_map, hll]
    rw [hn] at hz N2
    rw [map_getD (fun l => S (wordL 3 l)) hll] at hz
    k_steps
    unfold Hold
    refine ks_ne (xs := zs) (ys := ws) ⟨_, (News.get (by assumption) (List.mem_cons_self ..)), rfl, _, rfl⟩ ⟨_, (News.get (by assumption) (List.mem_cons_of_mem _ (List.mem_cons_of_mem _ (List.mem_cons_of_mem _ (List.mem_cons_of_mem _ mw))))), rfl, _, rfl⟩ hz hws (fun y hy => ?_) (fun y hy => ?_) (by exact Nat.le_of_ble_eq_true rfl) ?_
    · obtain ⟨l, _, rfl⟩ := List.mem_map.mp hy
      exact strOk_S (wordL_lt 3 l)
    · obtain ⟨l, _, rfl⟩ := List.mem_map.mp hy
      exact strOk_S (wordL_lt 3 l)
    rw [decide_eq_true rfl]
    k_steps
    exact hk _ _ b' t' e' (by assumption) (news_of_sub (by assumption) fun q hq => List.mem_cons_of_mem _ hq)

end Mine
end partSG

/- the part SH -/
section
open PySem PySem.W PySem.Calls PyProof.Rows PySem.Spec
namespace Mine
theorem fresh_SH (prog : Program) (w : World) (A : Around) (env : Env) (s : Shared) (Q : Flow → Shared → Prop) (E : Value → Shared → Prop) (h : Q .next s) :
    wpAny (model prog w) A (execs [] env) Q E s := by
  w_top off
  walk1
  exact h
end Mine
end
section partSH
open PySem PySem.W PySem.Calls PyProof.Rows PySem.Spec
set_option maxHeartbeats 1600000
namespace Mine
open K
local macro_rules | `(tactic| walk_at "subscriptTail") => `(tactic| (k_here; (with_reducible show wpAny _ _ (subscriptTail _ _ (Value.ref _) (Value.int _ _)) _ _ _); k_dflt (refine' item_list (news_isl ?N ?m) ?h0 ?hf ?hx ?_; (case N => k_asm); (case m => k_mem); (case hx => with_reducible assumption); (case h0 => omega); (case hf => omega); k_whole)))
local macro_rules | `(tactic| walk_at "exec For Name Call cons nil") => `(tactic| (k_here; refine hold ?_))
local macro_rules | `(tactic| walk_at "pyIter ref") => `(tactic| (k_here; refine hold ?_))
local macro_rules | `(tactic| walk_at "setItem ref str") => `(tactic| (k_here; refine hold ?_))
/-- statement 8: an empty dict -/
theorem s8 {rest : List Stmt} {s : Shared}
             (X1 : (_root_.Mine.hd.heap_1 w.params).In h₀) (T1 : Top p loose mean mg mb h₀) (B1 : Below callerA h₀ [] h₀) (CH1 : CodeHd h₀ 88 84) {o5 : Obj} {R : List (Addr × Obj)} (d5 : o5.data = .cell none) {mm : Str → Option Value}
    (F : Fr h₀ L s.heap mm) (N : News h₀ L s.heap ((L + 1 + 1 + 1 + 1 + 1, o5) :: R)) (hr : ∀ q ∈ R, q.1 ≠ L + 1 + 1 + 1 + 1 + 1)
    (hk : ∀ h' tk' D od o', Fr h₀ L h' mm → News h₀ L h' ((D, od) :: (L + 1 + 1 + 1 + 1 + 1, o') :: R) → o'.data = .cell (some (.ref D)) → od.IsDictOf (strKind PySem.Challenge.rw_kl0066_01.row.prog w) [] → (D == sysModules) = false → (@LT.lt Nat _ (L + 1 + 1 + 1 + 1 + 1) D) → (∀ q ∈ R, @LT.lt Nat _ q.1 D) → wpAny (model PySem.Challenge.rw_kl0066_01.row.prog w) (callerA.deeper (lawEnv L fa cd)) (execs (rest) (lawEnv L fa cd)) Q (fun _ _ => False) { heap := h', gens := s.gens, drawn := s.drawn, toks := tk', os := s.os }) :
    wpAny (model PySem.Challenge.rw_kl0066_01.row.prog w) (callerA.deeper (lawEnv L fa cd)) (execs (st8 :: rest) (lawEnv L fa cd)) Q (fun _ _ => False) s := by
  unfold st8
  revert X1
  k_fill
  intro X1
  dsimp only [lawEnv, lawScope]
  k_steps
  rename_i D _ od lo hs fs hi fi l1 hz o' Fz Nz dz
  dsimp only
  exact hk _ _ D od o' Fz Nz dz hs lo l1.1 (ktn_ltOf l1.2)
theorem keep1 {k a : Str} {va vk : Option Value} {m0 mB : Str → Option Value} (ha : m0 a = va) (hB : ∀ y, y ≠ k → mB y = m0 y) (y : Str) (hy : y ≠ k) : (if y = k then vk else if y = a then va else mB y) = m0 y := by
  rw [if_neg hy]
  split
  · rename_i q; rw [q]; exact ha.symm
  · exact hB y hy
theorem rng_step {o : Obj} {x : Int} {n : Nat} (h : RngIt o x ((n : Int) - 1) 1) (hn : 0 < n) : RngIt o x ((n - 1 : Nat) : Int) 1 := by
  have e : ((n - 1 : Nat) : Int) = (n : Int) - 1 := by omega
  rw [e]; exact h
inductive S9I (s : Shared) (I pb Dd : Addr) (R : List (Addr × Obj)) (mm : Str → Option Value) (ls : List Int) (n : Nat) (s' : Shared) : Prop
  | mk (i : Nat) (h : Heap) (tk : Nat) (mm2 : Str → Option Value) (oI od : Obj) (kvs : List (Str × Value)) (Dt : List (PyData × PyData)) (pv : List Value) (e : Nat) : n + i = 15 → s' = { heap := h, gens := s.gens, drawn := s.drawn, toks := tk, os := s.os } → Fr h₀ L h mm2 → (∀ y, y ≠ Str.ofString "k" → mm2 y = mm y) →
    News h₀ L h ((I, oI) :: (pb, W.listOf pv.toArray e) :: (Dd, od) :: R) → RngIt oI i n 1 → StrsAre pv ((List.range i).map fun k => S (wordL 3 (ls.getD k 0))) → od.IsDictOf (strKind PySem.Challenge.rw_kl0066_01.row.prog w) kvs → PyProof.V.FlatPairs PyData.str kvs Dt → Dt.length ≤ i → (∀ j, j < i → ∃ t, valueAt kvs (S (wordL 3 (ls.getD j 0))) = some (.int (lgt (ls.getD j 0)) t)) → S9I s I pb Dd R mm ls n s'
/-- statement 9: the lights are stored, the words put back -/
theorem s9 {rest : List Stmt} {s : Shared}
             (X1 : (_root_.Mine.hd.heap_1 w.params).In h₀) (T1 : Top p loose mean mg mb h₀) (B1 : Below callerA h₀ [] h₀) (CH1 : CodeHd h₀ 88 84) {o8 o6 o5 od : Obj} {R : List (Addr × Obj)} {Dl Dw Dd x dx pb fs : Addr} {ws zs : List Value} {ls : List Int} {ew ez ep : Nat} {a b c d e1 f : Tok} {ln : Int} {mm : Str → Option Value}
    (d8 : o8.data = .cell (some (.ref Dw))) (d6 : o6.data = .cell (some (.ref x))) (d5 : o5.data = .cell (some (.ref Dd))) (m8 : (L + 1 + 1, o8) ∈ R) (m6 : (L + 1 + 1 + 1 + 1, o6) ∈ R) (m5 : (L + 1 + 1 + 1 + 1 + 1, o5) ∈ R) (mw : (Dw, W.listOf ws.toArray ew) ∈ R) (ml : (Dl, W.listOf zs.toArray ez) ∈ R) (mx : (x, instObj 66 dx) ∈ R) (mdx : (dx, dictOf (lexd w ln fs pb a b c d e1 f) 4) ∈ R)
    (hm : mm (Str.ofString "levels") = some (.ref Dl)) (hzs : IntsAre zs ls) (hll : ls.length = 15) (hws : StrsAre ws (ls.map fun l => S (wordL 3 l))) (hinj : ∀ i j : Int, i ∈ ls → j ∈ ls → wordL 3 i = wordL 3 j → i = j)
    (hod : od.IsDictOf (strKind PySem.Challenge.rw_kl0066_01.row.prog w) []) (hlo : (Dd == sysModules) = false)
    (F : Fr h₀ L s.heap mm) (N : News h₀ L s.heap ((pb, W.listOf #[] ep) :: (Dd, od) :: R)) (hpb : ∀ q ∈ R, @Ne Nat q.1 pb) (hdd : ∀ q ∈ R, @Ne Nat q.1 Dd) (hpd : @Ne Nat pb Dd)
    (hk : ∀ h' tk' mm' od' kvs pv e', Fr h₀ L h' mm' → (∀ y, y ≠ Str.ofString "k" → mm' y = mm y) → News h₀ L h' ((pb, W.listOf pv.toArray e') :: (Dd, od') :: R) → StrsAre pv (ls.map fun l => S (wordL 3 l)) → od'.IsDictOf (strKind PySem.Challenge.rw_kl0066_01.row.prog w) kvs → (∀ l ∈ ls, ∃ t, valueAt kvs (S (wordL 3 l)) = some (.int (lgt l) t)) → wpAny (model PySem.Challenge.rw_kl0066_01.row.prog w) (callerA.deeper (lawEnv L fa cd)) (execs (rest) (lawEnv L fa cd)) Q (fun _ _ => False) { heap := h', gens := s.gens, drawn := s.drawn, toks := tk', os := s.os }) :
    wpAny (model PySem.Challenge.rw_kl0066_01.row.prog w) (callerA.deeper (lawEnv L fa cd)) (execs (st9 :: rest) (lawEnv L fa cd)) Q (fun _ _ => False) s := by
  unfold st9
  revert X1
  k_fill
  intro X1
  dsimp only [lawEnv, lawScope]
  rw [← mm_as hm] at F
  k_steps
  unfold Hold
  refine wpAny_For ?_
  k_steps
  unfold Hold
  rename_i hR _ _ _ _ hrng FR NR _
  refine' rng_iter (by decide +kernel) FR NR hrng ?_
  intro I oI h8 F8 N8 hI l8
  have hIp : @LT.lt Nat _ pb I := l8 _ (List.mem_cons_self ..)
  have hId : @LT.lt Nat _ Dd I := l8 _ (List.mem_cons_of_mem _ (List.mem_cons_self ..))
  have hIr : ∀ q ∈ R, q.1 < I := fun q hq => l8 q (by simp [hq])
  clear l8
  refine forLoopS (S9I s I pb Dd R mm ls) ?turn 15 ?h0
  case h0 => exact ⟨0, h8, _, _, oI, od, [], [], [], ep, rfl, rfl, (mm_as hm ▸ F8), fun _ _ => rfl, N8, hI, .nil, hod, .nil, Nat.le_refl _, fun j hj => absurd hj (by omega)⟩
  case turn =>
    clear F8 N8 hI FR NR hod
    rintro n sB ⟨i, hB, tkB, mB, oI, od, kvs, Dt, pv, e, hni, rfl, FB, hmB, NB, hI, hpv, hod, hft, hdl, hva⟩
    have offB : ∀ q ∈ (pb, W.listOf pv.toArray e) :: (Dd, od) :: R, q.1 ≠ I := nes_cons (Nat.ne_of_lt hIp) (nes_cons (Nat.ne_of_lt hId) (fun q hq => Nat.ne_of_lt (hIr q hq)))
    have hpl : pv.length = i := by rw [hpv.length, List.length_map, List.length_range]
    by_cases hin : i = 15
    · subst hin
      refine rng_done rfl FB NB offB hI (by omega) fun ha Fa Na => ?_
      clear FB NB
      dsimp only
      k_steps
      dsimp only
      rw [map_getD (fun l => S (wordL 3 l)) hll] at hpv
      refine hk _ _ _ od kvs pv e Fa hmB Na hpv hod fun l hl => ?_
      obtain ⟨j, hj, rfl⟩ := List.getElem_of_mem hl
      have := hva j (by omega)
      rwa [List.getD_eq_getElem?_getD, List.getElem?_eq_getElem hj] at this
    · refine rng_next FB NB offB hI (by omega) fun oA ha Fa Na hA => ?_
      clear FB NB
      dsimp only
      have hms : mB (Str.ofString "levels") = some (.ref Dl) := (hmB _ (by decide)).trans hm
      rw [← mm_as hms] at Fa
      obtain ⟨tw, hw⟩ := strs_get hws (i := i) (x := S (wordL 3 (ls.getD i 0))) (by rw [List.getElem?_map, getD_some (by omega) 0]; rfl)
      have hw' : ws.toArray[(i : Int).toNat]? = some (.str (S (wordL 3 (ls.getD i 0))) tw) := by simpa using hw
      k_steps
      unfold Hold
      refine' setItem_K (knd := strKind PySem.Challenge.rw_kl0066_01.row.prog w) (enc := PyData.str) (k := S (wordL 3 (ls.getD i 0))) (kvs := kvs) (D := Dt) henc_str ?key (PyProof.V.Flat.int _ _) ?F ?N ?U hod hft ?_ ?sz
      case F => assumption
      case N => assumption
      case key => exact beq_self_eq_true _
      case U => k_updF
      case sz => rw [sizeLine_eq]; omega
      intro h5 o5' F5 N5 hd5 hf5
      have hdl5 := Nat.le_trans (PyProof.V.putD_length_le (PyData.str (S (wordL 3 (ls.getD i 0)))) (PyData.int (lgt (ls.getD i 0))) Dt) (Nat.add_le_add_right hdl 1)
      k_steps
      unfold Hold
      replace N5 : News h₀ L h5 ((pb, W.listOf pv.toArray e) :: (I, oA) :: (Dd, o5') :: R) := news_of_sub N5 (by repeat (first | with_reducible apply sub_nil | with_reducible apply sub_refl | with_reducible refine sub_cons (by with_reducible first | apply at0 | apply at1 | apply at2 | apply at3 | apply at4 | apply at5 | apply at6 | apply at7 | apply at8 | apply at9 | apply at10 | apply at11 | apply at12 | apply at13) ?_ | with_reducible refine sub_tail4 ?_ | with_reducible refine sub_tail ?_))
      have hx5 : (x, instObj 66 dx) ∈ (I, oA) :: (Dd, o5') :: R := List.mem_cons_of_mem _ (List.mem_cons_of_mem _ mx)
      have hdx5 : (dx, dictOf (lexd w ln fs pb a b c d e1 f) 4) ∈ (I, oA) :: (Dd, o5') :: R := List.mem_cons_of_mem _ (List.mem_cons_of_mem _ mdx)
      have hne5 : ∀ q ∈ (I, oA) :: (Dd, o5') :: R, q.1 ≠ pb := nes_cons (Ne.symm (Nat.ne_of_lt hIp)) (nes_cons (Ne.symm hpd) (fun q hq => hpb _ hq))
      k_dflt (refine' Told.use B1 ?F X1 ?N T1 CH1 (push_told ((I, oA) :: (Dd, o5') :: R) pv (S (wordL 3 (ls.getD i 0))) _ ln e a b c d e1 f hx5 hdx5 hne5 (by omega)) rfl rfl rfl ?hd ?hu ?_)
      case F => assumption
      case N => assumption
      case hd => exact Nat.le_of_ble_eq_true rfl
      case hu => exact Nat.le_of_ble_eq_true rfl
      rintro r h6 tk6 n6 F6 N6 ⟨rfl, rfl⟩
      k_steps
      show Step _ n _
      refine ⟨n - 1, by omega, i + 1, h6, _, _, oA, o5', _, _, pv ++ [Value.str (S (wordL 3 (ls.getD i 0))) tw], e + 1, by omega, rfl, by assumption, ?_, news_of_sub N6 (by repeat (first | with_reducible apply sub_nil | with_reducible apply sub_refl | with_reducible refine sub_cons (by with_reducible first | apply at0 | apply at1 | apply at2 | apply at3 | apply at4 | apply at5 | apply at6 | apply at7 | apply at8 | apply at9 | apply at10 | apply at11 | apply at12 | apply at13) ?_ | with_reducible refine sub_tail4 ?_ | with_reducible refine sub_tail ?_)), ?_, ?_, hd5, hf5, hdl5, ?_⟩
      · exact keep1 hm hmB
      · exact rng_step hA (by omega)
      · rw [List.range_succ, List.map_append]
        exact strs_snoc hpv
      · intro j hj
        rw [valueAt_stored]
        by_cases hji : S (wordL 3 (ls.getD j 0)) = S (wordL 3 (ls.getD i 0))
        · rw [if_pos hji]
          have hw2 : wordL 3 (ls.getD j 0) = wordL 3 (ls.getD i 0) := by
            have := congrArg (fun z : Str => z.cps.toList) hji
            simpa [S] using this
          have hmem : ∀ k, k < 15 → ls.getD k 0 ∈ ls := fun k hk => by
            rw [List.getD_eq_getElem?_getD, List.getElem?_eq_getElem (by omega)]; exact List.getElem_mem _
          have := hinj _ _ (hmem j (by omega)) (hmem i (by omega)) hw2
          rw [this]
          exact ⟨_, rfl⟩
        · rw [if_neg hji]
          have hjne : j ≠ i := fun h => hji (by rw [h])
          exact hva j (by omega)

end Mine
end partSH

/- the part SK -/
section
open PySem PySem.W PySem.Calls PyProof.Rows PySem.Spec
namespace Mine
theorem fresh_SK (prog : Program) (w : World) (A : Around) (env : Env) (s : Shared) (Q : Flow → Shared → Prop) (E : Value → Shared → Prop) (h : Q .next s) :
    wpAny (model prog w) A (execs [] env) Q E s := by
  w_top off
  walk1
  exact h
end Mine
end
section partSK
open PySem PySem.W PySem.Calls PyProof.Rows PySem.Spec
set_option maxHeartbeats 1600000
namespace Mine
open K
local macro_rules | `(tactic| walk_at "subscriptTail") => `(tactic| (k_here; (with_reducible show wpAny _ _ (subscriptTail _ _ (Value.ref _) (Value.int _ _)) _ _ _); k_dflt (refine' item_list (news_isl ?N ?m) ?h0 ?hf ?hx ?_; (case N => k_asm); (case m => k_mem); (case hx => with_reducible assumption); (case h0 => omega); (case hf => omega); k_whole)))
local macro_rules | `(tactic| walk_at "exec For Name Call cons nil") => `(tactic| (k_here; refine hold ?_))
local macro_rules | `(tactic| walk_at "pyIter ref") => `(tactic| (k_here; refine hold ?_))
local macro_rules | `(tactic| walk_at "subscriptTail") => `(tactic| (k_here; (with_reducible show wpAny _ _ (subscriptTail _ _ (Value.ref _) (Value.str _ _)) _ _ _); refine hold ?_))
noncomputable abbrev W0 (l : Int) : Str := S (wordL 3 l)
theorem item_dictv {prog : Program} {w : World} {A : Around} {E : Value → Shared → Prop} {s : Shared} {h₀ : Heap} {L d : Addr} {o : Obj} {kvs : List (Str × Value)} {value slice : Expr} {k : Str} {t : Tok} {v : Value} {news : List (Addr × Obj)} {Q : Value → Shared → Prop}
    (N : News h₀ L s.heap news) (hm : (d, o) ∈ news) (hd : o.IsDictOf (strKind prog w) kvs) (hv : valueAt kvs k = some v) (h : Q v { s with toks := s.toks + 1 })
    (hs : subscripted slice false (.ref d) (.str k t) = operate [.ref d, .str k t] (getItem (.ref d) (.str k t)) := by with_unfolding_all rfl) (hg : ∀ r, letTemporaryGo value (.ref d) r = pure () := by intro _; with_unfolding_all rfl) :
    wpAny (model prog w) A (subscriptTail value slice (.ref d) (.str k t)) Q E s := by
  have hdo : s.heap.DictOf (strKind prog w) d kvs := Heap.dictOf_iff.mpr ⟨o, (N _ hm).1, hd⟩
  exact subscriptTail_builtin hdo.typeIs slot_dict_getitem.lookup (wpAny_getItem_of (knd := strKind prog w) (k := k) (beq_self_eq_true _) hdo.mapOf hv h) hs hg
theorem ints_three {ys : List Value} {a b c : Int} (h : IntsAre ys [a, b, c]) : ∃ u0 u1 u2, ys = [.int a u0, .int b u1, .int c u2] := by
  cases h with
  | cons _ u0 h1 => cases h1 with
    | cons _ u1 h2 => cases h2 with
      | cons _ u2 h3 => cases h3 with
        | nil => exact ⟨u0, u1, u2, rfl⟩
inductive LkI (s : Shared) (I pb Da Dr : Addr) (oa or : Obj) (R : List (Addr × Obj)) (mm : Str → Option Value) (qs T : List Int) (M n : Nat) (s' : Shared) : Prop
  | mk (i : Nat) (h : Heap) (tk : Nat) (mm2 : Str → Option Value) (oI : Obj) (pv : List Value) (e : Nat) : n + i = M → s' = { heap := h, gens := s.gens, drawn := s.drawn, toks := tk, os := s.os } → Fr h₀ L h mm2 → (∀ y, y ≠ Str.ofString "k" → y ≠ Str.ofString "three" → y ≠ Str.ofString "which" → mm2 y = mm y) →
    News h₀ L h ((I, oI) :: (pb, W.listOf pv.toArray e) :: (Da, oa) :: (Dr, or) :: R) → RngIt oI (1 + (i : Int)) n 1 → StrsAre pv ((qs ++ T.take i).map W0) → LkI s I pb Da Dr oa or R mm qs T M n s'
/-- the innermost loop: a row's places -/
theorem lk {Q : Flow → Shared → Prop} {rest : List Stmt} {s : Shared}
             (X1 : (_root_.Mine.hd.heap_1 w.params).In h₀) (T1 : Top p loose mean mg mb h₀) (B1 : Below callerA h₀ [] h₀) (CH1 : CodeHd h₀ 88 84) {o6 o5 od : Obj} {R : List (Addr × Obj)} {Dd x dx pb fs Da Dr : Addr} {av rv pv : List Value} {ls Av Rv qs : List Int} {ea er ep n0 : Nat} {a b c d e1 f ts : Tok} {ln : Int} {kvs : List (Str × Value)} {mm : Str → Option Value}
    (d6 : o6.data = .cell (some (.ref x))) (d5 : o5.data = .cell (some (.ref Dd))) (m6 : (L + 1 + 1 + 1 + 1, o6) ∈ R) (m5 : (L + 1 + 1 + 1 + 1 + 1, o5) ∈ R) (mx : (x, instObj 66 dx) ∈ R) (mdx : (dx, dictOf (lexd w ln fs pb a b c d e1 f) 4) ∈ R) (md : (Dd, od) ∈ R)
    (hod : od.IsDictOf (strKind PySem.Challenge.rw_kl0066_01.row.prog w) kvs) (hva : ∀ l ∈ ls, ∃ t, valueAt kvs (W0 l) = some (.int (lgt l) t)) (hlb : ∀ l ∈ ls, 0 ≤ l ∧ l < 585)
    (hma : mm (Str.ofString "above") = some (.ref Da)) (hmr : mm (Str.ofString "row") = some (.ref Dr)) (hms : mm (Str.ofString "size") = some (.int n0 ts))
    (hav : StrsAre av (Av.map W0)) (hrv : StrsAre rv (Rv.map W0)) (hpv : StrsAre pv (qs.map W0)) (hn0 : Rv.length = n0) (hna : Av.length + 1 = n0) (hn2 : 2 ≤ n0) (hn5 : n0 ≤ 5) (hAl : ∀ l ∈ Av, l ∈ ls) (hRl : ∀ l ∈ Rv, l ∈ ls) (hq : qs.length ≤ 100)
    (F : Fr h₀ L s.heap mm) (N : News h₀ L s.heap ((pb, W.listOf pv.toArray ep) :: (Da, W.listOf av.toArray ea) :: (Dr, W.listOf rv.toArray er) :: R)) (hpb : ∀ q ∈ R, @Ne Nat q.1 pb) (hpa : @Ne Nat Da pb) (hpr : @Ne Nat Dr pb)
    (hk : ∀ h' tk' mm' pv' e', Fr h₀ L h' mm' → (∀ y, y ≠ Str.ofString "k" → y ≠ Str.ofString "three" → y ≠ Str.ofString "which" → mm' y = mm y) → News h₀ L h' ((pb, W.listOf pv'.toArray e') :: (Da, W.listOf av.toArray ea) :: (Dr, W.listOf rv.toArray er) :: R) → StrsAre pv' ((qs ++ red Av Rv).map W0) → wpAny (model PySem.Challenge.rw_kl0066_01.row.prog w) (callerA.deeper (lawEnv L fa cd)) (execs (rest) (lawEnv L fa cd)) Q (fun _ _ => False) { heap := h', gens := s.gens, drawn := s.drawn, toks := tk', os := s.os }) :
    wpAny (model PySem.Challenge.rw_kl0066_01.row.prog w) (callerA.deeper (lawEnv L fa cd)) (execs (sc1 :: rest) (lawEnv L fa cd)) Q (fun _ _ => False) s := by
  unfold sc1
  revert X1
  k_fill
  intro X1
  dsimp only [lawEnv, lawScope]
  have hmz : (fun y => if y = Str.ofString "size" then some (Value.int n0 ts) else if y = Str.ofString "row" then some (.ref Dr) else if y = Str.ofString "above" then some (.ref Da) else mm y) = mm := put3_self (by assumption) (by assumption) (by assumption)
  rw [← hmz] at F
  k_steps
  unfold Hold
  refine wpAny_For ?_
  k_steps
  unfold Hold
  rename_i hRg _ _ _ _ hrng FR NR _
  have hsz : Builtin.Range.rangeSize 1 (n0 : Int) 1 = ((n0 - 1 : Nat) : Int) := by
    unfold Builtin.Range.rangeSize
    (repeat' split) <;> omega
  refine' rng_iter ?sm FR NR hrng ?_
  case sm => exact small_one (by omega) (by omega) (by omega) (by omega)
  intro I oI h8 F8 N8 hI l8
  rw [hsz] at hI
  have hIp : @LT.lt Nat _ pb I := l8 _ (List.mem_cons_self ..)
  have hIa : @LT.lt Nat _ Da I := l8 _ (List.mem_cons_of_mem _ (List.mem_cons_self ..))
  have hIw : @LT.lt Nat _ Dr I := l8 _ (List.mem_cons_of_mem _ (List.mem_cons_of_mem _ (List.mem_cons_self ..)))
  have hIr : ∀ q ∈ R, q.1 < I := fun q hq => l8 q (by simp [hq])
  clear l8
  refine forLoopS (LkI s I pb Da Dr (W.listOf av.toArray ea) (W.listOf rv.toArray er) R mm qs (red Av Rv) (n0 - 1)) ?turn (n0 - 1) ?h0
  case h0 => exact ⟨0, h8, _, _, oI, pv, ep, rfl, rfl, (hmz ▸ F8), fun _ _ _ _ => rfl, N8, hI, by rw [List.take_zero, List.append_nil]; exact hpv⟩
  case turn =>
    clear F8 N8 hI FR NR hpv
    rintro n sB ⟨i, hB, tkB, mB, oI, pv, e, hni, rfl, FB, hmB, NB, hI, hpv⟩
    have offB : ∀ q ∈ (pb, W.listOf pv.toArray e) :: (Da, W.listOf av.toArray ea) :: (Dr, W.listOf rv.toArray er) :: R, q.1 ≠ I := nes_cons (Nat.ne_of_lt hIp) (nes_cons (Nat.ne_of_lt hIa) (nes_cons (Nat.ne_of_lt hIw) (fun q hq => Nat.ne_of_lt (hIr q hq))))
    have hrl : (red Av Rv).length = n0 - 1 := by rw [red_len (by omega)]; omega
    have hpl : pv.length ≤ 110 := by rw [hpv.length, List.length_map, List.length_append, List.length_take]; omega
    by_cases hin : i = n0 - 1
    · subst hin
      refine rng_done rfl FB NB offB hI (by omega) fun ha Fa Na => ?_
      clear FB NB
      dsimp only
      k_steps
      dsimp only
      rw [List.take_of_length_le (by omega)] at hpv
      exact hk _ _ _ pv e Fa hmB Na hpv
    · refine rng_next FB NB offB hI (by omega) fun oA ha Fa Na hA => ?_
      clear FB NB
      dsimp only
      have hma' : mB (Str.ofString "above") = some (.ref Da) := (hmB _ (by decide) (by decide) (by decide)).trans hma
      have hmr' : mB (Str.ofString "row") = some (.ref Dr) := (hmB _ (by decide) (by decide) (by decide)).trans hmr
      have hmz2 : (fun y => if y = Str.ofString "row" then some (.ref Dr) else if y = Str.ofString "above" then some (.ref Da) else mB y) = mB := put2_self (by assumption) (by assumption)
      rw [← hmz2] at Fa
      have hia : i < Av.length := by omega
      obtain ⟨ta, hxa⟩ := strs_get hav (i := i) (x := W0 (Av.getD i 0)) (by rw [List.getElem?_map, getD_some hia 0]; rfl)
      obtain ⟨tb, hxb⟩ := strs_get hrv (i := i) (x := W0 (Rv.getD i 0)) (by rw [List.getElem?_map, getD_some (by omega) 0]; rfl)
      obtain ⟨tc, hxc⟩ := strs_get hrv (i := i + 1) (x := W0 (Rv.getD (i + 1) 0)) (by rw [List.getElem?_map, getD_some (by omega) 0]; rfl)
      have ei1 : (1 + (i : Int) - 1).toNat = i := by omega
      have ei2 : (1 + (i : Int)).toNat = i + 1 := by omega
      have hxa' : av.toArray[(1 + (i : Int) - 1).toNat]? = some (.str (W0 (Av.getD i 0)) ta) := by rw [ei1]; simpa using hxa
      have hxb' : rv.toArray[(1 + (i : Int) - 1).toNat]? = some (.str (W0 (Rv.getD i 0)) tb) := by rw [ei1]; simpa using hxb
      have hxc' : rv.toArray[(1 + (i : Int)).toNat]? = some (.str (W0 (Rv.getD (i + 1) 0)) tc) := by rw [ei2]; simpa using hxc
      have hla : Av.getD i 0 ∈ ls := hAl _ (List.mem_of_getElem? (getD_some hia 0))
      have hlb' : Rv.getD i 0 ∈ ls := hRl _ (List.mem_of_getElem? (getD_some (by omega) 0))
      have hlc : Rv.getD (i + 1) 0 ∈ ls := hRl _ (List.mem_of_getElem? (getD_some (by omega) 0))
      have hrg := red_get (A := Av) (R := Rv) (i := i) (by omega) hia
      generalize Av.getD i 0 = la at *
      generalize Rv.getD i 0 = lb at *
      generalize Rv.getD (i + 1) 0 = lc at *
      k_steps
      rename_i D3 _ l3 hX FX NX
      unfold Hold
      refine LCg.CompSrc.ledger rfl FX NX (List.mem_cons_self ..) (by exact Nat.le_of_ble_eq_true rfl) fun g2 => ?_
      refine rest_gen (Inv := fun j ys nn => nn = (D3, W.listOf #[Value.str (W0 la) ta, Value.str (W0 lb) tb, Value.str (W0 lc) tc] 0) :: (I, oA) :: (pb, W.listOf pv.toArray e) :: (Da, W.listOf av.toArray ea) :: (Dr, W.listOf rv.toArray er) :: R ∧ IntsAre ys ([lgt la, lgt lb, lgt lc].take j)) ⟨rfl, .nil⟩ ?turnC ?finC
      case turnC =>
        rintro j ys nn v I2 oI2 C oC Dm m₂ h2 tk2 E' hj ⟨rfl, hz⟩ hP hC hx2 F2 N2 off ne
        obtain ⟨l, u, rfl, hl, hlv⟩ : ∃ l u, v = .str (W0 l) u ∧ l ∈ ls ∧ [lgt la, lgt lb, lgt lc][j]? = some (lgt l) := by
          match j, hj, hP with
          | 0, _, hP => exact ⟨la, ta, (Option.some.inj hP).symm, hla, rfl⟩
          | 1, _, hP => exact ⟨lb, tb, (Option.some.inj hP).symm, hlb', rfl⟩
          | 2, _, hP => exact ⟨lc, tc, (Option.some.inj hP).symm, hlc, rfl⟩
        obtain ⟨tv, hv⟩ := hva l hl
        k_steps
        unfold Hold
        refine item_dictv N2 (by simp [md]) hod hv ?_
        k_steps
        unfold Hold
        refine LCg.CompEnd.intro (by assumption) (by assumption) _ (fun _ h => h) off (.inr ⟨_, List.mem_cons_self .., rfl, _, rfl⟩) ⟨rfl, ?_⟩
        rw [take_snoc hlv]
        exact ints_snoc hz _ _
      case finC =>
        rintro ys nn ⟨rfl, hz⟩ Dm h2 tk2 F2 N2 off1
        obtain ⟨u0, u1, u2, rfl⟩ := ints_three hz
        have ho := off1_mem off1
        k_steps
        unfold Hold
        have hne6 : ∀ q ∈ (D3, W.listOf #[Value.str (W0 la) ta, Value.str (W0 lb) tb, Value.str (W0 lc) tc] 0) :: (I, oA) :: (pb, W.listOf pv.toArray e) :: (Da, W.listOf av.toArray ea) :: (Dr, W.listOf rv.toArray er) :: R, q.1 ≠ Dm := ho
        k_dflt (refine' Told.use B1 ?F X1 ?N T1 CH1 (mid_told ((D3, W.listOf #[Value.str (W0 la) ta, Value.str (W0 lb) tb, Value.str (W0 lc) tc] 0) :: (I, oA) :: (pb, W.listOf pv.toArray e) :: (Da, W.listOf av.toArray ea) :: (Dr, W.listOf rv.toArray er) :: R) (lgt la) (lgt lb) (lgt lc) 3 u0 u1 u2 hne6 (lgt_bound (hlb la hla)) (lgt_bound (hlb lb hlb')) (lgt_bound (hlb lc hlc))) rfl rfl rfl ?hd ?hu ?_)
        case F => assumption
        case N => assumption
        case hd => exact Nat.le_of_ble_eq_true rfl
        case hu => exact Nat.le_of_ble_eq_true rfl
        rintro r h3 tk3 n3 F3 N3 ⟨rfl, idx, tI, rfl, hmed⟩
        have hm3 := med_of hmed
        have hidx0 : 0 ≤ idx := by omega
        have hidx2 : idx ≤ 2 := by omega
        obtain ⟨tm, hmi⟩ : ∃ tm, (#[Value.str (W0 la) ta, Value.str (W0 lb) tb, Value.str (W0 lc) tc] : Array Value)[idx.toNat]? = some (.str (W0 (med3 la lb lc)) tm) := by
          rcases hm3 with ⟨rfl, e⟩ | ⟨rfl, e⟩ | ⟨rfl, e⟩ <;> rw [e] <;> exact ⟨_, rfl⟩
        clear N2 F2
        k_steps
        unfold Hold
        rename_i hW FW NW _
        have NW' : News h₀ L hW ((pb, W.listOf pv.toArray e) :: (I, oA) :: (Da, W.listOf av.toArray ea) :: (Dr, W.listOf rv.toArray er) :: R) := news_of_sub NW (by repeat (first | with_reducible apply sub_nil | with_reducible apply sub_refl | with_reducible refine sub_cons (by with_reducible first | apply at0 | apply at1 | apply at2 | apply at3 | apply at4 | apply at5 | apply at6 | apply at7 | apply at8 | apply at9 | apply at10 | apply at11 | apply at12 | apply at13) ?_ | with_reducible refine sub_tail4 ?_ | with_reducible refine sub_tail ?_))
        clear NW
        have hx5 : (x, instObj 66 dx) ∈ (I, oA) :: (Da, W.listOf av.toArray ea) :: (Dr, W.listOf rv.toArray er) :: R := by simp [mx]
        have hdx5 : (dx, dictOf (lexd w ln fs pb a b c d e1 f) 4) ∈ (I, oA) :: (Da, W.listOf av.toArray ea) :: (Dr, W.listOf rv.toArray er) :: R := List.mem_cons_of_mem _ (List.mem_cons_of_mem _ (List.mem_cons_of_mem _ mdx))
        have hne5 : ∀ q ∈ (I, oA) :: (Da, W.listOf av.toArray ea) :: (Dr, W.listOf rv.toArray er) :: R, q.1 ≠ pb := nes_cons (Ne.symm (Nat.ne_of_lt hIp)) (nes_cons (hpa) (nes_cons (hpr) (fun q hq => hpb _ hq)))
        k_dflt (refine' Told.use B1 ?F X1 ?N T1 CH1 (push_told ((I, oA) :: (Da, W.listOf av.toArray ea) :: (Dr, W.listOf rv.toArray er) :: R) pv (W0 (med3 la lb lc)) _ ln e a b c d e1 f hx5 hdx5 hne5 (by omega)) rfl rfl rfl ?hd ?hu ?_)
        case F => assumption
        case N => assumption
        case hd => exact Nat.le_of_ble_eq_true rfl
        case hu => exact Nat.le_of_ble_eq_true rfl
        rintro r h6 tk6 n6 F6 N6 ⟨rfl, rfl⟩
        k_steps
        show Step _ n _
        refine ⟨n - 1, by omega, i + 1, h6, _, _, oA, pv ++ [Value.str (W0 (med3 la lb lc)) tm], e + 1, by omega, rfl, by assumption, ?_, news_of_sub N6 (by repeat (first | with_reducible apply sub_nil | with_reducible apply sub_refl | with_reducible refine sub_cons (by with_reducible first | apply at0 | apply at1 | apply at2 | apply at3 | apply at4 | apply at5 | apply at6 | apply at7 | apply at8 | apply at9 | apply at10 | apply at11 | apply at12 | apply at13) ?_ | with_reducible refine sub_tail4 ?_ | with_reducible refine sub_tail ?_)), ?_, ?_⟩
        · intro y hy1 hy2 hy3
          simp only [hy1, hy2, hy3, if_false]
          split
          · rename_i q; rw [q]; exact hmr.symm
          · split
            · rename_i q; rw [q]; exact hma.symm
            · exact hmB y hy1 hy2 hy3
        · have e1 : ((n - 1 : Nat) : Int) = (n : Int) - 1 := by omega
          have e2 : (1 + ((i + 1 : Nat) : Int)) = 1 + (i : Int) + 1 := by omega
          rw [e1, e2]
          exact hA
        · rw [take_snoc hrg, ← List.append_assoc, List.map_append]
          exact strs_snoc hpv

end Mine
end partSK

/- the part SL -/
section
open PySem PySem.W PySem.Calls PyProof.Rows PySem.Spec
namespace Mine
theorem fresh_SL (prog : Program) (w : World) (A : Around) (env : Env) (s : Shared) (Q : Flow → Shared → Prop) (E : Value → Shared → Prop) (h : Q .next s) :
    wpAny (model prog w) A (execs [] env) Q E s := by
  w_top off
  walk1
  exact h
end Mine
end
section partSL
open PySem PySem.W PySem.Calls PyProof.Rows PySem.Spec
set_option maxHeartbeats 1600000
namespace Mine
open K
/-- a row is read -/
theorem lr {Q : Flow → Shared → Prop} {rest : List Stmt} {s : Shared}
             (X1 : (_root_.Mine.hd.heap_1 w.params).In h₀) (T1 : Top p loose mean mg mb h₀) (B1 : Below callerA h₀ [] h₀) (CH1 : CodeHd h₀ 88 84) {o6 : Obj} {R : List (Addr × Obj)} {x dx pb fs : Addr} {pv : List Value} {X T : List Int} {ep n0 : Nat} {a b c d e1 f ts : Tok} {ln : Int} {mm : Str → Option Value}
    (d6 : o6.data = .cell (some (.ref x))) (m6 : (L + 1 + 1 + 1 + 1, o6) ∈ R) (mx : (x, instObj 66 dx) ∈ R) (mdx : (dx, dictOf (lexd w ln fs pb a b c d e1 f) 4) ∈ R)
    (hms : mm (Str.ofString "size") = some (.int n0 ts)) (hpv : StrsAre pv ((X ++ T).map W0)) (hX : X.length = n0) (hn5 : n0 ≤ 5) (hT : T.length ≤ 100)
    (F : Fr h₀ L s.heap mm) (N : News h₀ L s.heap ((pb, W.listOf pv.toArray ep) :: R)) (hpb : ∀ q ∈ R, @Ne Nat q.1 pb)
    (hk : ∀ h' tk' mm' Dr rv er pv' e', Fr h₀ L h' mm' → (∀ y, y ≠ Str.ofString "row" → mm' y = mm y) → mm' (Str.ofString "row") = some (.ref Dr) → News h₀ L h' ((pb, W.listOf pv'.toArray e') :: (Dr, W.listOf rv.toArray er) :: R) → StrsAre rv (X.map W0) → StrsAre pv' (T.map W0) → (@Ne Nat pb Dr) → (∀ q ∈ R, @Ne Nat q.1 Dr) → wpAny (model PySem.Challenge.rw_kl0066_01.row.prog w) (callerA.deeper (lawEnv L fa cd)) (execs (rest) (lawEnv L fa cd)) Q (fun _ _ => False) { heap := h', gens := s.gens, drawn := s.drawn, toks := tk', os := s.os }) :
    wpAny (model PySem.Challenge.rw_kl0066_01.row.prog w) (callerA.deeper (lawEnv L fa cd)) (execs (sc0 :: rest) (lawEnv L fa cd)) Q (fun _ _ => False) s := by
  unfold sc0
  revert X1
  k_fill
  intro X1
  dsimp only [lawEnv, lawScope]
  rw [← mm_as hms] at F
  k_steps
  unfold Hold
  rename_i hRg _ _ _ _ hrng FR NR _
  have hsz : Builtin.Range.rangeSize 0 (n0 : Int) 1 = (n0 : Int) := by
    unfold Builtin.Range.rangeSize
    (repeat' split) <;> omega
  refine LCg.CompSrc.range (n := n0) rfl FR NR hrng (small_one (by omega) (by omega) (by omega) (by omega)) hsz (by rw [sizeLine_eq]; omega) fun g2 => ?_
  refine rest_gen (Inv := fun i zs nn => (∃ (pv : List Value) (e : Nat), nn = (pb, W.listOf pv.toArray e) :: R ∧ StrsAre pv ((X.drop i ++ T).map W0)) ∧ StrsAre zs ((X.take i).map W0)) ⟨⟨pv, ep, rfl, hpv⟩, .nil⟩ ?turn ?fin
  case turn =>
    rintro i zs nn v I oI C oC D m₂ h2 tk2 E' hi ⟨⟨pv, e, rfl, hpv⟩, hz⟩ hP hC hx F2 N2 off ne
    obtain ⟨y, hy⟩ : ∃ y, X[i]? = some y := ⟨_, List.getElem?_eq_getElem (by omega)⟩
    have hdr : X.drop i = y :: X.drop (i + 1) := by
      have hlt : i < X.length := by omega
      rw [List.drop_eq_getElem_cons hlt]
      rw [List.getElem?_eq_getElem hlt] at hy
      cases hy
      rfl
    rw [hdr] at hpv
    obtain ⟨ty, pv2, rfl, hpv2⟩ : ∃ ty pv2, pv = .str (W0 y) ty :: pv2 ∧ StrsAre pv2 ((X.drop (i + 1) ++ T).map W0) := by
      cases hpv with
      | cons _ ty h => exact ⟨ty, _, rfl, h⟩
    have hl2 : pv2.length ≤ 1000 := by rw [hpv2.length, List.length_map, List.length_append, List.length_drop]; omega
    obtain ⟨op1, op2, op3⟩ := off.mem _ (List.mem_cons_self ..)
    k_steps
    unfold Hold
    have N2' : News h₀ L h2 ((pb, W.listOf (.str (W0 y) ty :: pv2).toArray e) :: (I, oI) :: (C, oC) :: (D, LCg.lst zs) :: R) :=
      news_of_sub N2 (by repeat (first | with_reducible apply sub_nil | with_reducible apply sub_refl | with_reducible refine sub_cons (by with_reducible first | apply at0 | apply at1 | apply at2 | apply at3 | apply at4 | apply at5 | apply at6 | apply at7 | apply at8 | apply at9 | apply at10 | apply at11 | apply at12 | apply at13) ?_ | with_reducible refine sub_tail4 ?_ | with_reducible refine sub_tail ?_))
    clear N2
    have hx5 : (x, instObj 66 dx) ∈ (I, oI) :: (C, oC) :: (D, LCg.lst zs) :: R := List.mem_cons_of_mem _ (List.mem_cons_of_mem _ (List.mem_cons_of_mem _ mx))
    have hdx5 : (dx, dictOf (lexd w ln fs pb a b c d e1 f) 4) ∈ (I, oI) :: (C, oC) :: (D, LCg.lst zs) :: R := List.mem_cons_of_mem _ (List.mem_cons_of_mem _ (List.mem_cons_of_mem _ mdx))
    have hne5 : ∀ q ∈ (I, oI) :: (C, oC) :: (D, LCg.lst zs) :: R, q.1 ≠ pb := nes_cons (Ne.symm op1) (nes_cons (Ne.symm op2) (nes_cons (Ne.symm op3) (fun q hq => hpb _ hq)))
    k_dflt (refine' Told.use B1 ?F X1 ?N T1 CH1 (pop_told ((I, oI) :: (C, oC) :: (D, LCg.lst zs) :: R) (W0 y) ty pv2 ln e a b c d e1 f hx5 hdx5 hne5 hl2) rfl rfl rfl ?hd ?hu ?_)
    case F => assumption
    case N => assumption
    case hd => exact Nat.le_of_ble_eq_true rfl
    case hu => exact Nat.le_of_ble_eq_true rfl
    rintro r h3 tk3 n3 F3 N3 ⟨⟨e3, rfl⟩, rfl⟩
    k_steps
    unfold Hold
    refine LCg.CompEnd.intro F3 N3 ((pb, W.listOf pv2.toArray e3) :: R) (by repeat (first | with_reducible apply sub_nil | with_reducible apply sub_refl | with_reducible refine sub_cons (by with_reducible first | apply at0 | apply at1 | apply at2 | apply at3 | apply at4 | apply at5 | apply at6 | apply at7 | apply at8 | apply at9 | apply at10 | apply at11 | apply at12 | apply at13) ?_ | with_reducible refine sub_tail4 ?_ | with_reducible refine sub_tail ?_)) off trivial ⟨⟨pv2, e3, rfl, hpv2⟩, ?_⟩
    rw [take_snoc hy, List.map_append]
    exact strs_snoc hz
  case fin =>
    rintro zs nn ⟨⟨pv2, e3, rfl, hpv2⟩, hz⟩ D h2 tk2 F2 N2 off1
    rw [List.drop_of_length_le (by omega), List.nil_append] at hpv2
    rw [List.take_of_length_le (by omega)] at hz
    have ho := off1_mem off1
    k_steps
    dsimp only
    exact hk h2 _ _ D zs zs.length pv2 e3 F2 (fun y hy => (if_neg hy).trans (congrFun (mm_as hms) y)) (if_pos rfl) (news_of_sub N2 (by repeat (first | with_reducible apply sub_nil | with_reducible apply sub_refl | with_reducible refine sub_cons (by with_reducible first | apply at0 | apply at1 | apply at2 | apply at3 | apply at4 | apply at5 | apply at6 | apply at7 | apply at8 | apply at9 | apply at10 | apply at11 | apply at12 | apply at13) ?_ | with_reducible refine sub_tail4 ?_ | with_reducible refine sub_tail ?_))) hz hpv2 (ho _ (List.mem_cons_self ..)) (fun q hq => ho q (List.mem_cons_of_mem _ hq))

end Mine
end partSL

/- the part SM -/
section
open PySem PySem.W PySem.Calls PyProof.Rows PySem.Spec
namespace Mine
theorem fresh_SM (prog : Program) (w : World) (A : Around) (env : Env) (s : Shared) (Q : Flow → Shared → Prop) (E : Value → Shared → Prop) (h : Q .next s) :
    wpAny (model prog w) A (execs [] env) Q E s := by
  w_top off
  walk1
  exact h
end Mine
end
section partSM
open PySem PySem.W PySem.Calls PyProof.Rows PySem.Spec
set_option maxHeartbeats 1600000
namespace Mine
open K
local macro_rules | `(tactic| walk_at "exec For Name Call cons nil") => `(tactic| (k_here; refine hold ?_))
local macro_rules | `(tactic| walk_at "pyIter ref") => `(tactic| (k_here; refine hold ?_))
local macro_rules | `(tactic| walk_at "execs cons") => `(tactic| (k_here; (with_reducible rename HoldMark => hmk'); refine hold ?_))
/-- a board gives way to one with a row less -/
noncomputable def redB : List (List Int) → List (List Int)
  | r :: r' :: rs => red r r' :: redB (r' :: rs)
  | _ => []
theorem redB_get : ∀ {B : List (List Int)} {i : Nat}, i + 1 < B.length → (redB B)[i]? = some (red (B.getD i []) (B.getD (i + 1) []))
  | [], _, h => by simp at h
  | [r], _, h => by simp at h
  | r :: r' :: rs, 0, _ => rfl
  | r :: r' :: rs, i + 1, h => by
    show (redB (r' :: rs))[i]? = _
    rw [redB_get (B := r' :: rs) (by simpa using h)]
    rfl
theorem redB_len : ∀ B : List (List Int), (redB B).length = B.length - 1
  | [] => rfl
  | [r] => rfl
  | r :: r' :: rs => by
    show (red r r' :: redB (r' :: rs)).length = _
    rw [List.length_cons, redB_len (r' :: rs)]
    simp
/-- a three-sided board of n rows -/
structure Brd (ls : List Int) (B : List (List Int)) (n : Nat) : Prop where
  rows : B.length = n
  row : ∀ i, i < n → (B.getD i []).length = i + 1
  mem : ∀ r ∈ B, ∀ l ∈ r, l ∈ ls
theorem Brd.red {ls : List Int} {B : List (List Int)} {n : Nat} (h : Brd ls B (n + 1)) : Brd ls (redB B) n := by
  have hg : ∀ i, i < n → (redB B)[i]? = some (Mine.red (B.getD i []) (B.getD (i + 1) [])) := fun i hi => redB_get (by rw [h.rows]; omega)
  refine ⟨by rw [redB_len, h.rows]; rfl, ?_, ?_⟩
  · intro i hi
    rw [List.getD_eq_getElem?_getD, hg i hi]
    show (Mine.red _ _).length = _
    rw [red_len (by rw [h.row i (by omega), h.row (i + 1) (by omega)]), h.row i (by omega)]
  · intro r hr l hl
    obtain ⟨i, hi, e⟩ := List.getElem_of_mem hr
    have hi' : i < n := by rw [redB_len, h.rows] at hi; omega
    have := hg i hi'
    rw [List.getElem?_eq_getElem hi, e] at this
    cases this
    have hm : ∀ j, j < n + 1 → B.getD j [] ∈ B := fun j hj => List.mem_of_getElem? (getD_some (by rw [h.rows]; exact hj) [])
    rcases red_mem hl with hl | hl
    · exact h.mem _ (hm i (by omega)) l hl
    · exact h.mem _ (hm (i + 1) (by omega)) l hl
theorem Brd.flat_le {ls : List Int} {B : List (List Int)} {n : Nat} (h : Brd ls B n) (hn : n ≤ 5) : ∀ j, ((B.drop j).flatten).length ≤ 25 := by
  intro j
  have key : ∀ (C : List (List Int)), (∀ r ∈ C, r.length ≤ 5) → C.flatten.length ≤ 5 * C.length := by
    intro C
    induction C with
    | nil => intro _; simp
    | cons r C ih =>
      intro hc
      have h1 := hc r (List.mem_cons_self ..)
      have h2 := ih fun q hq => hc q (List.mem_cons_of_mem _ hq)
      simp only [List.flatten_cons, List.length_append, List.length_cons]
      omega
  have hr : ∀ r ∈ B, r.length ≤ 5 := by
    intro r hr
    obtain ⟨i, hi, e⟩ := List.getElem_of_mem hr
    have := h.row i (by rw [← h.rows]; exact hi)
    rw [List.getD_eq_getElem?_getD, List.getElem?_eq_getElem hi, e] at this
    have h2 := h.rows
    simp only [Option.getD_some] at this
    omega
  have := key (B.drop j) fun r hq => hr r (List.mem_of_mem_drop hq)
  have h3 := h.rows
  rw [List.length_drop] at this
  omega
/-- the middle loop: the rows -/
inductive LszI (s : Shared) (I pb : Addr) (R : List (Addr × Obj)) (mm : Str → Option Value) (Bd : List (List Int)) (M n : Nat) (s' : Shared) : Prop
  | mk (j : Nat) (h : Heap) (tk : Nat) (mm2 : Str → Option Value) (oI : Obj) (pv : List Value) (e : Nat) (Da : Addr) (av : List Value) (ea : Nat) : n + j = M → s' = { heap := h, gens := s.gens, drawn := s.drawn, toks := tk, os := s.os } → Fr h₀ L h mm2 →
    (∀ y, y ∉ [Str.ofString "k", Str.ofString "three", Str.ofString "which", Str.ofString "size", Str.ofString "row", Str.ofString "above"] → mm2 y = mm y) → mm2 (Str.ofString "above") = some (.ref Da) →
    News h₀ L h ((I, oI) :: (pb, W.listOf pv.toArray e) :: (Da, W.listOf av.toArray ea) :: R) → RngIt oI (2 + (j : Int)) n 1 → StrsAre av ((Bd.getD j []).map W0) → StrsAre pv (((Bd.drop (j + 1)).flatten ++ ((redB Bd).take j).flatten).map W0) → (@Ne Nat Da pb) → (@Ne Nat Da I) → LszI s I pb R mm Bd M n s'
theorem lsz {Q : Flow → Shared → Prop} {rest : List Stmt} {s : Shared}
              (X1 : (_root_.Mine.hd.heap_1 w.params).In h₀) (T1 : Top p loose mean mg mb h₀) (B1 : Below callerA h₀ [] h₀) (CH1 : CodeHd h₀ 88 84) {o6 o5 od : Obj} {R : List (Addr × Obj)} {Dd x dx pb fs Da : Addr} {av pv : List Value} {ls : List Int} {Bd : List (List Int)} {ea ep n0 : Nat} {a b c d e1 f ts : Tok} {ln : Int} {kvs : List (Str × Value)} {mm : Str → Option Value}
    (d6 : o6.data = .cell (some (.ref x))) (d5 : o5.data = .cell (some (.ref Dd))) (m6 : (L + 1 + 1 + 1 + 1, o6) ∈ R) (m5 : (L + 1 + 1 + 1 + 1 + 1, o5) ∈ R) (mx : (x, instObj 66 dx) ∈ R) (mdx : (dx, dictOf (lexd w ln fs pb a b c d e1 f) 4) ∈ R) (md : (Dd, od) ∈ R)
    (hod : od.IsDictOf (strKind PySem.Challenge.rw_kl0066_01.row.prog w) kvs) (hva : ∀ l ∈ ls, ∃ t, valueAt kvs (W0 l) = some (.int (lgt l) t)) (hlb : ∀ l ∈ ls, 0 ≤ l ∧ l < 585)
    (hma : mm (Str.ofString "above") = some (.ref Da)) (hms : mm (Str.ofString "side") = some (.int n0 ts))
    (hB : Brd ls Bd n0) (hav : StrsAre av ((Bd.getD 0 []).map W0)) (hpv : StrsAre pv ((Bd.drop 1).flatten.map W0)) (hn2 : 2 ≤ n0) (hn5 : n0 ≤ 5)
    (F : Fr h₀ L s.heap mm) (N : News h₀ L s.heap ((pb, W.listOf pv.toArray ep) :: (Da, W.listOf av.toArray ea) :: R)) (hpb : ∀ q ∈ R, @Ne Nat q.1 pb) (hpa : @Ne Nat Da pb)
    (hk : ∀ h' tk' mm' pv' e', Fr h₀ L h' mm' → (∀ y, y ∉ [Str.ofString "k", Str.ofString "three", Str.ofString "which", Str.ofString "size", Str.ofString "row", Str.ofString "above"] → mm' y = mm y) → News h₀ L h' ((pb, W.listOf pv'.toArray e') :: R) → StrsAre pv' ((redB Bd).flatten.map W0) → wpAny (model PySem.Challenge.rw_kl0066_01.row.prog w) (callerA.deeper (lawEnv L fa cd)) (execs (rest) (lawEnv L fa cd)) Q (fun _ _ => False) { heap := h', gens := s.gens, drawn := s.drawn, toks := tk', os := s.os }) :
    wpAny (model PySem.Challenge.rw_kl0066_01.row.prog w) (callerA.deeper (lawEnv L fa cd)) (execs (sb1 :: rest) (lawEnv L fa cd)) Q (fun _ _ => False) s := by
  unfold sb1
  revert X1
  k_fill
  intro X1
  dsimp only [lawEnv, lawScope]
  have hmz : (fun y => if y = Str.ofString "side" then some (Value.int n0 ts) else mm y) = mm := mm_as hms
  rw [← hmz] at F
  k_steps
  unfold Hold
  refine wpAny_For ?_
  k_steps
  unfold Hold
  rename_i hRg _ _ _ _ hrng FR NR _
  have hsz : Builtin.Range.rangeSize 2 ((n0 : Int) + 1) 1 = ((n0 - 1 : Nat) : Int) := by
    unfold Builtin.Range.rangeSize
    (repeat' split) <;> omega
  refine' rng_iter ?sm FR NR hrng ?_
  case sm => exact small_one (by omega) (by omega) (by omega) (by omega)
  intro I oI h8 F8 N8 hI l8
  rw [hsz] at hI
  have hIp : @LT.lt Nat _ pb I := l8 _ (List.mem_cons_self ..)
  have hIa : @LT.lt Nat _ Da I := l8 _ (List.mem_cons_of_mem _ (List.mem_cons_self ..))
  have hIr : ∀ q ∈ R, q.1 < I := fun q hq => l8 q (by simp [hq])
  clear l8
  refine forLoopS (LszI s I pb R mm Bd (n0 - 1)) ?turn (n0 - 1) ?h0
  case h0 => exact ⟨0, h8, _, _, oI, pv, ep, Da, av, ea, rfl, rfl, (hmz ▸ F8), fun _ _ => rfl, hma, N8, hI, hav, by rw [List.take_zero, List.flatten_nil, List.append_nil]; exact hpv, hpa, Nat.ne_of_lt hIa⟩
  case turn =>
    clear F8 N8 hI FR NR hpv hav hpa hIa hma
    rintro n sB ⟨j, hBp, tkB, mB, oI, pv, e, Da, av, ea, hnj, rfl, FB, hmB, hma, NB, hI, hav, hpv, hpa, hIa⟩
    have offB : ∀ q ∈ (pb, W.listOf pv.toArray e) :: (Da, W.listOf av.toArray ea) :: R, q.1 ≠ I := nes_cons (Nat.ne_of_lt hIp) (nes_cons (hIa) (fun q hq => Nat.ne_of_lt (hIr q hq)))
    have hrl : (redB Bd).length = n0 - 1 := by rw [redB_len, hB.rows]
    by_cases hin : j = n0 - 1
    · subst hin
      refine rng_done rfl FB NB offB hI (by omega) fun ha Fa Na => ?_
      clear FB NB
      dsimp only
      k_steps
      dsimp only
      rw [List.drop_of_length_le (by rw [hB.rows]; omega), List.flatten_nil, List.nil_append, List.take_of_length_le (by omega)] at hpv
      exact hk _ _ _ pv e Fa hmB (news_of_sub Na (by repeat (first | with_reducible apply sub_nil | with_reducible apply sub_refl | with_reducible refine sub_cons (by with_reducible first | apply at0 | apply at1 | apply at2 | apply at3 | apply at4 | apply at5 | apply at6 | apply at7 | apply at8 | apply at9 | apply at10 | apply at11 | apply at12 | apply at13) ?_ | with_reducible refine sub_tail4 ?_ | with_reducible refine sub_tail ?_))) hpv
    · refine rng_next FB NB offB hI (by omega) fun oA ha Fa Na hA => ?_
      clear FB NB
      dsimp only
      have hj2 : (2 + (j : Int)) = ((j + 2 : Nat) : Int) := by omega
      have hsrc : Bd.drop (j + 1) = Bd.getD (j + 1) [] :: Bd.drop (j + 2) := by
        have hlt : j + 1 < Bd.length := by rw [hB.rows]; omega
        rw [List.drop_eq_getElem_cons hlt, List.getD_eq_getElem?_getD, List.getElem?_eq_getElem hlt]; rfl
      rw [hsrc, List.flatten_cons, List.append_assoc] at hpv
      have hmk : HoldMark := ⟨⟩
      k_steps
      rename HoldMark => hmk
      clear hmk
      unfold Hold
      rename_i hZ FZ NZ
      rw [hj2] at FZ
      refine wpAny_mono (Q := _) (E := fun _ _ => False) ?_ (fun _ _ x => x) (fun _ _ x => x.elim)
      have NZ' : News h₀ L hZ ((pb, W.listOf pv.toArray e) :: (I, oA) :: (Da, W.listOf av.toArray ea) :: R) := news_of_sub NZ (by repeat (first | with_reducible apply sub_nil | with_reducible apply sub_refl | with_reducible refine sub_cons (by with_reducible first | apply at0 | apply at1 | apply at2 | apply at3 | apply at4 | apply at5 | apply at6 | apply at7 | apply at8 | apply at9 | apply at10 | apply at11 | apply at12 | apply at13) ?_ | with_reducible refine sub_tail4 ?_ | with_reducible refine sub_tail ?_))
      clear NZ
      have hIp' : @Ne Nat I pb := Ne.symm (Nat.ne_of_lt hIp)
      have htk : ((redB Bd).take j).flatten.length ≤ 25 := by
        have hlen : ∀ C : List (List Int), (∀ r ∈ C, r.length ≤ 5) → C.flatten.length ≤ 5 * C.length := by
          intro C
          induction C with
          | nil => intro _; simp
          | cons r C ih =>
            intro hc
            have h1 := hc r (List.mem_cons_self ..)
            have h2 := ih fun q hq => hc q (List.mem_cons_of_mem _ hq)
            simp only [List.flatten_cons, List.length_append, List.length_cons]
            omega
        have hbr : ∀ r ∈ (redB Bd).take j, r.length ≤ 5 := by
          intro r hr
          have hr' := List.mem_of_mem_take hr
          obtain ⟨i, hi, er⟩ := List.getElem_of_mem hr'
          have hg := redB_get (B := Bd) (i := i) (by rw [hB.rows]; omega)
          rw [List.getElem?_eq_getElem hi, er] at hg
          cases hg
          rw [red_len (by rw [hB.row i (by omega), hB.row (i + 1) (by omega)]), hB.row i (by omega)]
          omega
        have h1 := hlen _ hbr
        have h2 : ((redB Bd).take j).length ≤ 4 := by rw [List.length_take]; omega
        omega
      have hdr := hB.flat_le hn5 (j + 2)
      have hqt : ((Bd.drop (j + 2)).flatten ++ ((redB Bd).take j).flatten).length ≤ 100 := by rw [List.length_append]; omega
      have hpb1 : ∀ q ∈ (I, oA) :: (Da, W.listOf av.toArray ea) :: R, @Ne Nat q.1 pb := nes_cons (hIp') (nes_cons (hpa) (fun q hq => hpb _ hq))
      refine lr (rest := [sc1, sc2]) (R := (I, oA) :: (Da, W.listOf av.toArray ea) :: R) (x := x) (dx := dx) (pb := pb) (fs := fs) (X := Bd.getD (j + 1) []) (T := (Bd.drop (j + 2)).flatten ++ ((redB Bd).take j).flatten) (n0 := j + 2) (mm := fun y => if y = Str.ofString "size" then some (Value.int ((j + 2 : Nat) : Int) tkB) else mB y) X1 T1 B1 CH1 d6 (by simp [m6]) (by simp [mx]) (List.mem_cons_of_mem _ (List.mem_cons_of_mem _ mdx)) (if_pos rfl) hpv (by rw [hB.row (j + 1) (by omega)]) (by omega) hqt FZ NZ' hpb1 ?_
      intro h5 tk5 mm5 Dr rv er pv5 e5 F5 hag5 hrow5 N5 hrv hpv5 hpd hRd
      have hgm : ∀ i, i < n0 → ∀ l ∈ Bd.getD i [], l ∈ ls := fun i hi l hl => hB.mem _ (List.mem_of_getElem? (getD_some (by rw [hB.rows]; exact hi) [])) l hl
      have N5' : News h₀ L h5 ((pb, W.listOf pv5.toArray e5) :: (Da, W.listOf av.toArray ea) :: (Dr, W.listOf rv.toArray er) :: (I, oA) :: R) := news_of_sub N5 (by repeat (first | with_reducible apply sub_nil | with_reducible apply sub_refl | with_reducible refine sub_cons (by with_reducible first | apply at0 | apply at1 | apply at2 | apply at3 | apply at4 | apply at5 | apply at6 | apply at7 | apply at8 | apply at9 | apply at10 | apply at11 | apply at12 | apply at13) ?_ | with_reducible refine sub_tail4 ?_ | with_reducible refine sub_tail ?_))
      clear N5
      refine lk (rest := [sc2]) (R := (I, oA) :: R) (x := x) (dx := dx) (pb := pb) (fs := fs) (Da := Da) (Dr := Dr) (Dd := Dd) (od := od) (n0 := j + 2) (Av := Bd.getD j []) (Rv := Bd.getD (j + 1) []) (ls := ls) (qs := (Bd.drop (j + 2)).flatten ++ ((redB Bd).take j).flatten) X1 T1 B1 CH1 d6 d5 (by simp [m6]) (by simp [m5]) (by simp [mx]) (List.mem_cons_of_mem _ mdx) (by simp [md]) hod hva hlb ((hag5 _ (by decide)).trans ((if_neg (by decide)).trans hma)) hrow5 ((hag5 _ (by decide)).trans (if_pos rfl)) hav hrv hpv5 (by rw [hB.row (j + 1) (by omega)]) (by rw [hB.row j (by omega)]) (by omega) (by omega) (hgm j (by omega)) (hgm (j + 1) (by omega)) hqt F5 N5' (fun q hq => by
        rcases List.mem_cons.mp hq with rfl | hq
        · exact hIp'
        · exact hpb _ hq) hpa (Ne.symm hpd) ?_
      intro h6 tk6 mm6 pv6 e6 F6 hag6 N6 hpv6
      have hrow6 : mm6 (Str.ofString "row") = some (.ref Dr) := (hag6 _ (by decide) (by decide) (by decide)).trans hrow5
      rw [← mm_as hrow6] at F6
      unfold sc2
      dsimp only [lawEnv, lawScope]
      k_steps
      rename_i h7 F7 N7
      show Step _ n _
      refine ⟨n - 1, by omega, j + 1, h7, _, _, oA, pv6, e6, Dr, rv, er, by omega, rfl, F7, ?_, if_pos rfl, news_of_sub N7 (by repeat (first | with_reducible apply sub_nil | with_reducible apply sub_refl | with_reducible refine sub_cons (by with_reducible first | apply at0 | apply at1 | apply at2 | apply at3 | apply at4 | apply at5 | apply at6 | apply at7 | apply at8 | apply at9 | apply at10 | apply at11 | apply at12 | apply at13) ?_ | with_reducible refine sub_tail4 ?_ | with_reducible refine sub_tail ?_)), ?_, hrv, ?_, Ne.symm hpd, Ne.symm (hRd _ (List.mem_cons_self ..))⟩
      · intro y hy
        have hy' := hy
        simp only [List.mem_cons, not_or, List.not_mem_nil, not_false_eq_true, and_true] at hy'
        obtain ⟨y1, y2, y3, y4, y5, y6⟩ := hy'
        exact (if_neg y6).trans ((congrFun (mm_as hrow6) y).trans ((hag6 y y1 y2 y3).trans ((hag5 y y5).trans ((if_neg y4).trans (hmB y hy)))))
      · have e1 : ((n - 1 : Nat) : Int) = (n : Int) - 1 := by omega
        have e2 : (2 + ((j + 1 : Nat) : Int)) = 2 + (j : Int) + 1 := by omega
        rw [e1, e2]
        exact hA
      · have hg := redB_get (B := Bd) (i := j) (by rw [hB.rows]; omega)
        rw [take_snoc hg, List.flatten_append, List.flatten_singleton, ← List.append_assoc]
        exact hpv6

end Mine
end partSM

/- the part SN -/
section
open PySem PySem.W PySem.Calls PyProof.Rows PySem.Spec
namespace Mine
theorem fresh_SN (prog : Program) (w : World) (A : Around) (env : Env) (s : Shared) (Q : Flow → Shared → Prop) (E : Value → Shared → Prop) (h : Q .next s) :
    wpAny (model prog w) A (execs [] env) Q E s := by
  w_top off
  walk1
  exact h
end Mine
end
section partSN
open PySem PySem.W PySem.Calls PyProof.Rows PySem.Spec
set_option maxHeartbeats 1600000
namespace Mine
open K
local macro_rules | `(tactic| walk_at "exec For Name Call cons nil") => `(tactic| (k_here; refine hold ?_))
local macro_rules | `(tactic| walk_at "pyIter ref") => `(tactic| (k_here; refine hold ?_))
local macro_rules | `(tactic| walk_at "execs cons") => `(tactic| (k_here; (with_reducible rename HoldMark => hmk'); refine hold ?_))
/-- the first word is read -/
theorem lab {Q : Flow → Shared → Prop} {rest : List Stmt} {s : Shared}
              (X1 : (_root_.Mine.hd.heap_1 w.params).In h₀) (T1 : Top p loose mean mg mb h₀) (B1 : Below callerA h₀ [] h₀) (CH1 : CodeHd h₀ 88 84) {o6 : Obj} {R : List (Addr × Obj)} {x dx pb fs : Addr} {pv : List Value} {t0 : Int} {T : List Int} {ep : Nat} {a b c d e1 f : Tok} {ln : Int} {mm : Str → Option Value}
    (d6 : o6.data = .cell (some (.ref x))) (m6 : (L + 1 + 1 + 1 + 1, o6) ∈ R) (mx : (x, instObj 66 dx) ∈ R) (mdx : (dx, dictOf (lexd w ln fs pb a b c d e1 f) 4) ∈ R)
    (hpv : StrsAre pv ((t0 :: T).map W0)) (hT : T.length ≤ 100)
    (F : Fr h₀ L s.heap mm) (N : News h₀ L s.heap ((pb, W.listOf pv.toArray ep) :: R)) (hpb : ∀ q ∈ R, @Ne Nat q.1 pb)
    (hk : ∀ h' tk' mm' Da av ea pv' e', Fr h₀ L h' mm' → (∀ y, y ≠ Str.ofString "above" → mm' y = mm y) → mm' (Str.ofString "above") = some (.ref Da) → News h₀ L h' ((pb, W.listOf pv'.toArray e') :: (Da, W.listOf av.toArray ea) :: R) → StrsAre av ([t0].map W0) → StrsAre pv' (T.map W0) → (@Ne Nat Da pb) → (∀ q ∈ R, @Ne Nat q.1 Da) → wpAny (model PySem.Challenge.rw_kl0066_01.row.prog w) (callerA.deeper (lawEnv L fa cd)) (execs (rest) (lawEnv L fa cd)) Q (fun _ _ => False) { heap := h', gens := s.gens, drawn := s.drawn, toks := tk', os := s.os }) :
    wpAny (model PySem.Challenge.rw_kl0066_01.row.prog w) (callerA.deeper (lawEnv L fa cd)) (execs (sb0 :: rest) (lawEnv L fa cd)) Q (fun _ _ => False) s := by
  unfold sb0
  revert X1
  k_fill
  intro X1
  dsimp only [lawEnv, lawScope]
  obtain ⟨ty, pv2, rfl, hpv2⟩ : ∃ ty pv2, pv = .str (W0 t0) ty :: pv2 ∧ StrsAre pv2 (T.map W0) := by
    cases hpv with
    | cons _ ty h => exact ⟨ty, _, rfl, h⟩
  have hl2 : pv2.length ≤ 1000 := by rw [hpv2.length, List.length_map]; omega
  k_steps
  unfold Hold
  k_dflt (refine' Told.use B1 ?F X1 ?N T1 CH1 (pop_told R (W0 t0) ty pv2 ln ep a b c d e1 f mx mdx hpb hl2) rfl rfl rfl ?hd ?hu ?_)
  case F => assumption
  case N => assumption
  case hd => exact Nat.le_of_ble_eq_true rfl
  case hu => exact Nat.le_of_ble_eq_true rfl
  rintro r h3 tk3 n3 F3 N3 ⟨⟨e3, rfl⟩, rfl⟩
  k_steps
  rename_i Da _ lD hz Fz Nz
  exact hk hz _ _ Da [.str (W0 t0) ty] 0 pv2 e3 Fz (fun y hy => if_neg hy) (if_pos rfl) (news_of_sub Nz (by repeat (first | with_reducible apply sub_nil | with_reducible apply sub_refl | with_reducible refine sub_cons (by with_reducible first | apply at0 | apply at1 | apply at2 | apply at3 | apply at4 | apply at5 | apply at6 | apply at7 | apply at8 | apply at9 | apply at10 | apply at11 | apply at12 | apply at13) ?_ | with_reducible refine sub_tail4 ?_ | with_reducible refine sub_tail ?_))) (.cons _ _ .nil) hpv2 (Nat.ne_of_gt lD.1) (fun q hq => Nat.ne_of_lt (ktn_ltOf lD.2 q hq))
/-- the board i rounds on -/
noncomputable def rdN : Nat → List (List Int) → List (List Int)
  | 0, B => B
  | i + 1, B => redB (rdN i B)
theorem rdN_brd {ls : List Int} {B : List (List Int)} (h : Brd ls B 5) : ∀ i, i ≤ 4 → Brd ls (rdN i B) (5 - i)
  | 0, _ => h
  | i + 1, hi => by
    have := rdN_brd h i (by omega)
    rw [show 5 - i = (5 - (i + 1)) + 1 by omega] at this
    exact this.red
theorem Brd.head {ls : List Int} {B : List (List Int)} {n : Nat} (h : Brd ls B (n + 1)) : ∃ t0, B.getD 0 [] = [t0] ∧ B.flatten = t0 :: (B.drop 1).flatten ∧ t0 ∈ ls := by
  have h0 := h.row 0 (by omega)
  have hr := h.rows
  match B, h0, hr with
  | r :: rs, h0, _ =>
    have : r.length = 1 := h0
    match r, this with
    | [t0], _ => exact ⟨t0, rfl, rfl, h.mem [t0] (List.mem_cons_self ..) t0 (List.mem_cons_self ..)⟩
/-- statement 10: the rounds -/
theorem s10 {rest : List Stmt} {s : Shared}
              (X1 : (_root_.Mine.hd.heap_1 w.params).In h₀) (T1 : Top p loose mean mg mb h₀) (B1 : Below callerA h₀ [] h₀) (CH1 : CodeHd h₀ 88 84) {o6 o5 od : Obj} {R : List (Addr × Obj)} {Dd x dx pb fs : Addr} {pv : List Value} {ls : List Int} {Bd : List (List Int)} {ep : Nat} {a b c d e1 f : Tok} {ln : Int} {kvs : List (Str × Value)} {mm : Str → Option Value}
    (d6 : o6.data = .cell (some (.ref x))) (d5 : o5.data = .cell (some (.ref Dd))) (m6 : (L + 1 + 1 + 1 + 1, o6) ∈ R) (m5 : (L + 1 + 1 + 1 + 1 + 1, o5) ∈ R) (mx : (x, instObj 66 dx) ∈ R) (mdx : (dx, dictOf (lexd w ln fs pb a b c d e1 f) 4) ∈ R) (md : (Dd, od) ∈ R)
    (hod : od.IsDictOf (strKind PySem.Challenge.rw_kl0066_01.row.prog w) kvs) (hva : ∀ l ∈ ls, ∃ t, valueAt kvs (W0 l) = some (.int (lgt l) t)) (hlb : ∀ l ∈ ls, 0 ≤ l ∧ l < 585)
    (hB : Brd ls Bd 5) (hpv : StrsAre pv (Bd.flatten.map W0))
    (F : Fr h₀ L s.heap mm) (N : News h₀ L s.heap ((pb, W.listOf pv.toArray ep) :: R)) (hpb : ∀ q ∈ R, @Ne Nat q.1 pb)
    (hk : ∀ h' tk' mm' pv' e', Fr h₀ L h' mm' → (∀ y, y ∉ [Str.ofString "k", Str.ofString "three", Str.ofString "which", Str.ofString "size", Str.ofString "row", Str.ofString "above", Str.ofString "side"] → mm' y = mm y) → News h₀ L h' ((pb, W.listOf pv'.toArray e') :: R) → StrsAre pv' ((rdN 4 Bd).flatten.map W0) → wpAny (model PySem.Challenge.rw_kl0066_01.row.prog w) (callerA.deeper (lawEnv L fa cd)) (execs (rest) (lawEnv L fa cd)) Q (fun _ _ => False) { heap := h', gens := s.gens, drawn := s.drawn, toks := tk', os := s.os }) :
    wpAny (model PySem.Challenge.rw_kl0066_01.row.prog w) (callerA.deeper (lawEnv L fa cd)) (execs (st10 :: rest) (lawEnv L fa cd)) Q (fun _ _ => False) s := by
  unfold st10
  revert X1
  k_fill
  intro X1
  dsimp only [lawEnv, lawScope]
  k_steps
  unfold Hold
  refine wpAny_For ?_
  k_steps
  unfold Hold
  rename_i hRg _ _ _ _ hrng FR NR _
  have hsz : Builtin.Range.rangeSize 5 1 (-1) = ((4 : Nat) : Int) := by decide +kernel
  refine' rng_iter (by decide +kernel) FR NR hrng ?_
  intro I oI h8 F8 N8 hI l8
  rw [hsz] at hI
  have hIp : @LT.lt Nat _ pb I := l8 _ (List.mem_cons_self ..)
  have hIr : ∀ q ∈ R, q.1 < I := fun q hq => l8 q (by simp [hq])
  clear l8
  refine forLoopS (fun n s' => ∃ (i : Nat) (h : Heap) (tk : Nat) (mm2 : Str → Option Value) (oI : Obj) (pv : List Value) (e : Nat), n + i = 4 ∧ s' = { heap := h, gens := s.gens, drawn := s.drawn, toks := tk, os := s.os } ∧ Fr h₀ L h mm2 ∧
    (∀ y, y ∉ [Str.ofString "k", Str.ofString "three", Str.ofString "which", Str.ofString "size", Str.ofString "row", Str.ofString "above", Str.ofString "side"] → mm2 y = mm y) ∧
    News h₀ L h ((I, oI) :: (pb, W.listOf pv.toArray e) :: R) ∧ RngIt oI (5 - (i : Int)) n (-1) ∧ StrsAre pv ((rdN i Bd).flatten.map W0)) ?turn 4 ?h0
  case h0 => exact ⟨0, h8, _, _, oI, pv, ep, rfl, rfl, F8, fun _ _ => rfl, N8, hI, hpv⟩
  case turn =>
    clear F8 N8 hI FR NR hpv
    rintro n sB ⟨i, hBp, tkB, mB, oI, pv, e, hni, rfl, FB, hmB, NB, hI, hpv⟩
    have offB : ∀ q ∈ (pb, W.listOf pv.toArray e) :: R, q.1 ≠ I := nes_cons (Nat.ne_of_lt hIp) (fun q hq => Nat.ne_of_lt (hIr q hq))
    by_cases hin : i = 4
    · subst hin
      refine rng_done rfl FB NB offB hI (by omega) fun ha Fa Na => ?_
      clear FB NB
      dsimp only
      k_steps
      dsimp only
      exact hk _ _ _ pv e Fa hmB Na hpv
    · refine rng_next FB NB offB hI (by omega) fun oA ha Fa Na hA => ?_
      clear FB NB
      dsimp only
      have hj2 : (5 - (i : Int)) = ((5 - i : Nat) : Int) := by omega
      have hBi := rdN_brd hB i (by omega)
      have hBi' := hBi
      rw [show 5 - i = (4 - i) + 1 by omega] at hBi'
      obtain ⟨t0, ht0, htf, htm⟩ := hBi'.head
      rw [htf] at hpv
      have hdr := hBi.flat_le (by omega) 1
      have hmk : HoldMark := ⟨⟩
      k_steps
      rename HoldMark => hmk
      clear hmk
      unfold Hold
      rename_i hZ FZ NZ
      rw [hj2] at FZ
      refine wpAny_mono (Q := _) (E := fun _ _ => False) ?_ (fun _ _ x => x) (fun _ _ x => x.elim)
      have NZ' : News h₀ L hZ ((pb, W.listOf pv.toArray e) :: (I, oA) :: R) := news_of_sub NZ (by repeat (first | with_reducible apply sub_nil | with_reducible apply sub_refl | with_reducible refine sub_cons (by with_reducible first | apply at0 | apply at1 | apply at2 | apply at3 | apply at4 | apply at5 | apply at6 | apply at7 | apply at8 | apply at9 | apply at10 | apply at11 | apply at12 | apply at13) ?_ | with_reducible refine sub_tail4 ?_ | with_reducible refine sub_tail ?_))
      clear NZ
      have hIp' : @Ne Nat I pb := Ne.symm (Nat.ne_of_lt hIp)
      have hpb1 : ∀ q ∈ (I, oA) :: R, @Ne Nat q.1 pb := nes_cons (hIp') (fun q hq => hpb _ hq)
      refine lab (rest := [sb1]) (R := (I, oA) :: R) (x := x) (dx := dx) (pb := pb) (fs := fs) (mm := fun y => if y = Str.ofString "side" then some (Value.int ((5 - i : Nat) : Int) tkB) else mB y) X1 T1 B1 CH1 d6 (by simp [m6]) (by simp [mx]) (List.mem_cons_of_mem _ mdx) hpv (by omega) FZ NZ' hpb1 ?_
      intro h5 tk5 mm5 Da av ea pv5 e5 F5 hag5 hab5 N5 hav hpv5 hpd hRd
      have N5' : News h₀ L h5 ((pb, W.listOf pv5.toArray e5) :: (Da, W.listOf av.toArray ea) :: (I, oA) :: R) := N5
      clear N5
      refine lsz (rest := []) (R := (I, oA) :: R) (x := x) (dx := dx) (pb := pb) (fs := fs) (Da := Da) (Dd := Dd) (od := od) (n0 := 5 - i) (Bd := rdN i Bd) (ls := ls) X1 T1 B1 CH1 d6 d5 (by simp [m6]) (by simp [m5]) (by simp [mx]) (List.mem_cons_of_mem _ mdx) (by simp [md]) hod hva hlb hab5 ((hag5 _ (by decide)).trans (if_pos rfl)) hBi (by rw [ht0]; exact hav) hpv5 (by omega) (by omega) F5 N5' hpb1 hpd ?_
      intro h6 tk6 mm6 pv6 e6 F6 hag6 N6 hpv6
      k_steps
      show Step _ n _
      refine ⟨n - 1, by omega, i + 1, h6, _, _, oA, pv6, e6, by omega, rfl, F6, ?_, news_of_sub N6 (by repeat (first | with_reducible apply sub_nil | with_reducible apply sub_refl | with_reducible refine sub_cons (by with_reducible first | apply at0 | apply at1 | apply at2 | apply at3 | apply at4 | apply at5 | apply at6 | apply at7 | apply at8 | apply at9 | apply at10 | apply at11 | apply at12 | apply at13) ?_ | with_reducible refine sub_tail4 ?_ | with_reducible refine sub_tail ?_)), ?_, hpv6⟩
      · intro y hy
        have hy' := hy
        simp only [List.mem_cons, not_or, List.not_mem_nil, not_false_eq_true, and_true] at hy'
        obtain ⟨y1, y2, y3, y4, y5, y6, y7⟩ := hy'
        exact (hag6 y (by simp [y1, y2, y3, y4, y5, y6])).trans ((hag5 y y6).trans ((if_neg y7).trans (hmB y hy)))
      · have e1 : ((n - 1 : Nat) : Int) = (n : Int) - 1 := by omega
        have e2 : (5 - ((i + 1 : Nat) : Int)) = 5 - (i : Int) + (-1) := by omega
        rw [e1, e2]
        exact hA

end Mine
end partSN

/- the part SO -/
section
open PySem PySem.W PySem.Calls PyProof.Rows PySem.Spec
namespace Mine
theorem fresh_SO (prog : Program) (w : World) (A : Around) (env : Env) (s : Shared) (Q : Flow → Shared → Prop) (E : Value → Shared → Prop) (h : Q .next s) :
    wpAny (model prog w) A (execs [] env) Q E s := by
  w_top off
  walk1
  exact h
end Mine
end
section partSO
open PySem PySem.W PySem.Calls PyProof.Rows PySem.Spec
set_option maxHeartbeats 1600000
namespace Mine
open K
local macro_rules | `(tactic| walk_at "subscriptTail") => `(tactic| (k_here; (with_reducible show wpAny _ _ (subscriptTail _ _ (Value.ref _) (Value.int _ _)) _ _ _); k_dflt (refine' item_list (news_isl ?N ?m) ?h0 ?hf ?hx ?_; (case N => k_asm); (case m => k_mem); (case hx => with_reducible assumption); (case h0 => omega); (case hf => omega); k_whole)))
local macro_rules | `(tactic| walk_at "call builtin:list.index") => `(tactic| (k_here; (with_reducible show wpAny _ _ (call (Value.builtin _) [Value.ref _, Value.str _ _]) _ _ _); refine hold ?_))
theorem isStrOf_at (k : Str) : ∀ {vs : List Value} {ns : List Str}, StrsAre vs ns → ∀ (j : Nat) (h1 : j < vs.length) (h2 : j < ns.length), isStrOf k vs[j] = (ns[j] == k)
  | _, _, .nil, j, h1, _ => by simp at h1
  | _, _, .cons n t h, 0, _, _ => rfl
  | _, _, .cons n t h, j + 1, h1, h2 => isStrOf_at k h j (by simpa using h1) (by simpa using h2)
theorem strs_index {prog : Program} {w : World} {A : Around} {E : Value → Shared → Prop} {s : Shared} {h₀ : Heap} {L D : Addr} {news : List (Addr × Obj)} {vs : List Value} {ns : List Str} {n : Nat} {k : Str} {t : Tok} {Q : Value → Shared → Prop}
    (N : News h₀ L s.heap news) (hm : (D, W.listOf vs.toArray n) ∈ news) (hi : StrsAre vs ns) (hk : k ∈ ns) (hz : ns.length ≤ 1000)
    (h : ∀ j : Nat, ns[j]? = some k → Q (.int j s.toks) { s with toks := s.toks + 1 }) : wpAny (model prog w) A (call (.builtin "list.index") [.ref D, .str k t]) Q E s := by
  have hj : ns.idxOf k < ns.length := List.idxOf_lt_length_iff.mpr hk
  have hl := hi.length
  refine call_meets PySem.F.slot_list_index ⟨_, (N _ hm).1, rfl⟩ PySem.F.entry_list_index (PySem.F.args_list_index_2 _ _)
    (MeetsSeq.list_index D vs.toArray n (.str k t) (isStrOf k) (fun y hy => eq_isStrOf k t hi y (by simpa using hy)) (ns.idxOf k) (by rw [List.size_toArray, hl]; exact hj) (by omega) ?_ ?_) ⟨(N _ hm).1, h _ ?_⟩
  · show isStrOf k vs[ns.idxOf k] = true
    rw [isStrOf_at k hi _ (by omega) hj]
    simpa using List.getElem_idxOf hj
  · intro j hjs hlt
    show isStrOf k vs[j] = false
    rw [isStrOf_at k hi j (by simpa using hjs) (by omega)]
    exact List.not_of_lt_findIdx (p := fun y => y == k) (xs := ns) hlt
  · rw [List.getElem?_eq_getElem hj, List.getElem_idxOf hj]
/-- statement 11: the last word -/
theorem s11 {rest : List Stmt} {s : Shared}
              (X1 : (_root_.Mine.hd.heap_1 w.params).In h₀) (T1 : Top p loose mean mg mb h₀) (B1 : Below callerA h₀ [] h₀) (CH1 : CodeHd h₀ 88 84) {o6 o4 : Obj} {R : List (Addr × Obj)} {x dx pb fs : Addr} {pv : List Value} {t0 : Int} {T : List Int} {ep : Nat} {a b c d e1 f : Tok} {ln : Int} {mm : Str → Option Value}
    (d6 : o6.data = .cell (some (.ref x))) (m6 : (L + 1 + 1 + 1 + 1, o6) ∈ R) (d4 : o4.data = .cell none) (mx : (x, instObj 66 dx) ∈ R) (mdx : (dx, dictOf (lexd w ln fs pb a b c d e1 f) 4) ∈ R)
    (hpv : StrsAre pv ((t0 :: T).map W0)) (hT : T.length ≤ 100)
    (F : Fr h₀ L s.heap mm) (N : News h₀ L s.heap ((L + 1 + 1 + 1 + 1 + 1 + 1, o4) :: (pb, W.listOf pv.toArray ep) :: R)) (hpb : ∀ q ∈ R, @Ne Nat q.1 pb) (hr : ∀ q ∈ R, @Ne Nat q.1 (L + 1 + 1 + 1 + 1 + 1 + 1)) (hp : @Ne Nat (L + 1 + 1 + 1 + 1 + 1 + 1) pb)
    (hk : ∀ h' tk' o' tt pv' e', Fr h₀ L h' mm → News h₀ L h' ((pb, W.listOf pv'.toArray e') :: (L + 1 + 1 + 1 + 1 + 1 + 1, o') :: R) → o'.data = .cell (some (.str (W0 t0) tt)) → StrsAre pv' (T.map W0) → wpAny (model PySem.Challenge.rw_kl0066_01.row.prog w) (callerA.deeper (lawEnv L fa cd)) (execs (rest) (lawEnv L fa cd)) Q (fun _ _ => False) { heap := h', gens := s.gens, drawn := s.drawn, toks := tk', os := s.os }) :
    wpAny (model PySem.Challenge.rw_kl0066_01.row.prog w) (callerA.deeper (lawEnv L fa cd)) (execs (st11 :: rest) (lawEnv L fa cd)) Q (fun _ _ => False) s := by
  unfold st11
  revert X1
  k_fill
  intro X1
  dsimp only [lawEnv, lawScope]
  obtain ⟨ty, pv2, rfl, hpv2⟩ : ∃ ty pv2, pv = .str (W0 t0) ty :: pv2 ∧ StrsAre pv2 (T.map W0) := by
    cases hpv with
    | cons _ ty h => exact ⟨ty, _, rfl, h⟩
  have hl2 : pv2.length ≤ 1000 := by rw [hpv2.length, List.length_map]; omega
  k_steps
  unfold Hold
  have N' : News h₀ L s.heap ((pb, W.listOf (.str (W0 t0) ty :: pv2).toArray ep) :: (L + 1 + 1 + 1 + 1 + 1 + 1, o4) :: R) := news_of_sub N (by repeat (first | with_reducible apply sub_nil | with_reducible apply sub_refl | with_reducible refine sub_cons (by with_reducible first | apply at0 | apply at1 | apply at2 | apply at3 | apply at4 | apply at5 | apply at6 | apply at7 | apply at8 | apply at9 | apply at10 | apply at11 | apply at12 | apply at13) ?_ | with_reducible refine sub_tail4 ?_ | with_reducible refine sub_tail ?_))
  clear N
  have hx5 : (x, instObj 66 dx) ∈ (L + 1 + 1 + 1 + 1 + 1 + 1, o4) :: R := List.mem_cons_of_mem _ mx
  have hpb5 : ∀ q ∈ (L + 1 + 1 + 1 + 1 + 1 + 1, o4) :: R, q.1 ≠ pb := List.forall_mem_cons.mpr ⟨hp, hpb⟩
  k_dflt (refine' Told.use B1 ?F X1 ?N T1 CH1 (pop_told ((L + 1 + 1 + 1 + 1 + 1 + 1, o4) :: R) (W0 t0) ty pv2 ln ep a b c d e1 f hx5 (List.mem_cons_of_mem _ mdx) hpb5 hl2) rfl rfl rfl ?hd ?hu ?_)
  case F => assumption
  case N => assumption
  case hd => exact Nat.le_of_ble_eq_true rfl
  case hu => exact Nat.le_of_ble_eq_true rfl
  rintro r h3 tk3 n3 F3 N3 ⟨⟨e3, rfl⟩, rfl⟩
  k_steps
  rename_i hz o' Fz Nz dz
  exact hk hz _ o' ty pv2 e3 Fz Nz dz hpv2
/-- statement 12: its level -/
theorem s12 {rest : List Stmt} {s : Shared}
              (X1 : (_root_.Mine.hd.heap_1 w.params).In h₀) (T1 : Top p loose mean mg mb h₀) (B1 : Below callerA h₀ [] h₀) (CH1 : CodeHd h₀ 88 84) {o8 o4 o3 : Obj} {R : List (Addr × Obj)} {Dl Dw : Addr} {ws zs : List Value} {ls : List Int} {t0 : Int} {ew ez : Nat} {tt : Tok} {mm : Str → Option Value}
    (d8 : o8.data = .cell (some (.ref Dw))) (m8 : (L + 1 + 1, o8) ∈ R) (d4 : o4.data = .cell (some (.str (W0 t0) tt))) (m4 : (L + 1 + 1 + 1 + 1 + 1 + 1, o4) ∈ R) (d3 : o3.data = .cell none) (mw : (Dw, W.listOf ws.toArray ew) ∈ R) (ml : (Dl, W.listOf zs.toArray ez) ∈ R)
    (hm : mm (Str.ofString "levels") = some (.ref Dl)) (hzs : IntsAre zs ls) (hll : ls.length = 15) (hws : StrsAre ws (ls.map W0)) (ht0 : t0 ∈ ls) (hinj : ∀ i j : Int, i ∈ ls → j ∈ ls → W0 i = W0 j → i = j)
    (F : Fr h₀ L s.heap mm) (N : News h₀ L s.heap ((L + 1 + 1 + 1 + 1 + 1 + 1 + 1, o3) :: R)) (hr : ∀ q ∈ R, @Ne Nat q.1 (L + 1 + 1 + 1 + 1 + 1 + 1 + 1))
    (hk : ∀ h' tk' o' tb, Fr h₀ L h' mm → News h₀ L h' ((L + 1 + 1 + 1 + 1 + 1 + 1 + 1, o') :: R) → o'.data = .cell (some (.int t0 tb)) → wpAny (model PySem.Challenge.rw_kl0066_01.row.prog w) (callerA.deeper (lawEnv L fa cd)) (execs (rest) (lawEnv L fa cd)) Q (fun _ _ => False) { heap := h', gens := s.gens, drawn := s.drawn, toks := tk', os := s.os }) :
    wpAny (model PySem.Challenge.rw_kl0066_01.row.prog w) (callerA.deeper (lawEnv L fa cd)) (execs (st12 :: rest) (lawEnv L fa cd)) Q (fun _ _ => False) s := by
  unfold st12
  revert X1
  k_fill
  intro X1
  dsimp only [lawEnv, lawScope]
  rw [← mm_as hm] at F
  k_steps
  unfold Hold
  refine strs_index N (List.mem_cons_of_mem _ mw) hws (List.mem_map.mpr ⟨t0, ht0, rfl⟩) (by rw [List.length_map]; omega) fun j hj => ?_
  obtain ⟨l, hl, hlw⟩ : ∃ l, ls[j]? = some l ∧ W0 l = W0 t0 := by
    rw [List.getElem?_map] at hj
    cases e : ls[j]? with
    | none => rw [e] at hj; cases hj
    | some l => rw [e] at hj; exact ⟨l, rfl, Option.some.inj hj⟩
  obtain rfl := hinj l t0 (List.mem_of_getElem? hl) ht0 hlw
  obtain ⟨tz, hz⟩ := ints_get hzs hl
  have hjl : j < ls.length := by
    rcases Nat.lt_or_ge j ls.length with h | h
    · exact h
    · rw [List.getElem?_eq_none h] at hl; cases hl
  have hz' : zs.toArray[((j : Nat) : Int).toNat]? = some (.int l tz) := by simpa using hz
  have hgd : ls.getD ((j : Nat) : Int).toNat 0 = l := by rw [Int.toNat_natCast, List.getD_eq_getElem?_getD, hl]; rfl
  k_steps
  rename_i hZ o' Fz Nz dz
  rw [mm_as hm] at Fz
  exact hk hZ _ o' tz Fz Nz dz

end Mine
end partSO

/- the part SP -/
section
open PySem PySem.W PySem.Calls PyProof.Rows PySem.Spec
namespace Mine
theorem fresh_SP (prog : Program) (w : World) (A : Around) (env : Env) (s : Shared) (Q : Flow → Shared → Prop) (E : Value → Shared → Prop) (h : Q .next s) :
    wpAny (model prog w) A (execs [] env) Q E s := by
  w_top off
  walk1
  exact h
end Mine
end
section partSP
open PySem PySem.W PySem.Calls PyProof.Rows PySem.Spec
set_option maxHeartbeats 1600000
namespace Mine
open K
local macro_rules | `(tactic| walk_at "compareOp NotEq ref ref") => `(tactic| (k_here; refine hold ?_))
local macro_rules | `(tactic| walk_at "compareOp In bool ref") => `(tactic| (k_here; refine hold ?_))
/-- how a level stands to another -/
noncomputable def cmpI (l t : Int) : Int := if l < t then -1 else if t < l then 1 else 0
/-- statement 13: the signs -/
theorem s13 {rest : List Stmt} {s : Shared}
              (X1 : (_root_.Mine.hd.heap_1 w.params).In h₀) (T1 : Top p loose mean mg mb h₀) (B1 : Below callerA h₀ [] h₀) (CH1 : CodeHd h₀ 88 84) {o8 o4 o2 : Obj} {R : List (Addr × Obj)} {Dw : Addr} {ws : List Value} {ls : List Int} {t0 : Int} {ew : Nat} {tt : Tok} {mm : Str → Option Value}
    (d8 : o8.data = .cell (some (.ref Dw))) (m8 : (L + 1 + 1, o8) ∈ R) (d4 : o4.data = .cell (some (.str (W0 t0) tt))) (m4 : (L + 1 + 1 + 1 + 1 + 1 + 1, o4) ∈ R) (d2 : o2.data = .cell none) (mw : (Dw, W.listOf ws.toArray ew) ∈ R)
    (hll : ls.length = 15) (hws : StrsAre ws (ls.map W0)) (hcoll : ∀ l ∈ ls, b2i (decide ((W0 t0).cps.toList < (W0 l).cps.toList)) - b2i (decide ((W0 l).cps.toList < (W0 t0).cps.toList)) = cmpI l t0)
    (F : Fr h₀ L s.heap mm) (N : News h₀ L s.heap ((L + 1 + 1 + 1 + 1 + 1 + 1 + 1 + 1, o2) :: R)) (hr : ∀ q ∈ R, @Ne Nat q.1 (L + 1 + 1 + 1 + 1 + 1 + 1 + 1 + 1))
    (hk : ∀ h' tk' o' D sg e', Fr h₀ L h' mm → News h₀ L h' ((D, W.listOf sg.toArray e') :: (L + 1 + 1 + 1 + 1 + 1 + 1 + 1 + 1, o') :: R) → o'.data = .cell (some (.ref D)) → IntsAre sg (ls.map fun l => cmpI l t0) → (∀ q ∈ R, @Ne Nat q.1 D) → (@Ne Nat (L + 1 + 1 + 1 + 1 + 1 + 1 + 1 + 1) D) → wpAny (model PySem.Challenge.rw_kl0066_01.row.prog w) (callerA.deeper (lawEnv L fa cd)) (execs (rest) (lawEnv L fa cd)) Q (fun _ _ => False) { heap := h', gens := s.gens, drawn := s.drawn, toks := tk', os := s.os }) :
    wpAny (model PySem.Challenge.rw_kl0066_01.row.prog w) (callerA.deeper (lawEnv L fa cd)) (execs (st13 :: rest) (lawEnv L fa cd)) Q (fun _ _ => False) s := by
  unfold st13
  revert X1
  k_fill
  intro X1
  dsimp only [lawEnv, lawScope]
  k_steps
  unfold Hold
  refine LCg.CompSrc.ledger rfl F N (List.mem_cons_of_mem _ mw) (by rw [sizeLine_eq, List.size_toArray, hws.length, List.length_map]; omega) fun g2 => ?_
  refine rest_gen (Inv := fun i zs nn => nn = (L + 1 + 1 + 1 + 1 + 1 + 1 + 1 + 1, o2) :: R ∧ IntsAre zs ((ls.take i).map fun l => cmpI l t0)) ⟨rfl, .nil⟩ ?turn ?fin
  case turn =>
    rintro i zs nn v I oI C oC D m₂ h2 tk2 E' hi ⟨rfl, hz⟩ hP hC hx F2 N2 off ne
    obtain ⟨l, hl, u, rfl⟩ : ∃ l, ls[i]? = some l ∧ ∃ u, v = .str (W0 l) u := by
      have hi15 : i < 15 := by rw [List.size_toArray, hws.length, List.length_map, hll] at hi; exact hi
      have hl : ls[i]? = some (ls.getD i 0) := getD_some (by omega) 0
      obtain ⟨u, hu⟩ := strs_get hws (i := i) (x := W0 (ls.getD i 0)) (by rw [List.getElem?_map, hl]; rfl)
      have hP' : ws[i]? = some v := by simpa using hP
      rw [hu] at hP'
      exact ⟨_, hl, u, (Option.some.inj hP').symm⟩
    k_steps
    unfold Hold
    k_dflt (refine' Told.use B1 ?F X1 ?N T1 CH1 (strcoll_told _ (W0 l) (W0 t0) _ _) rfl rfl rfl ?hd ?hu ?_)
    case F => assumption
    case N => assumption
    case hd => exact Nat.le_of_ble_eq_true rfl
    case hu => exact Nat.le_of_ble_eq_true rfl
    rintro r h3 tk3 n3 F3 N3 ⟨rfl, t3, rfl⟩
    rw [hcoll l (List.mem_of_getElem? hl)]
    k_steps
    unfold Hold
    refine LCg.CompEnd.intro F3 N3 _ (fun _ h => h) off (.inr ⟨_, List.mem_cons_of_mem _ mw, rfl, _, rfl⟩) ⟨rfl, ?_⟩
    rw [take_snoc hl, List.map_append]
    exact ints_snoc hz _ _
  case fin =>
    rintro zs nn ⟨rfl, hz⟩ D h2 tk2 F2 N2 off1
    have ho := off1_mem off1
    rw [List.take_of_length_le (by rw [List.size_toArray, hws.length, List.length_map]; omega)] at hz
    have hoD : @Ne Nat (L + 1 + 1 + 1 + 1 + 1 + 1 + 1 + 1) D := ho _ (List.mem_cons_self ..)
    k_steps
    rename_i hZ o' Fz Nz dz
    exact hk hZ _ o' D zs _ Fz Nz dz hz (fun q hq => ho q (List.mem_cons_of_mem _ hq)) hoD
/-- statement 14: the signs are right -/
theorem s14 {rest : List Stmt} {s : Shared}
              (X1 : (_root_.Mine.hd.heap_1 w.params).In h₀) (T1 : Top p loose mean mg mb h₀) (B1 : Below callerA h₀ [] h₀) (CH1 : CodeHd h₀ 88 84) {o3 o2 : Obj} {R : List (Addr × Obj)} {Dl Ds : Addr} {zs sg : List Value} {ls : List Int} {t0 : Int} {ez es : Nat} {tb : Tok} {mm : Str → Option Value}
    (d3 : o3.data = .cell (some (.int t0 tb))) (m3 : (L + 1 + 1 + 1 + 1 + 1 + 1 + 1, o3) ∈ R) (d2 : o2.data = .cell (some (.ref Ds))) (m2 : (L + 1 + 1 + 1 + 1 + 1 + 1 + 1 + 1, o2) ∈ R) (ms : (Ds, W.listOf sg.toArray es) ∈ R) (ml : (Dl, W.listOf zs.toArray ez) ∈ R)
    (hm : mm (Str.ofString "levels") = some (.ref Dl)) (hzs : IntsAre zs ls) (hll : ls.length = 15) (hsg : IntsAre sg (ls.map fun l => cmpI l t0))
    (F : Fr h₀ L s.heap mm) (N : News h₀ L s.heap R)
    (hk : ∀ h' tk', Fr h₀ L h' mm → News h₀ L h' R → wpAny (model PySem.Challenge.rw_kl0066_01.row.prog w) (callerA.deeper (lawEnv L fa cd)) (execs (rest) (lawEnv L fa cd)) Q (fun _ _ => False) { heap := h', gens := s.gens, drawn := s.drawn, toks := tk', os := s.os }) :
    wpAny (model PySem.Challenge.rw_kl0066_01.row.prog w) (callerA.deeper (lawEnv L fa cd)) (execs (st14 :: rest) (lawEnv L fa cd)) Q (fun _ _ => False) s := by
  unfold st14
  revert X1
  k_fill
  intro X1
  dsimp only [lawEnv, lawScope]
  rw [← mm_as hm] at F
  k_steps
  unfold Hold
  refine LCg.CompSrc.ledger rfl F N ml (by rw [sizeLine_eq, List.size_toArray, hzs.length]; omega) fun g2 => ?_
  refine rest_gen (Inv := fun i ys nn => nn = R ∧ IntsAre ys ((ls.take i).map fun l => cmpI l t0)) ⟨rfl, .nil⟩ ?turn ?fin
  case turn =>
    rintro i ys nn v I oI C oC D m₂ h2 tk2 E' hi ⟨rfl, hz⟩ hP hC hx F2 N2 off ne
    obtain ⟨x, t, rfl, hx2⟩ := ints_at hzs (by simpa using hP)
    k_steps
    unfold Hold
    have he : (if (if x - t0 > -1 then x - t0 else -1) < 1 then if x - t0 > -1 then x - t0 else -1 else 1) = cmpI x t0 := by
      unfold cmpI
      (repeat' split) <;> omega
    refine LCg.CompEnd.intro (by assumption) (by assumption) _ (fun _ h => h) off (.inr ⟨_, ml, rfl, _, rfl⟩) ⟨rfl, ?_⟩
    rw [take_snoc hx2, List.map_append]
    show IntsAre _ (_ ++ [cmpI x t0])
    rw [← he]
    exact ints_snoc hz _ _
  case fin =>
    rintro ys nn ⟨rfl, hz⟩ D h2 tk2 F2 N2 off1
    rw [List.take_of_length_le (by rw [List.size_toArray, hzs.length]; omega)] at hz
    k_steps
    unfold Hold
    refine ke_ne_ints (xs := sg) (ys := ys) ⟨_, (News.get (by assumption) (List.mem_cons_of_mem _ ms)), rfl, _, rfl⟩ ⟨_, (News.get (by assumption) (List.mem_cons_self ..)), rfl, _, rfl⟩ hsg hz (by exact Nat.le_of_ble_eq_true rfl) ?_
    rw [decide_eq_true rfl]
    k_steps
    unfold Hold
    refine LCg.CompSrc.ledger rfl F2 N2 (List.mem_cons_of_mem _ ms) (by rw [sizeLine_eq, List.size_toArray, hsg.length, List.length_map]; omega) fun g3 => ?_
    refine rest_gen (Inv := fun i zs2 nn2 => nn2 = (D, LCg.lst ys) :: nn ∧ zs2 = List.replicate i (.bool false)) ⟨rfl, rfl⟩ ?turn2 ?fin2
    case turn2 =>
      rintro i zs2 nn2 v I oI C oC D2 m₂ h3 tk3 E' hi ⟨rfl, rfl⟩ hP hC hx F3 N3 off ne
      obtain ⟨x, t, rfl, hx2⟩ := ints_at hsg (by simpa using hP)
      k_steps
      unfold Hold
      refine LCg.CompEnd.intro (by assumption) (by assumption) _ (fun _ h => h) off (.inr ⟨_, List.mem_cons_of_mem _ ms, rfl, _, rfl⟩) ⟨rfl, ?_⟩
      rw [List.replicate_succ']
    case fin2 =>
      rintro zs2 nn2 ⟨rfl, rfl⟩ D2 h3 tk3 F3 N3 off2
      replace N3 : News h₀ L h3 ((D2, W.listOf (List.replicate sg.toArray.size (Value.bool false)).toArray (List.replicate sg.toArray.size (Value.bool false)).length) :: (D, LCg.lst ys) :: nn) := N3
      k_steps
      unfold Hold
      refine true_in N3 (List.mem_cons_self ..) (by exact Nat.le_of_ble_eq_true rfl) ?_
      k_steps
      rw [mm_as hm] at F3
      exact hk _ _ F3 (news_of_sub N3 (by intro q hq; exact List.mem_cons_of_mem _ (List.mem_cons_of_mem _ hq)))

end Mine
end partSP

/- the part SQ -/
section
open PySem PySem.W PySem.Calls PyProof.Rows PySem.Spec
namespace Mine
theorem fresh_SQ (prog : Program) (w : World) (A : Around) (env : Env) (s : Shared) (Q : Flow → Shared → Prop) (E : Value → Shared → Prop) (h : Q .next s) :
    wpAny (model prog w) A (execs [] env) Q E s := by
  w_top off
  walk1
  exact h
end Mine
end
section partSQ
open PySem PySem.W PySem.Calls PyProof.Rows PySem.Spec
set_option maxHeartbeats 1600000
namespace Mine
open K
local macro_rules | `(tactic| walk_at "compareOp NotEq ref ref") => `(tactic| (k_here; refine hold ?_))
theorem cnt_count (c : Nat) : ∀ l : List Nat, PyProof.Rows.cnt c l = (l.count c : Nat)
  | [] => rfl
  | n :: r => by
    rw [PyProof.Rows.cnt_cons, cnt_count c r, List.count_cons]
    by_cases h : n = c
    · subst h; simp; omega
    · simp [h]
theorem count_nl (text : List Nat) : Txt.count (S text) (Str.ofString "\n") = (cnt text text.length : Nat) := by
  rw [show Str.ofString "\n" = ⟨#[10]⟩ from by decide +kernel, PyProof.Rows.count_is]
  have h := cnt_count 10 text
  unfold PyProof.Rows.cnt at h
  have e : (S text).cps.toList = text := by show (text.toArray).toList = _; simp
  rw [e, h]
  unfold cnt
  rw [List.take_length]
/-- statement 15: the text's end, the count of lines -/
theorem s15 {rest : List Stmt} {s : Shared}
              (X1 : (_root_.Mine.hd.heap_1 w.params).In h₀) (T1 : Top p loose mean mg mb h₀) (B1 : Below callerA h₀ [] h₀) (CH1 : CodeHd h₀ 88 84) {o6 : Obj} {R : List (Addr × Obj)} {x dx pb fs la : Addr} {ep el : Nat} {a b c d e1 f t tt : Tok} {text : List Nat} {k1 n1 n2 : Nat} {mm : Str → Option Value}
    (d6 : o6.data = .cell (some (.ref x))) (m6 : (L + 1 + 1 + 1 + 1, o6) ∈ R) (mx : (x, instObj 66 dx) ∈ R) (hS : Strm w p loose mean mg mb R fs text la) (hm : mm (Str.ofString "text") = some (.str (S text) tt))
    (hx1 : lex (text.drop k1) = some ([46], n1)) (hx2 : lex (text.drop (k1 + n1)) = some ([], n2)) (hend : text.length ≤ k1 + n1 + n2) (htl : k1 + n1 + n2 ≤ 1000)
    (F : Fr h₀ L s.heap mm) (N : News h₀ L s.heap ((pb, W.listOf #[] ep) :: (dx, dictOf (lexd w (1 + cnt text k1) fs pb a b c d e1 f) 4) :: (la, W.listOf #[.int k1 t] el) :: R))
    (hpb : ∀ q ∈ R, @Ne Nat q.1 pb) (hdx : ∀ q ∈ R, @Ne Nat q.1 dx) (hla : ∀ q ∈ R, @Ne Nat q.1 la) (h1' : @Ne Nat pb dx) (h2' : @Ne Nat pb la) (h3' : @Ne Nat dx la)
    (hk : ∀ h' tk', Fr h₀ L h' mm → News h₀ L h' R → wpAny (model PySem.Challenge.rw_kl0066_01.row.prog w) (callerA.deeper (lawEnv L fa cd)) (execs (rest) (lawEnv L fa cd)) Q (fun _ _ => False) { heap := h', gens := s.gens, drawn := s.drawn, toks := tk', os := s.os }) :
    wpAny (model PySem.Challenge.rw_kl0066_01.row.prog w) (callerA.deeper (lawEnv L fa cd)) (execs (st15 :: rest) (lawEnv L fa cd)) Q (fun _ _ => False) s := by
  unfold st15
  revert X1
  k_fill
  intro X1
  dsimp only [lawEnv, lawScope]
  rw [← mm_as hm] at F
  have hla5 : ∀ q ∈ (pb, W.listOf #[] ep) :: R, q.1 ≠ la := List.forall_mem_cons.mpr ⟨h2', hla⟩
  have hdx5 : ∀ q ∈ (pb, W.listOf #[] ep) :: R, q.1 ≠ dx := List.forall_mem_cons.mpr ⟨h1', hdx⟩
  have hS5 : Strm w p loose mean mg mb ((pb, W.listOf #[] ep) :: R) fs text la := hS.mono fun q hq => List.mem_cons_of_mem _ hq
  k_steps
  unfold Hold
  have N2 : News h₀ L s.heap ((la, W.listOf #[.int k1 t] el) :: (dx, dictOf (lexd w (1 + cnt text k1) fs pb a b c d e1 f) 4) :: (pb, W.listOf #[] ep) :: R) := news_of_sub N (by repeat (first | with_reducible apply sub_nil | with_reducible apply sub_refl | with_reducible refine sub_cons (by with_reducible first | apply at0 | apply at1 | apply at2 | apply at3 | apply at4 | apply at5 | apply at6 | apply at7 | apply at8 | apply at9 | apply at10 | apply at11 | apply at12 | apply at13) ?_ | with_reducible refine sub_tail4 ?_ | with_reducible refine sub_tail ?_))
  clear N
  k_dflt (refine' Told.use B1 ?F X1 ?N T1 CH1 (tok_told ((pb, W.listOf #[] ep) :: R) text k1 t el ep a b c d e1 f [46] n1 (List.mem_cons_of_mem _ mx) hS5 (List.mem_cons_self ..) hla5 hdx5 h3' (by omega) hx1) rfl rfl rfl ?hd ?hu ?_)
  case F => assumption
  case N => assumption
  case hd => exact Nat.le_of_ble_eq_true rfl
  case hu => exact Nat.le_of_ble_eq_true rfl
  rintro r h3 tk3 n3 F3 N3 ⟨t2, t3, e3, b3, rfl, rfl⟩
  clear N2 F
  k_steps
  unfold Hold
  k_dflt (refine' Told.use B1 ?F X1 ?N T1 CH1 (tok_told ((pb, W.listOf #[] ep) :: R) text (k1 + n1) t3 e3 ep a b3 c d e1 f [] n2 (List.mem_cons_of_mem _ mx) hS5 (List.mem_cons_self ..) hla5 hdx5 h3' (by omega) hx2) rfl rfl rfl ?hd ?hu ?_)
  case F => assumption
  case N => assumption
  case hd => exact Nat.le_of_ble_eq_true rfl
  case hu => exact Nat.le_of_ble_eq_true rfl
  rintro r h4 tk4 n4 F4 N4 ⟨t4, t5, e5, b5, rfl, rfl⟩
  clear N3 F3
  k_steps
  unfold Hold
  rename_i D1 _ l1 D2 hz F5 N5 l2
  have hs1 : S [46] = Str.ofString "." := by decide +kernel
  have hs2 : S [] = Str.ofString "" := by decide +kernel
  refine ks_ne (xs := [Value.str (S [46]) t2, Value.str (S []) t4]) (ys := [Value.str (Str.ofString ".") tk4, Value.str (Str.ofString "") (tk4 + 1)]) (ns := [S [46], S []]) (ms := [Str.ofString ".", Str.ofString ""]) ⟨_, (N5 _ (List.mem_cons_of_mem _ (List.mem_cons_self ..))).1, rfl, _, rfl⟩ ⟨_, (N5 _ (List.mem_cons_self ..)).1, rfl, _, rfl⟩ (.cons _ _ (.cons _ _ .nil)) (.cons _ _ (.cons _ _ .nil)) (by decide +kernel) (by decide +kernel) (by exact Nat.le_of_ble_eq_true rfl) ?_
  rw [hs1, hs2, decide_eq_true rfl]
  k_steps
  · exfalso
    have hne := ‹(1 : Int) + (cnt text (k1 + n1 + n2) : Nat) ≠ _›
    have hcn : cnt text (k1 + n1 + n2) = cnt text text.length := by unfold cnt; rw [List.take_of_length_le hend, List.take_length]
    exact hne (by rw [hcn, count_nl])
  · rw [mm_as hm] at F5
    exact hk _ _ F5 (news_of_sub N5 fun q hq => by simp [hq])

end Mine
end partSQ

/- the part ST -/
section
open PySem PySem.W PySem.Calls PyProof.Rows PySem.Spec
namespace Mine
theorem fresh_ST (prog : Program) (w : World) (A : Around) (env : Env) (s : Shared) (Q : Flow → Shared → Prop) (E : Value → Shared → Prop) (h : Q .next s) :
    wpAny (model prog w) A (execs [] env) Q E s := by
  w_top off
  walk1
  exact h
end Mine
end
section partST
open PySem PySem.W PySem.Calls PyProof.Rows PySem.Spec
set_option maxHeartbeats 1600000
namespace Mine
open K
/-- statement 19: what is given back -/
theorem s19 {rest : List Stmt} {s : Shared}
              (X1 : (_root_.Mine.hd.heap_1 w.params).In h₀) (T1 : Top p loose mean mg mb h₀) (B1 : Below callerA h₀ [] h₀) (CH1 : CodeHd h₀ 88 84) {R : List (Addr × Obj)} {Dh Dv : Addr} {hs vs : List Value} {hn vn CH CV : List Int} {eh ev : Nat} {mm : Str → Option Value}
    (hm1 : mm (Str.ofString "hills") = some (.ref Dh)) (hm2 : mm (Str.ofString "waters") = some (.ref Dv)) (hh : IntsAre hs hn) (hv : IntsAre vs vn)
    (nh : hn.Nodup) (lh : hn.length ≤ 15) (sh : Spans CH) (ch : ∀ c ∈ CH, c ∈ hn) (nv : vn.Nodup) (lv : vn.length ≤ 15) (sv : Spans CV) (cv : ∀ c ∈ CV, c ∈ vn)
    (F : Fr h₀ L s.heap mm) (N : News h₀ L s.heap ((Dh, W.listOf hs.toArray eh) :: (Dv, W.listOf vs.toArray ev) :: R)) (hne : @Ne Nat Dh Dv) (hRh : ∀ q ∈ R, @Ne Nat q.1 Dh) (hRv : ∀ q ∈ R, @Ne Nat q.1 Dv)
    (hk : ∀ h' tk', Fr h₀ L h' mm → News h₀ L h' R → Q (.ret (.bool true)) { heap := h', gens := s.gens, drawn := s.drawn, toks := tk', os := s.os }) :
    wpAny (model PySem.Challenge.rw_kl0066_01.row.prog w) (callerA.deeper (lawEnv L fa cd)) (execs (st19 :: []) (lawEnv L fa cd)) Q (fun _ _ => False) s := by
  unfold st19
  revert X1
  k_fill
  intro X1
  dsimp only [lawEnv, lawScope]
  have hmz : (fun y => if y = Str.ofString "hills" then some (Value.ref Dh) else if y = Str.ofString "waters" then some (.ref Dv) else mm y) = mm := put2_self (by assumption) (by assumption)
  rw [← hmz] at F
  k_steps
  unfold Hold
  k_dflt (refine' Told.use B1 ?F X1 ?N T1 CH1 (meets_told ((Dv, W.listOf vs.toArray ev) :: R) hs hn CH eh (List.forall_mem_cons.mpr ⟨Ne.symm hne, hRh⟩) hh nh lh sh ch) rfl rfl rfl ?hd ?hu ?_)
  case F => assumption
  case N => assumption
  case hd => exact Nat.le_of_ble_eq_true rfl
  case hu => exact Nat.le_of_ble_eq_true rfl
  rintro r h3 tk3 n3 F3 N3 ⟨⟨hs', eh', rfl⟩, rfl⟩
  k_steps
  unfold Hold
  have N3' : News h₀ L h3 ((Dv, W.listOf vs.toArray ev) :: (Dh, W.listOf hs'.toArray eh') :: R) := news_of_sub N3 (by repeat (first | with_reducible apply sub_nil | with_reducible apply sub_refl | with_reducible refine sub_cons (by with_reducible first | apply at0 | apply at1 | apply at2 | apply at3 | apply at4 | apply at5 | apply at6 | apply at7 | apply at8 | apply at9 | apply at10 | apply at11 | apply at12 | apply at13) ?_ | with_reducible refine sub_tail4 ?_ | with_reducible refine sub_tail ?_))
  clear N3
  k_dflt (refine' Told.use B1 ?F X1 ?N T1 CH1 (meets_told ((Dh, W.listOf hs'.toArray eh') :: R) vs vn CV ev (List.forall_mem_cons.mpr ⟨hne, hRv⟩) hv nv lv sv cv) rfl rfl rfl ?hd ?hu ?_)
  case F => assumption
  case N => assumption
  case hd => exact Nat.le_of_ble_eq_true rfl
  case hu => exact Nat.le_of_ble_eq_true rfl
  rintro r h4 tk4 n4 F4 N4 ⟨⟨vs', ev', rfl⟩, rfl⟩
  k_steps
  exact hk h4 tk4 (hmz ▸ F4) (news_of_sub N4 fun q hq => List.mem_cons_of_mem _ (List.mem_cons_of_mem _ hq))

end Mine
end partST

end rulesC

/- the part Ypure2 -/
section
open PySem PySem.W PySem.Calls PyProof.Rows PySem.Spec
namespace Mine
theorem fresh_Ypure2 (prog : Program) (w : World) (A : Around) (env : Env) (s : Shared) (Q : Flow → Shared → Prop) (E : Value → Shared → Prop) (h : Q .next s) :
    wpAny (model prog w) A (execs [] env) Q E s := by
  w_top off
  walk1
  exact h
end Mine
end
section partYpure2
open PySem PySem.W PySem.Calls PyProof.Rows PySem.Spec
set_option maxHeartbeats 1600000
namespace Mine
noncomputable def bval (B : List (List Int)) (i j : Nat) : Int := (B.getD i []).getD j 0
theorem bval_red {ls : List Int} {B : List (List Int)} {n i j : Nat} (h : Brd ls B (n + 1)) (hj : j ≤ i) (hi : i < n) : bval (redB B) i j = med3 (bval B i j) (bval B (i + 1) j) (bval B (i + 1) (j + 1)) := by
  have e := redB_get (B := B) (i := i) (by rw [h.rows]; omega)
  unfold bval
  rw [List.getD_eq_getElem?_getD (l := redB B), e]
  show (red _ _).getD j 0 = _
  have hl := h.row i (by omega)
  have hl2 := h.row (i + 1) (by omega)
  rw [List.getD_eq_getElem?_getD, red_get (A := B.getD i []) (R := B.getD (i + 1) []) (i := j) (by omega) (by omega)]
  rfl
theorem y_up {ls : List Int} {B : List (List Int)} {n : Nat} {p : Int → Prop} (hp : ∀ a b c, p (med3 a b c) → (p a ∧ p b) ∨ (p a ∧ p c) ∨ (p b ∧ p c)) (h : Brd ls B (n + 1))
    (hy : ∃ C, YY n (fun i j => p (bval (redB B) i j)) C) : ∃ C, YY (n + 1) (fun i j => p (bval B i j)) C := by
  obtain ⟨C, hC⟩ := hy
  refine lift hC fun i j hj hi hpi => ?_
  simp only [bval_red h hj hi] at hpi
  exact hp _ _ _ hpi
theorem y_board {ls : List Int} {B : List (List Int)} {t0 : Int} {p : Int → Prop} (hp : ∀ a b c, p (med3 a b c) → (p a ∧ p b) ∨ (p a ∧ p c) ∨ (p b ∧ p c)) (h : Brd ls B 5) (ht : (rdN 4 B).flatten = [t0]) (h0 : p t0) :
    ∃ C, YY 5 (fun i j => p (bval B i j)) C := by
  have h4 := rdN_brd h 4 (by decide)
  have h3 := rdN_brd h 3 (by decide)
  have h2 := rdN_brd h 2 (by decide)
  have h1 := rdN_brd h 1 (by decide)
  have y4 : ∃ C, YY 1 (fun i j => p (bval (rdN 4 B) i j)) C := by
    obtain ⟨t, e1, e2, _⟩ := Brd.head (n := 0) h4
    refine ⟨_, YY.one ?_⟩
    have : t = t0 := by
      rw [e2] at ht
      exact (List.cons.inj ht).1
    show p (((rdN 4 B).getD 0 []).getD 0 0)
    rw [e1, this]
    exact h0
  exact y_up hp h (y_up hp h1 (y_up hp h2 (y_up hp h3 y4)))
/-- the board of fifteen -/
noncomputable def boardL (ls : List Int) : List (List Int) := [[ls.getD 0 0], [ls.getD 1 0, ls.getD 2 0], [ls.getD 3 0, ls.getD 4 0, ls.getD 5 0], [ls.getD 6 0, ls.getD 7 0, ls.getD 8 0, ls.getD 9 0], [ls.getD 10 0, ls.getD 11 0, ls.getD 12 0, ls.getD 13 0, ls.getD 14 0]]
theorem board_flat {ls : List Int} (h : ls.length = 15) : (boardL ls).flatten = ls := by
  match ls, h with
  | [a0, a1, a2, a3, a4, a5, a6, a7, a8, a9, a10, a11, a12, a13, a14], _ => rfl
theorem board_brd {ls : List Int} (h : ls.length = 15) : Brd ls (boardL ls) 5 := by
  refine ⟨rfl, ?_, ?_⟩
  · intro i hi
    have : i = 0 ∨ i = 1 ∨ i = 2 ∨ i = 3 ∨ i = 4 := by omega
    rcases this with rfl | rfl | rfl | rfl | rfl <;> rfl
  · intro r hr l hl
    rw [← board_flat h]
    exact List.mem_flatten.mpr ⟨r, hr, hl⟩
noncomputable def spn : List Int := [0, 8, 9, 16, 17, 18, 24, 25, 26, 27, 32, 33, 34, 35, 36]
noncomputable def idx (i j : Nat) : Nat := i * (i + 1) / 2 + j
theorem idx_spn : ∀ i ∈ List.range 5, ∀ j ∈ List.range (i + 1), spn.getD (idx i j) 0 = 8 * (i : Int) + (j : Int) ∧ idx i j < 15 := by decide +kernel
noncomputable def bix : List (List Nat) := [[0], [1, 2], [3, 4, 5], [6, 7, 8, 9], [10, 11, 12, 13, 14]]
theorem bix_ok : ∀ i ∈ List.range 5, ∀ j ∈ List.range (i + 1), (bix.getD i [])[j]? = some (idx i j) := by decide +kernel
theorem idx_board {ls : List Int} {i j : Nat} (hj : j ≤ i) (hi : i < 5) : bval (boardL ls) i j = ls.getD (idx i j) 0 := by
  have h := bix_ok i (List.mem_range.mpr hi) j (List.mem_range.mpr (Nat.lt_succ_of_le hj))
  show ((bix.map (List.map fun k => ls.getD k 0)).getD i []).getD j 0 = _
  have e : (bix.map (List.map fun k => ls.getD k 0)).getD i [] = (bix.getD i []).map fun k => ls.getD k 0 := by
    rw [List.getD_eq_getElem?_getD, List.getD_eq_getElem?_getD, List.getElem?_map]
    cases bix[i]? <;> rfl
  rw [e, List.getD_eq_getElem?_getD, List.getElem?_map, h]
  rfl
theorem pick_sub (pr : Int → Bool) (sgn : List Int) : (pick pr sgn spn 15).Sublist spn := by
  have e : (List.range 15).map (fun k => spn.getD k 0) = spn := by decide +kernel
  have h := List.Sublist.map (fun k => spn.getD k 0) (List.filter_sublist (p := fun k => pr (sgn.getD k 0)) (l := List.range 15))
  rw [e] at h
  exact h
theorem pick_nodup (pr : Int → Bool) (sgn : List Int) : (pick pr sgn spn 15).Nodup := (pick_sub pr sgn).nodup (by decide +kernel)
theorem pick_len (pr : Int → Bool) (sgn : List Int) : (pick pr sgn spn 15).length ≤ 15 := (pick_sub pr sgn).length_le
theorem mem_pick {pr : Int → Bool} {sgn : List Int} {k : Nat} (hk : k < 15) (h : pr (sgn.getD k 0) = true) : spn.getD k 0 ∈ pick pr sgn spn 15 :=
  List.mem_map.mpr ⟨k, List.mem_filter.mpr ⟨List.mem_range.mpr hk, h⟩, rfl⟩
open Classical in
/-- the piece as a list of spots -/
noncomputable def spotsOf (C : Nat → Nat → Prop) : List Int := ((List.range 5).flatMap fun i : Nat => ((List.range 5).filter fun j : Nat => decide (C i j)).map fun j : Nat => 8 * (i : Int) + (j : Int))
theorem mem_spotsOf {C : Nat → Nat → Prop} {x : Int} : x ∈ spotsOf C ↔ ∃ i j, i < 5 ∧ j < 5 ∧ C i j ∧ x = 8 * (i : Int) + (j : Int) := by
  unfold spotsOf
  simp only [List.mem_flatMap, List.mem_map, List.mem_filter, List.mem_range, decide_eq_true_eq]
  constructor
  · rintro ⟨i, hi, j, ⟨hj, hc⟩, rfl⟩
    exact ⟨i, j, hi, hj, hc, rfl⟩
  · rintro ⟨i, j, hi, hj, hc, rfl⟩
    exact ⟨i, hi, j, ⟨hj, hc⟩, rfl⟩
theorem adj_steps {i j i' j' : Nat} (h : Adj i j i' j') : ∃ d ∈ steps, 8 * (i' : Int) + (j' : Int) = 8 * (i : Int) + (j : Int) + d := by
  rcases h with ⟨rfl, rfl⟩ | ⟨rfl, rfl⟩ | ⟨rfl, rfl | rfl⟩ | ⟨rfl, rfl | rfl⟩
  · exact ⟨1, by decide, by omega⟩
  · exact ⟨-1, by decide, by omega⟩
  · exact ⟨8, by decide, by omega⟩
  · exact ⟨9, by decide, by omega⟩
  · exact ⟨-8, by decide, by omega⟩
  · exact ⟨-9, by decide, by omega⟩
theorem spans_of {P C : Nat → Nat → Prop} (h : YY 5 P C) : Spans (spotsOf C) := by
  have hb : ∀ i j, C i j → i < 5 ∧ j < 5 := fun i j hc => by obtain ⟨h1, h2, _⟩ := h.sub i j hc; omega
  refine ⟨?_, ?_, ?_, ?_⟩
  · obtain ⟨i, hc⟩ := h.left
    exact ⟨_, mem_spotsOf.mpr ⟨i, 0, (hb _ _ hc).1, (hb _ _ hc).2, hc, rfl⟩, by omega⟩
  · obtain ⟨i, hc⟩ := h.right
    exact ⟨_, mem_spotsOf.mpr ⟨i, i, (hb _ _ hc).1, (hb _ _ hc).2, hc, rfl⟩, by omega⟩
  · obtain ⟨i, j, hc, hi⟩ := h.low
    exact ⟨_, mem_spotsOf.mpr ⟨i, j, (hb _ _ hc).1, (hb _ _ hc).2, hc, rfl⟩, by omega⟩
  · intro S hS hcl x hx
    obtain ⟨i, j, _, _, hc, rfl⟩ := mem_spotsOf.mp hx
    refine h.conn (fun i j => S (8 * (i : Int) + (j : Int))) ?_ ?_ i j hc
    · obtain ⟨y, hy, hs⟩ := hS
      obtain ⟨a, b, _, _, hab, rfl⟩ := mem_spotsOf.mp hy
      exact ⟨a, b, hab, hs⟩
    · intro a b a' b' hab hs hab' hadj
      exact hcl _ (mem_spotsOf.mpr ⟨a, b, (hb _ _ hab).1, (hb _ _ hab).2, hab, rfl⟩) _ (mem_spotsOf.mpr ⟨a', b', (hb _ _ hab').1, (hb _ _ hab').2, hab', rfl⟩) hs (adj_steps hadj)
/-- both hills and waters hold a piece that spans the board -/
theorem y_law {ls : List Int} {t0 : Int} (hll : ls.length = 15) (ht : (rdN 4 (boardL ls)).flatten = [t0]) :
    (∃ C, Spans C ∧ ∀ c ∈ C, c ∈ pick (fun x => decide (0 ≤ x)) (ls.map fun l => cmpI l t0) spn 15) ∧ (∃ C, Spans C ∧ ∀ c ∈ C, c ∈ pick (fun x => decide (x ≤ 0)) (ls.map fun l => cmpI l t0) spn 15) := by
  have hget : ∀ k, k < 15 → (ls.map fun l => cmpI l t0).getD k 0 = cmpI (ls.getD k 0) t0 := fun k hk => by
    rw [List.getD_eq_getElem?_getD, List.getElem?_map, getD_some (by omega) 0]; rfl
  constructor
  · obtain ⟨C, hC⟩ := y_board (p := fun v => t0 ≤ v) (fun a b c h => med_ge h) (board_brd hll) ht (Int.le_refl _)
    refine ⟨_, spans_of hC, fun c hc => ?_⟩
    obtain ⟨i, j, hi, hj, hcc, rfl⟩ := mem_spotsOf.mp hc
    obtain ⟨h1, h2, h3⟩ := hC.sub i j hcc
    obtain ⟨e1, e2⟩ := idx_spn i (List.mem_range.mpr hi) j (List.mem_range.mpr (by omega))
    rw [← e1]
    refine mem_pick e2 ?_
    rw [hget _ e2, ← idx_board h1 hi]
    refine decide_eq_true ?_
    have h3' : t0 ≤ bval (boardL ls) i j := h3
    unfold cmpI
    (repeat' split) <;> omega
  · obtain ⟨C, hC⟩ := y_board (p := fun v => v ≤ t0) (fun a b c h => med_le h) (board_brd hll) ht (Int.le_refl _)
    refine ⟨_, spans_of hC, fun c hc => ?_⟩
    obtain ⟨i, j, hi, hj, hcc, rfl⟩ := mem_spotsOf.mp hc
    obtain ⟨h1, h2, h3⟩ := hC.sub i j hcc
    obtain ⟨e1, e2⟩ := idx_spn i (List.mem_range.mpr hi) j (List.mem_range.mpr (by omega))
    rw [← e1]
    refine mem_pick e2 ?_
    rw [hget _ e2, ← idx_board h1 hi]
    refine decide_eq_true ?_
    have h3' : bval (boardL ls) i j ≤ t0 := h3
    unfold cmpI
    (repeat' split) <;> omega

end Mine
end partYpure2

/- the part Body -/
section
open PySem PySem.W PySem.Calls PyProof.Rows PySem.Spec
namespace Mine
theorem fresh_Body (prog : Program) (w : World) (A : Around) (env : Env) (s : Shared) (Q : Flow → Shared → Prop) (E : Value → Shared → Prop) (h : Q .next s) :
    wpAny (model prog w) A (execs [] env) Q E s := by
  w_top off
  walk1
  exact h
end Mine
end
section partBody
open PySem PySem.W PySem.Calls PyProof.Rows PySem.Spec
set_option maxHeartbeats 1600000
namespace Mine
open K
theorem bodyB {s : Shared}
    (X1 : (_root_.Mine.hd.heap_1 w.params).In h₀) (T1 : Top p loose mean mg mb h₀) (B1 : Below callerA h₀ [] h₀) (CH1 : CodeHd h₀ 88 84)
    {o8 o6 o5 o4 o3 o2 o1 : Obj} {Bs : List (Addr × Obj)} {Dl Dw x dx pb fs la : Addr} {ws zs : List Value} {ls : List Int} {ew ez : Nat} {a b c d e1 f t tt : Tok} {text : List Nat} {mm : Str → Option Value} (ks : Nat → Nat)
    (d8 : o8.data = .cell (some (.ref Dw))) (d6 : o6.data = .cell (some (.ref x))) (d5 : o5.data = .cell none) (d4 : o4.data = .cell none) (d3 : o3.data = .cell none) (d2 : o2.data = .cell none) (d1 : o1.data = .cell none)
    (m8 : (L + 1 + 1, o8) ∈ Bs) (mw : (Dw, W.listOf ws.toArray ew) ∈ Bs) (ml : (Dl, W.listOf zs.toArray ez) ∈ Bs) (hS : Strm w p loose mean mg mb Bs fs text la)
    (hlt : ∀ q ∈ Bs, @LT.lt Nat _ q.1 dx) (hnl : ∀ q ∈ Bs, @Ne Nat q.1 la)
    (hc4 : ∀ q ∈ Bs, @Ne Nat q.1 (L + 1 + 1 + 1 + 1)) (hc5 : ∀ q ∈ Bs, @Ne Nat q.1 (L + 1 + 1 + 1 + 1 + 1)) (hc6 : ∀ q ∈ Bs, @Ne Nat q.1 (L + 1 + 1 + 1 + 1 + 1 + 1)) (hc7 : ∀ q ∈ Bs, @Ne Nat q.1 (L + 1 + 1 + 1 + 1 + 1 + 1 + 1)) (hc8 : ∀ q ∈ Bs, @Ne Nat q.1 (L + 1 + 1 + 1 + 1 + 1 + 1 + 1 + 1)) (hc9 : ∀ q ∈ Bs, @Ne Nat q.1 (L + 1 + 1 + 1 + 1 + 1 + 1 + 1 + 1 + 1))
    (o1' : @LT.lt Nat _ (L + 1 + 1 + 1 + 1 + 1 + 1 + 1 + 1 + 1) la) (o2' : @LT.lt Nat _ la dx) (o3' : @LT.lt Nat _ dx x) (o4' : @LT.lt Nat _ x pb)
    (hm : mm (Str.ofString "levels") = some (.ref Dl)) (hmt : mm (Str.ofString "text") = some (.str (S text) tt)) (hzs : IntsAre zs ls) (hll : ls.length = 15) (hlb : ∀ l ∈ ls, 0 ≤ l ∧ l < 585) (hws : StrsAre ws (ls.map fun l => S (wordL 3 l)))
    (hk0 : ks 0 = 0) (hks : ∀ i, i < 15 → ∃ n, lex (text.drop (ks i)) = some (wordL 3 (ls.getD i 0), n) ∧ ks (i + 1) = ks i + n ∧ ks i + n ≤ 100000)
    {n1 : Nat} (hx1 : lex (text.drop (ks 15)) = some ([46], n1)) (hx2 : lex (text.drop (ks 15 + n1)) = some ([], 1)) (hend : text.length ≤ ks 15 + n1 + 1) (htl : ks 15 + n1 + 1 ≤ 1000)
    (F : Fr h₀ L s.heap mm) (N : News h₀ L s.heap ((pb, W.listOf #[] 0) :: (dx, dictOf (lexd w 1 fs pb a b c d e1 f) 4) :: (la, W.listOf #[.int 0 t] 0) :: (x, instObj 66 dx) :: (L + 1 + 1 + 1 + 1, o6) :: (L + 1 + 1 + 1 + 1 + 1, o5) :: (L + 1 + 1 + 1 + 1 + 1 + 1, o4) :: (L + 1 + 1 + 1 + 1 + 1 + 1 + 1, o3) :: (L + 1 + 1 + 1 + 1 + 1 + 1 + 1 + 1, o2) :: (L + 1 + 1 + 1 + 1 + 1 + 1 + 1 + 1 + 1, o1) :: Bs))
    (hk : ∀ h' tk' mm', Fr h₀ L h' mm' → News h₀ L h' Bs → Q (.ret (.bool true)) { heap := h', gens := s.gens, drawn := s.drawn, toks := tk', os := s.os }) :
    wpAny (model PySem.Challenge.rw_kl0066_01.row.prog w) (callerA.deeper (lawEnv L fa cd)) (execs (st7 :: st8 :: st9 :: st10 :: st11 :: st12 :: st13 :: st14 :: st15 :: st16 :: st17 :: st18 :: st19 :: []) (lawEnv L fa cd)) Q (fun _ _ => False) s := by
  have hinj : ∀ i j : Int, i ∈ ls → j ∈ ls → wordL 3 i = wordL 3 j → i = j := fun i j hi hj h => word_inj (hlb i hi) (hlb j hj) h
  have hinjW : ∀ i j : Int, i ∈ ls → j ∈ ls → W0 i = W0 j → i = j := fun i j hi hj h => hinj i j hi hj (by
    have := congrArg (fun z : Str => z.cps.toList) h
    simpa [S] using this)
  have bdx : ∀ q ∈ Bs, @Ne Nat q.1 dx := fun q hq => Nat.ne_of_lt (hlt q hq)
  have bpb : ∀ q ∈ Bs, @Ne Nat q.1 pb := fun q hq => Nat.ne_of_lt (by have := hlt q hq; omega)
  have bx : ∀ q ∈ Bs, @Ne Nat q.1 x := fun q hq => Nat.ne_of_lt (by have := hlt q hq; omega)
  -- the fifteen words are read
  refine s7 (R := (x, instObj 66 dx) :: (L + 1 + 1 + 1 + 1, o6) :: (L + 1 + 1 + 1 + 1 + 1, o5) :: (L + 1 + 1 + 1 + 1 + 1 + 1, o4) :: (L + 1 + 1 + 1 + 1 + 1 + 1 + 1, o3) :: (L + 1 + 1 + 1 + 1 + 1 + 1 + 1 + 1, o2) :: (L + 1 + 1 + 1 + 1 + 1 + 1 + 1 + 1 + 1, o1) :: Bs) X1 T1 B1 CH1 ks d8 d6 (by first | with_reducible exact m8 | with_reducible first | apply at0 | apply at1 | apply at2 | apply at3 | apply at4 | apply at5 | apply at6 | apply at7 | apply at8 | apply at9 | apply at10 | apply at11 | apply at12 | apply at13 | (repeat (first | with_reducible exact m8 | with_reducible refine at1t ?_))) (by with_reducible first | apply at0 | apply at1 | apply at2 | apply at3 | apply at4 | apply at5 | apply at6 | apply at7 | apply at8 | apply at9 | apply at10 | apply at11 | apply at12 | apply at13) (by first | with_reducible exact mw | with_reducible first | apply at0 | apply at1 | apply at2 | apply at3 | apply at4 | apply at5 | apply at6 | apply at7 | apply at8 | apply at9 | apply at10 | apply at11 | apply at12 | apply at13 | (repeat (first | with_reducible exact mw | with_reducible refine at1t ?_))) (by with_reducible first | apply at0 | apply at1 | apply at2 | apply at3 | apply at4 | apply at5 | apply at6 | apply at7 | apply at8 | apply at9 | apply at10 | apply at11 | apply at12 | apply at13) (hS.mono fun q hq => (by first | with_reducible exact hq | with_reducible first | apply at0 | apply at1 | apply at2 | apply at3 | apply at4 | apply at5 | apply at6 | apply at7 | apply at8 | apply at9 | apply at10 | apply at11 | apply at12 | apply at13 | (repeat (first | with_reducible exact hq | with_reducible refine at1t ?_)))) hll hws hk0 hks F N (by repeat (first | exact bpb | exact nes_nil | refine nes_cons (by (show @Ne Nat _ _; omega)) ?_)) (by repeat (first | exact bdx | exact nes_nil | refine nes_cons (by (show @Ne Nat _ _; omega)) ?_)) (by repeat (first | exact hnl | exact nes_nil | refine nes_cons (by (show @Ne Nat _ _; omega)) ?_)) (by omega) (by omega) (by omega) ?_
  intro h7 tk7 b7 t7 e7 F7 N7
  -- the empty dict
  refine s8 (R := (pb, W.listOf #[] 0) :: (dx, dictOf (lexd w (1 + cnt text (ks 15)) fs pb a b7 c d e1 f) 4) :: (la, W.listOf #[.int (ks 15) t7] e7) :: (x, instObj 66 dx) :: (L + 1 + 1 + 1 + 1, o6) :: (L + 1 + 1 + 1 + 1 + 1 + 1, o4) :: (L + 1 + 1 + 1 + 1 + 1 + 1 + 1, o3) :: (L + 1 + 1 + 1 + 1 + 1 + 1 + 1 + 1, o2) :: (L + 1 + 1 + 1 + 1 + 1 + 1 + 1 + 1 + 1, o1) :: Bs) X1 T1 B1 CH1 d5 F7 (news_of_sub N7 (by repeat (first | with_reducible apply sub_nil | with_reducible apply sub_refl | with_reducible refine sub_cons (by with_reducible first | apply at0 | apply at1 | apply at2 | apply at3 | apply at4 | apply at5 | apply at6 | apply at7 | apply at8 | apply at9 | apply at10 | apply at11 | apply at12 | apply at13) ?_ | with_reducible refine sub_tail4 ?_ | with_reducible refine sub_tail ?_))) (by repeat (first | exact hc5 | exact nes_nil | refine nes_cons (by (show @Ne Nat _ _; omega)) ?_)) ?_
  intro h8 tk8 Dd od o5' F8 N8 d5' hod hlo hcd hRd
  have hDdR : ∀ q ∈ (dx, dictOf (lexd w (1 + cnt text (ks 15)) fs pb a b7 c d e1 f) 4) :: (la, W.listOf #[.int (ks 15) t7] e7) :: (x, instObj 66 dx) :: (L + 1 + 1 + 1 + 1, o6) :: (L + 1 + 1 + 1 + 1 + 1 + 1, o4) :: (L + 1 + 1 + 1 + 1 + 1 + 1 + 1, o3) :: (L + 1 + 1 + 1 + 1 + 1 + 1 + 1 + 1, o2) :: (L + 1 + 1 + 1 + 1 + 1 + 1 + 1 + 1 + 1, o1) :: Bs, @Ne Nat q.1 Dd := fun q hq => Nat.ne_of_lt (hRd q (List.mem_cons_of_mem _ hq))
  have hpd : @LT.lt Nat _ pb Dd := hRd _ (List.mem_cons_self ..)
  have bdd : ∀ q ∈ Bs, @Ne Nat q.1 Dd := fun q hq => hDdR q (by simp only [List.mem_cons]; simp [hq])
  -- the lights
  refine s9 (R := (L + 1 + 1 + 1 + 1 + 1, o5') :: (dx, dictOf (lexd w (1 + cnt text (ks 15)) fs pb a b7 c d e1 f) 4) :: (la, W.listOf #[.int (ks 15) t7] e7) :: (x, instObj 66 dx) :: (L + 1 + 1 + 1 + 1, o6) :: (L + 1 + 1 + 1 + 1 + 1 + 1, o4) :: (L + 1 + 1 + 1 + 1 + 1 + 1 + 1, o3) :: (L + 1 + 1 + 1 + 1 + 1 + 1 + 1 + 1, o2) :: (L + 1 + 1 + 1 + 1 + 1 + 1 + 1 + 1 + 1, o1) :: Bs) X1 T1 B1 CH1 d8 d6 d5' (by first | with_reducible exact m8 | with_reducible first | apply at0 | apply at1 | apply at2 | apply at3 | apply at4 | apply at5 | apply at6 | apply at7 | apply at8 | apply at9 | apply at10 | apply at11 | apply at12 | apply at13 | (repeat (first | with_reducible exact m8 | with_reducible refine at1t ?_))) (by with_reducible first | apply at0 | apply at1 | apply at2 | apply at3 | apply at4 | apply at5 | apply at6 | apply at7 | apply at8 | apply at9 | apply at10 | apply at11 | apply at12 | apply at13) (by with_reducible first | apply at0 | apply at1 | apply at2 | apply at3 | apply at4 | apply at5 | apply at6 | apply at7 | apply at8 | apply at9 | apply at10 | apply at11 | apply at12 | apply at13) (by first | with_reducible exact mw | with_reducible first | apply at0 | apply at1 | apply at2 | apply at3 | apply at4 | apply at5 | apply at6 | apply at7 | apply at8 | apply at9 | apply at10 | apply at11 | apply at12 | apply at13 | (repeat (first | with_reducible exact mw | with_reducible refine at1t ?_))) (by first | with_reducible exact ml | with_reducible first | apply at0 | apply at1 | apply at2 | apply at3 | apply at4 | apply at5 | apply at6 | apply at7 | apply at8 | apply at9 | apply at10 | apply at11 | apply at12 | apply at13 | (repeat (first | with_reducible exact ml | with_reducible refine at1t ?_))) (by with_reducible first | apply at0 | apply at1 | apply at2 | apply at3 | apply at4 | apply at5 | apply at6 | apply at7 | apply at8 | apply at9 | apply at10 | apply at11 | apply at12 | apply at13) (by with_reducible first | apply at0 | apply at1 | apply at2 | apply at3 | apply at4 | apply at5 | apply at6 | apply at7 | apply at8 | apply at9 | apply at10 | apply at11 | apply at12 | apply at13) hm hzs hll hws hinj hod hlo F8 (news_of_sub N8 (by repeat (first | with_reducible apply sub_nil | with_reducible apply sub_refl | with_reducible refine sub_cons (by with_reducible first | apply at0 | apply at1 | apply at2 | apply at3 | apply at4 | apply at5 | apply at6 | apply at7 | apply at8 | apply at9 | apply at10 | apply at11 | apply at12 | apply at13) ?_ | with_reducible refine sub_tail4 ?_ | with_reducible refine sub_tail ?_))) (by repeat (first | exact bpb | exact nes_nil | refine nes_cons (by (show @Ne Nat _ _; omega)) ?_)) (by repeat (first | exact bdd | exact nes_nil | refine nes_cons (by (show @Ne Nat _ _; omega)) ?_)) (by omega) ?_
  intro h9 tk9 mm9 od' kvs pv9 e9 F9 ag9 N9 hpv9 hod' hva
  -- the rounds
  have hBd := board_brd (ls := ls) hll
  refine s10 (R := (Dd, od') :: (L + 1 + 1 + 1 + 1 + 1, o5') :: (dx, dictOf (lexd w (1 + cnt text (ks 15)) fs pb a b7 c d e1 f) 4) :: (la, W.listOf #[.int (ks 15) t7] e7) :: (x, instObj 66 dx) :: (L + 1 + 1 + 1 + 1, o6) :: (L + 1 + 1 + 1 + 1 + 1 + 1, o4) :: (L + 1 + 1 + 1 + 1 + 1 + 1 + 1, o3) :: (L + 1 + 1 + 1 + 1 + 1 + 1 + 1 + 1, o2) :: (L + 1 + 1 + 1 + 1 + 1 + 1 + 1 + 1 + 1, o1) :: Bs) X1 T1 B1 CH1 d6 d5' (by with_reducible first | apply at0 | apply at1 | apply at2 | apply at3 | apply at4 | apply at5 | apply at6 | apply at7 | apply at8 | apply at9 | apply at10 | apply at11 | apply at12 | apply at13) (by with_reducible first | apply at0 | apply at1 | apply at2 | apply at3 | apply at4 | apply at5 | apply at6 | apply at7 | apply at8 | apply at9 | apply at10 | apply at11 | apply at12 | apply at13) (by with_reducible first | apply at0 | apply at1 | apply at2 | apply at3 | apply at4 | apply at5 | apply at6 | apply at7 | apply at8 | apply at9 | apply at10 | apply at11 | apply at12 | apply at13) (by with_reducible first | apply at0 | apply at1 | apply at2 | apply at3 | apply at4 | apply at5 | apply at6 | apply at7 | apply at8 | apply at9 | apply at10 | apply at11 | apply at12 | apply at13) (by with_reducible first | apply at0 | apply at1 | apply at2 | apply at3 | apply at4 | apply at5 | apply at6 | apply at7 | apply at8 | apply at9 | apply at10 | apply at11 | apply at12 | apply at13) hod' hva hlb hBd (by rw [board_flat hll]; exact hpv9) F9 N9 (by repeat (first | exact bpb | exact nes_nil | refine nes_cons (by (show @Ne Nat _ _; omega)) ?_)) ?_
  intro h10 tk10 mm10 pv10 e10 F10 ag10 N10 hpv10
  obtain ⟨t0, ht0⟩ : ∃ t0, (rdN 4 (boardL ls)).flatten = [t0] := by
    have h4 := rdN_brd hBd 4 (by decide)
    obtain ⟨t0, e1, e2, _⟩ := Brd.head (n := 0) h4
    refine ⟨t0, ?_⟩
    rw [e2, List.drop_of_length_le (by rw [h4.rows]; decide)]
    rfl
  have ht0m : t0 ∈ ls := by
    have h4 := rdN_brd hBd 4 (by decide)
    have : t0 ∈ (rdN 4 (boardL ls)).flatten := by rw [ht0]; exact List.mem_singleton.mpr rfl
    obtain ⟨r, hr, hl⟩ := List.mem_flatten.mp this
    exact h4.mem r hr t0 hl
  rw [ht0] at hpv10
  have hm10 : mm10 (Str.ofString "levels") = some (.ref Dl) := (ag10 _ (by decide)).trans ((ag9 _ (by decide)).trans hm)
  have hmt10 : mm10 (Str.ofString "text") = some (.str (S text) tt) := (ag10 _ (by decide)).trans ((ag9 _ (by decide)).trans hmt)
  -- top
  refine s11 (T := []) (R := (Dd, od') :: (L + 1 + 1 + 1 + 1 + 1, o5') :: (dx, dictOf (lexd w (1 + cnt text (ks 15)) fs pb a b7 c d e1 f) 4) :: (la, W.listOf #[.int (ks 15) t7] e7) :: (x, instObj 66 dx) :: (L + 1 + 1 + 1 + 1, o6) :: (L + 1 + 1 + 1 + 1 + 1 + 1 + 1, o3) :: (L + 1 + 1 + 1 + 1 + 1 + 1 + 1 + 1, o2) :: (L + 1 + 1 + 1 + 1 + 1 + 1 + 1 + 1 + 1, o1) :: Bs) X1 T1 B1 CH1 d6 (by with_reducible first | apply at0 | apply at1 | apply at2 | apply at3 | apply at4 | apply at5 | apply at6 | apply at7 | apply at8 | apply at9 | apply at10 | apply at11 | apply at12 | apply at13) d4 (by with_reducible first | apply at0 | apply at1 | apply at2 | apply at3 | apply at4 | apply at5 | apply at6 | apply at7 | apply at8 | apply at9 | apply at10 | apply at11 | apply at12 | apply at13) (by with_reducible first | apply at0 | apply at1 | apply at2 | apply at3 | apply at4 | apply at5 | apply at6 | apply at7 | apply at8 | apply at9 | apply at10 | apply at11 | apply at12 | apply at13) hpv10 (by decide) F10 (news_of_sub N10 (by repeat (first | with_reducible apply sub_nil | with_reducible apply sub_refl | with_reducible refine sub_cons (by with_reducible first | apply at0 | apply at1 | apply at2 | apply at3 | apply at4 | apply at5 | apply at6 | apply at7 | apply at8 | apply at9 | apply at10 | apply at11 | apply at12 | apply at13) ?_ | with_reducible refine sub_tail4 ?_ | with_reducible refine sub_tail ?_))) (by repeat (first | exact bpb | exact nes_nil | refine nes_cons (by (show @Ne Nat _ _; omega)) ?_)) (by repeat (first | exact hc6 | exact nes_nil | refine nes_cons (by (show @Ne Nat _ _; omega)) ?_)) (by omega) ?_
  intro h11 tk11 o4' tt11 pv11 e11 F11 N11 d4' hpv11
  have hpv11' : pv11 = [] := by cases hpv11; rfl
  subst hpv11'
  -- best
  refine s12 (R := (pb, W.listOf ([] : List Value).toArray e11) :: (L + 1 + 1 + 1 + 1 + 1 + 1, o4') :: (Dd, od') :: (L + 1 + 1 + 1 + 1 + 1, o5') :: (dx, dictOf (lexd w (1 + cnt text (ks 15)) fs pb a b7 c d e1 f) 4) :: (la, W.listOf #[.int (ks 15) t7] e7) :: (x, instObj 66 dx) :: (L + 1 + 1 + 1 + 1, o6) :: (L + 1 + 1 + 1 + 1 + 1 + 1 + 1 + 1, o2) :: (L + 1 + 1 + 1 + 1 + 1 + 1 + 1 + 1 + 1, o1) :: Bs) X1 T1 B1 CH1 d8 (by first | with_reducible exact m8 | with_reducible first | apply at0 | apply at1 | apply at2 | apply at3 | apply at4 | apply at5 | apply at6 | apply at7 | apply at8 | apply at9 | apply at10 | apply at11 | apply at12 | apply at13 | (repeat (first | with_reducible exact m8 | with_reducible refine at1t ?_))) d4' (by with_reducible first | apply at0 | apply at1 | apply at2 | apply at3 | apply at4 | apply at5 | apply at6 | apply at7 | apply at8 | apply at9 | apply at10 | apply at11 | apply at12 | apply at13) d3 (by first | with_reducible exact mw | with_reducible first | apply at0 | apply at1 | apply at2 | apply at3 | apply at4 | apply at5 | apply at6 | apply at7 | apply at8 | apply at9 | apply at10 | apply at11 | apply at12 | apply at13 | (repeat (first | with_reducible exact mw | with_reducible refine at1t ?_))) (by first | with_reducible exact ml | with_reducible first | apply at0 | apply at1 | apply at2 | apply at3 | apply at4 | apply at5 | apply at6 | apply at7 | apply at8 | apply at9 | apply at10 | apply at11 | apply at12 | apply at13 | (repeat (first | with_reducible exact ml | with_reducible refine at1t ?_))) hm10 hzs hll hws ht0m hinjW F11 (news_of_sub N11 (by repeat (first | with_reducible apply sub_nil | with_reducible apply sub_refl | with_reducible refine sub_cons (by with_reducible first | apply at0 | apply at1 | apply at2 | apply at3 | apply at4 | apply at5 | apply at6 | apply at7 | apply at8 | apply at9 | apply at10 | apply at11 | apply at12 | apply at13) ?_ | with_reducible refine sub_tail4 ?_ | with_reducible refine sub_tail ?_))) (by repeat (first | exact hc7 | exact nes_nil | refine nes_cons (by (show @Ne Nat _ _; omega)) ?_)) ?_
  intro h12 tk12 o3' tb12 F12 N12 d3'
  -- signs
  refine s13 (R := (pb, W.listOf ([] : List Value).toArray e11) :: (L + 1 + 1 + 1 + 1 + 1 + 1 + 1, o3') :: (L + 1 + 1 + 1 + 1 + 1 + 1, o4') :: (Dd, od') :: (L + 1 + 1 + 1 + 1 + 1, o5') :: (dx, dictOf (lexd w (1 + cnt text (ks 15)) fs pb a b7 c d e1 f) 4) :: (la, W.listOf #[.int (ks 15) t7] e7) :: (x, instObj 66 dx) :: (L + 1 + 1 + 1 + 1, o6) :: (L + 1 + 1 + 1 + 1 + 1 + 1 + 1 + 1 + 1, o1) :: Bs) X1 T1 B1 CH1 d8 (by first | with_reducible exact m8 | with_reducible first | apply at0 | apply at1 | apply at2 | apply at3 | apply at4 | apply at5 | apply at6 | apply at7 | apply at8 | apply at9 | apply at10 | apply at11 | apply at12 | apply at13 | (repeat (first | with_reducible exact m8 | with_reducible refine at1t ?_))) d4' (by with_reducible first | apply at0 | apply at1 | apply at2 | apply at3 | apply at4 | apply at5 | apply at6 | apply at7 | apply at8 | apply at9 | apply at10 | apply at11 | apply at12 | apply at13) d2 (by first | with_reducible exact mw | with_reducible first | apply at0 | apply at1 | apply at2 | apply at3 | apply at4 | apply at5 | apply at6 | apply at7 | apply at8 | apply at9 | apply at10 | apply at11 | apply at12 | apply at13 | (repeat (first | with_reducible exact mw | with_reducible refine at1t ?_))) hll hws (fun l hl => word_coll (hlb l hl) (hlb t0 ht0m)) F12 (news_of_sub N12 (by repeat (first | with_reducible apply sub_nil | with_reducible apply sub_refl | with_reducible refine sub_cons (by with_reducible first | apply at0 | apply at1 | apply at2 | apply at3 | apply at4 | apply at5 | apply at6 | apply at7 | apply at8 | apply at9 | apply at10 | apply at11 | apply at12 | apply at13) ?_ | with_reducible refine sub_tail4 ?_ | with_reducible refine sub_tail ?_))) (by repeat (first | exact hc8 | exact nes_nil | refine nes_cons (by (show @Ne Nat _ _; omega)) ?_)) ?_
  intro h13 tk13 o2' Dsg sg e13 F13 N13 d2' hsg hRs hcs
  -- the signs are right
  refine s14 (R := (Dsg, W.listOf sg.toArray e13) :: (L + 1 + 1 + 1 + 1 + 1 + 1 + 1 + 1, o2') :: (pb, W.listOf ([] : List Value).toArray e11) :: (L + 1 + 1 + 1 + 1 + 1 + 1 + 1, o3') :: (L + 1 + 1 + 1 + 1 + 1 + 1, o4') :: (Dd, od') :: (L + 1 + 1 + 1 + 1 + 1, o5') :: (dx, dictOf (lexd w (1 + cnt text (ks 15)) fs pb a b7 c d e1 f) 4) :: (la, W.listOf #[.int (ks 15) t7] e7) :: (x, instObj 66 dx) :: (L + 1 + 1 + 1 + 1, o6) :: (L + 1 + 1 + 1 + 1 + 1 + 1 + 1 + 1 + 1, o1) :: Bs) X1 T1 B1 CH1 d3' (by with_reducible first | apply at0 | apply at1 | apply at2 | apply at3 | apply at4 | apply at5 | apply at6 | apply at7 | apply at8 | apply at9 | apply at10 | apply at11 | apply at12 | apply at13) d2' (by with_reducible first | apply at0 | apply at1 | apply at2 | apply at3 | apply at4 | apply at5 | apply at6 | apply at7 | apply at8 | apply at9 | apply at10 | apply at11 | apply at12 | apply at13) (by with_reducible first | apply at0 | apply at1 | apply at2 | apply at3 | apply at4 | apply at5 | apply at6 | apply at7 | apply at8 | apply at9 | apply at10 | apply at11 | apply at12 | apply at13) (by first | with_reducible exact ml | with_reducible first | apply at0 | apply at1 | apply at2 | apply at3 | apply at4 | apply at5 | apply at6 | apply at7 | apply at8 | apply at9 | apply at10 | apply at11 | apply at12 | apply at13 | (repeat (first | with_reducible exact ml | with_reducible refine at1t ?_))) hm10 hzs hll hsg F13 N13 ?_
  intro h14 tk14 F14 N14
  have spb : @Ne Nat pb Dsg := hRs _ (by with_reducible first | apply at0 | apply at1 | apply at2 | apply at3 | apply at4 | apply at5 | apply at6 | apply at7 | apply at8 | apply at9 | apply at10 | apply at11 | apply at12 | apply at13)
  have sdx : @Ne Nat dx Dsg := hRs (dx, dictOf (lexd w (1 + cnt text (ks 15)) fs pb a b7 c d e1 f) 4) (by with_reducible first | apply at0 | apply at1 | apply at2 | apply at3 | apply at4 | apply at5 | apply at6 | apply at7 | apply at8 | apply at9 | apply at10 | apply at11 | apply at12 | apply at13)
  have sla : @Ne Nat la Dsg := hRs (la, W.listOf #[.int (ks 15) t7] e7) (by with_reducible first | apply at0 | apply at1 | apply at2 | apply at3 | apply at4 | apply at5 | apply at6 | apply at7 | apply at8 | apply at9 | apply at10 | apply at11 | apply at12 | apply at13)
  have s9' : @Ne Nat (L + 1 + 1 + 1 + 1 + 1 + 1 + 1 + 1 + 1) Dsg := hRs (L + 1 + 1 + 1 + 1 + 1 + 1 + 1 + 1 + 1, o1) (by with_reducible first | apply at0 | apply at1 | apply at2 | apply at3 | apply at4 | apply at5 | apply at6 | apply at7 | apply at8 | apply at9 | apply at10 | apply at11 | apply at12 | apply at13)
  have N14' : News h₀ L h14 ((pb, W.listOf #[] e11) :: (dx, dictOf (lexd w (1 + cnt text (ks 15)) fs pb a b7 c d e1 f) 4) :: (la, W.listOf #[.int (ks 15) t7] e7) :: (Dsg, W.listOf sg.toArray e13) :: (L + 1 + 1 + 1 + 1 + 1 + 1 + 1 + 1, o2') :: (L + 1 + 1 + 1 + 1 + 1 + 1 + 1, o3') :: (L + 1 + 1 + 1 + 1 + 1 + 1, o4') :: (Dd, od') :: (L + 1 + 1 + 1 + 1 + 1, o5') :: (x, instObj 66 dx) :: (L + 1 + 1 + 1 + 1, o6) :: (L + 1 + 1 + 1 + 1 + 1 + 1 + 1 + 1 + 1, o1) :: Bs) := by
    have e0 : ([] : List Value).toArray = #[] := rfl
    rw [e0] at N14
    exact news_of_sub N14 (by repeat (first | with_reducible apply sub_nil | with_reducible apply sub_refl | with_reducible refine sub_cons (by with_reducible first | apply at0 | apply at1 | apply at2 | apply at3 | apply at4 | apply at5 | apply at6 | apply at7 | apply at8 | apply at9 | apply at10 | apply at11 | apply at12 | apply at13) ?_ | with_reducible refine sub_tail4 ?_ | with_reducible refine sub_tail ?_))
  -- the full stop and the end
  refine s15 (n2 := 1) (R := (Dsg, W.listOf sg.toArray e13) :: (L + 1 + 1 + 1 + 1 + 1 + 1 + 1 + 1, o2') :: (L + 1 + 1 + 1 + 1 + 1 + 1 + 1, o3') :: (L + 1 + 1 + 1 + 1 + 1 + 1, o4') :: (Dd, od') :: (L + 1 + 1 + 1 + 1 + 1, o5') :: (x, instObj 66 dx) :: (L + 1 + 1 + 1 + 1, o6) :: (L + 1 + 1 + 1 + 1 + 1 + 1 + 1 + 1 + 1, o1) :: Bs) X1 T1 B1 CH1 d6 (by with_reducible first | apply at0 | apply at1 | apply at2 | apply at3 | apply at4 | apply at5 | apply at6 | apply at7 | apply at8 | apply at9 | apply at10 | apply at11 | apply at12 | apply at13) (by with_reducible first | apply at0 | apply at1 | apply at2 | apply at3 | apply at4 | apply at5 | apply at6 | apply at7 | apply at8 | apply at9 | apply at10 | apply at11 | apply at12 | apply at13) (hS.mono fun q hq => (by first | with_reducible exact hq | with_reducible first | apply at0 | apply at1 | apply at2 | apply at3 | apply at4 | apply at5 | apply at6 | apply at7 | apply at8 | apply at9 | apply at10 | apply at11 | apply at12 | apply at13 | (repeat (first | with_reducible exact hq | with_reducible refine at1t ?_)))) hmt10 hx1 hx2 hend htl F14 N14' (by repeat (first | exact bpb | exact nes_nil | refine nes_cons (by (show @Ne Nat _ _; omega)) ?_)) (by repeat (first | exact bdx | exact nes_nil | refine nes_cons (by (show @Ne Nat _ _; omega)) ?_)) (by repeat (first | exact hnl | exact nes_nil | refine nes_cons (by (show @Ne Nat _ _; omega)) ?_)) (by omega) (by omega) (by omega) ?_
  intro h15 tk15 F15 N15
  -- spots
  refine s16 (R := (Dsg, W.listOf sg.toArray e13) :: (L + 1 + 1 + 1 + 1 + 1 + 1 + 1 + 1, o2') :: (L + 1 + 1 + 1 + 1 + 1 + 1 + 1, o3') :: (L + 1 + 1 + 1 + 1 + 1 + 1, o4') :: (Dd, od') :: (L + 1 + 1 + 1 + 1 + 1, o5') :: (x, instObj 66 dx) :: (L + 1 + 1 + 1 + 1, o6) :: Bs) X1 T1 B1 CH1 d1 F15 (news_of_sub N15 (by repeat (first | with_reducible apply sub_nil | with_reducible apply sub_refl | with_reducible refine sub_cons (by with_reducible first | apply at0 | apply at1 | apply at2 | apply at3 | apply at4 | apply at5 | apply at6 | apply at7 | apply at8 | apply at9 | apply at10 | apply at11 | apply at12 | apply at13) ?_ | with_reducible refine sub_tail4 ?_ | with_reducible refine sub_tail ?_))) (by repeat (first | exact hc9 | exact nes_nil | refine nes_cons (by (show @Ne Nat _ _; omega)) ?_)) ?_
  intro h16 tk16 Dp sp o1' e16 F16 N16 d1' hsp hRp
  have hsp' : IntsAre sp spn := hsp
  have hlg : (ls.map fun l => cmpI l t0).length = 15 := by rw [List.length_map, hll]
  -- hills
  refine s17 (R := (Dp, W.listOf sp.toArray e16) :: (L + 1 + 1 + 1 + 1 + 1 + 1 + 1 + 1 + 1, o1') :: (Dsg, W.listOf sg.toArray e13) :: (L + 1 + 1 + 1 + 1 + 1 + 1 + 1 + 1, o2') :: (L + 1 + 1 + 1 + 1 + 1 + 1 + 1, o3') :: (L + 1 + 1 + 1 + 1 + 1 + 1, o4') :: (Dd, od') :: (L + 1 + 1 + 1 + 1 + 1, o5') :: (x, instObj 66 dx) :: (L + 1 + 1 + 1 + 1, o6) :: Bs) X1 T1 B1 CH1 d1' d2' (by with_reducible first | apply at0 | apply at1 | apply at2 | apply at3 | apply at4 | apply at5 | apply at6 | apply at7 | apply at8 | apply at9 | apply at10 | apply at11 | apply at12 | apply at13) (by with_reducible first | apply at0 | apply at1 | apply at2 | apply at3 | apply at4 | apply at5 | apply at6 | apply at7 | apply at8 | apply at9 | apply at10 | apply at11 | apply at12 | apply at13) (by with_reducible first | apply at0 | apply at1 | apply at2 | apply at3 | apply at4 | apply at5 | apply at6 | apply at7 | apply at8 | apply at9 | apply at10 | apply at11 | apply at12 | apply at13) (by with_reducible first | apply at0 | apply at1 | apply at2 | apply at3 | apply at4 | apply at5 | apply at6 | apply at7 | apply at8 | apply at9 | apply at10 | apply at11 | apply at12 | apply at13) hsg hsp' hlg rfl F16 N16 ?_
  intro h17 tk17 mm17 Dh hs17 e17 F17 ag17 hmh N17 hh17 hRh
  -- waters
  refine s18 (R := (Dh, W.listOf hs17.toArray e17) :: (Dp, W.listOf sp.toArray e16) :: (L + 1 + 1 + 1 + 1 + 1 + 1 + 1 + 1 + 1, o1') :: (Dsg, W.listOf sg.toArray e13) :: (L + 1 + 1 + 1 + 1 + 1 + 1 + 1 + 1, o2') :: (L + 1 + 1 + 1 + 1 + 1 + 1 + 1, o3') :: (L + 1 + 1 + 1 + 1 + 1 + 1, o4') :: (Dd, od') :: (L + 1 + 1 + 1 + 1 + 1, o5') :: (x, instObj 66 dx) :: (L + 1 + 1 + 1 + 1, o6) :: Bs) X1 T1 B1 CH1 d1' d2' (by with_reducible first | apply at0 | apply at1 | apply at2 | apply at3 | apply at4 | apply at5 | apply at6 | apply at7 | apply at8 | apply at9 | apply at10 | apply at11 | apply at12 | apply at13) (by with_reducible first | apply at0 | apply at1 | apply at2 | apply at3 | apply at4 | apply at5 | apply at6 | apply at7 | apply at8 | apply at9 | apply at10 | apply at11 | apply at12 | apply at13) (by with_reducible first | apply at0 | apply at1 | apply at2 | apply at3 | apply at4 | apply at5 | apply at6 | apply at7 | apply at8 | apply at9 | apply at10 | apply at11 | apply at12 | apply at13) (by with_reducible first | apply at0 | apply at1 | apply at2 | apply at3 | apply at4 | apply at5 | apply at6 | apply at7 | apply at8 | apply at9 | apply at10 | apply at11 | apply at12 | apply at13) hsg hsp' hlg rfl F17 N17 ?_
  intro h18 tk18 mm18 Dv vs18 e18 F18 ag18 hmv N18 hv18 hRv
  have hne : @Ne Nat Dh Dv := hRv _ (by with_reducible first | apply at0 | apply at1 | apply at2 | apply at3 | apply at4 | apply at5 | apply at6 | apply at7 | apply at8 | apply at9 | apply at10 | apply at11 | apply at12 | apply at13)
  obtain ⟨⟨CH, sCH, iCH⟩, ⟨CV, sCV, iCV⟩⟩ := y_law hll ht0
  refine s19 (rest := []) (eh := e17) (ev := e18) (R := Bs) X1 T1 B1 CH1 ((ag18 _ (by decide)).trans hmh) hmv hh17 hv18 (pick_nodup _ _) (pick_len _ _) sCH iCH (pick_nodup _ _) (pick_len _ _) sCV iCV F18 (news_of_sub N18 (by repeat (first | with_reducible apply sub_nil | with_reducible apply sub_refl | with_reducible refine sub_cons (by with_reducible first | apply at0 | apply at1 | apply at2 | apply at3 | apply at4 | apply at5 | apply at6 | apply at7 | apply at8 | apply at9 | apply at10 | apply at11 | apply at12 | apply at13) ?_ | with_reducible refine sub_tail4 ?_ | with_reducible refine sub_tail ?_))) hne (fun q hq => hRh q (by first | with_reducible exact hq | with_reducible first | apply at0 | apply at1 | apply at2 | apply at3 | apply at4 | apply at5 | apply at6 | apply at7 | apply at8 | apply at9 | apply at10 | apply at11 | apply at12 | apply at13 | (repeat (first | with_reducible exact hq | with_reducible refine at1t ?_)))) (fun q hq => hRv q (by first | with_reducible exact hq | with_reducible first | apply at0 | apply at1 | apply at2 | apply at3 | apply at4 | apply at5 | apply at6 | apply at7 | apply at8 | apply at9 | apply at10 | apply at11 | apply at12 | apply at13 | (repeat (first | with_reducible exact hq | with_reducible refine at1t ?_)))) ?_
  intro h19 tk19 F19 N19
  exact hk h19 tk19 _ F19 N19

end Mine
end partBody

/- the part BodyA -/
section
open PySem PySem.W PySem.Calls PyProof.Rows PySem.Spec
namespace Mine
theorem fresh_BodyA (prog : Program) (w : World) (A : Around) (env : Env) (s : Shared) (Q : Flow → Shared → Prop) (E : Value → Shared → Prop) (h : Q .next s) :
    wpAny (model prog w) A (execs [] env) Q E s := by
  w_top off
  walk1
  exact h
end Mine
end
section partBodyA
open PySem PySem.W PySem.Calls PyProof.Rows PySem.Spec
set_option maxHeartbeats 1600000
namespace Mine
open K
theorem gap_ws : ∀ n, ∀ c ∈ gapL.getD n [], isWs c = true
  | 0 => by decide
  | 1 => by decide
  | 2 => by decide
  | 3 => by decide
  | 4 => by decide
  | _ + 5 => by intro c hc; cases hc
theorem bodyA {s : Shared}
    (X1 : (_root_.Mine.hd.heap_1 w.params).In h₀) (T1 : Top p loose mean mg mb h₀) (B1 : Below callerA h₀ [] h₀) (CH1 : CodeHd h₀ 88 84)
    (ns : List Int) {sl : Addr} {vs : List Value} (hl : h₀.IsList sl vs.toArray) (hi : IntsAre vs ns) (hlen : ns.length ≤ 63) {mm : Str → Option Value} (hms : mm (Str.ofString "script") = some (.ref sl))
    {o1 o2 o3 o4 o5 o6 o7 o8 o9 : Obj} (d1 : o1.data = .cell none) (d2 : o2.data = .cell none) (d3 : o3.data = .cell none) (d4 : o4.data = .cell none) (d5 : o5.data = .cell none) (d6 : o6.data = .cell none) (d7 : o7.data = .cell none) (d8 : o8.data = .cell none) (d9 : o9.data = .cell none)
    (F : Fr h₀ L s.heap mm) (N : News h₀ L s.heap [(L + 1 + 1 + 1 + 1 + 1 + 1 + 1 + 1 + 1, o1), (L + 1 + 1 + 1 + 1 + 1 + 1 + 1 + 1, o2), (L + 1 + 1 + 1 + 1 + 1 + 1 + 1, o3), (L + 1 + 1 + 1 + 1 + 1 + 1, o4), (L + 1 + 1 + 1 + 1 + 1, o5), (L + 1 + 1 + 1 + 1, o6), (L + 1 + 1 + 1, o7), (L + 1 + 1, o8), (L + 1, o9), (84, tabObj #[])])
    (l0 : @LT.lt Nat _ 84 L)
    (hk : ∀ h' tk' mm', Fr h₀ L h' mm' → (∃ ps, h'.get? 84 = some (tabObj ps)) → Q (.ret (.bool true)) { heap := h', gens := s.gens, drawn := s.drawn, toks := tk', os := s.os }) :
    wpAny (model PySem.Challenge.rw_kl0066_01.row.prog w) (callerA.deeper (lawEnv L fa cd)) (execs (st0 :: st1 :: st2 :: st3 :: st4 :: st5 :: st6 :: st7 :: st8 :: st9 :: st10 :: st11 :: st12 :: st13 :: st14 :: st15 :: st16 :: st17 :: st18 :: st19 :: []) (lawEnv L fa cd)) Q (fun _ _ => False) s := by
  have nil_ne : ∀ (X : Nat) (q : Addr × Obj), q ∈ ([] : List (Addr × Obj)) → @Ne Nat q.1 X := fun X q hq => nomatch hq
  -- cells
  refine s0 (rest0 := [(L + 1 + 1, o8), (L + 1 + 1 + 1, o7), (L + 1 + 1 + 1 + 1, o6), (L + 1 + 1 + 1 + 1 + 1, o5), (L + 1 + 1 + 1 + 1 + 1 + 1, o4), (L + 1 + 1 + 1 + 1 + 1 + 1 + 1, o3), (L + 1 + 1 + 1 + 1 + 1 + 1 + 1 + 1, o2), (L + 1 + 1 + 1 + 1 + 1 + 1 + 1 + 1 + 1, o1), (84, tabObj #[])]) X1 T1 B1 CH1 d9 F (news_of_sub N (by repeat (first | with_reducible apply sub_nil | with_reducible apply sub_refl | with_reducible refine sub_cons (by with_reducible first | apply at0 | apply at1 | apply at2 | apply at3 | apply at4 | apply at5 | apply at6 | apply at7 | apply at8 | apply at9 | apply at10 | apply at11 | apply at12 | apply at13) ?_ | with_reducible refine sub_tail4 ?_ | with_reducible refine sub_tail ?_))) (by repeat (first | exact nil_ne _ | exact nes_nil | refine nes_cons (by (show @Ne Nat _ _; omega)) ?_)) ?_
  intro h0 tk0 Dc ys o9' F0 N0 d9' hys0 hc1 hRc
  obtain ⟨cs0, hys0, hcl0⟩ := hys0
  -- the script is added
  refine s1 (rest0 := [(L + 1 + 1, o8), (L + 1 + 1 + 1, o7), (L + 1 + 1 + 1 + 1, o6), (L + 1 + 1 + 1 + 1 + 1, o5), (L + 1 + 1 + 1 + 1 + 1 + 1, o4), (L + 1 + 1 + 1 + 1 + 1 + 1 + 1, o3), (L + 1 + 1 + 1 + 1 + 1 + 1 + 1 + 1, o2), (L + 1 + 1 + 1 + 1 + 1 + 1 + 1 + 1 + 1, o1), (84, tabObj #[])]) X1 T1 B1 CH1 d9' hms hl hi hlen hys0 hcl0 F0 N0 hRc hc1 ?_
  intro h1 tk1 mm1 ys1 ec F1 ag1 N1 hys1
  obtain ⟨cs, hys, hcl⟩ := hys1
  -- levels
  refine s2 (rest0 := [(L + 1 + 1, o8), (L + 1 + 1 + 1, o7), (L + 1 + 1 + 1 + 1, o6), (L + 1 + 1 + 1 + 1 + 1, o5), (L + 1 + 1 + 1 + 1 + 1 + 1, o4), (L + 1 + 1 + 1 + 1 + 1 + 1 + 1, o3), (L + 1 + 1 + 1 + 1 + 1 + 1 + 1 + 1, o2), (L + 1 + 1 + 1 + 1 + 1 + 1 + 1 + 1 + 1, o1), (84, tabObj #[])]) X1 T1 B1 CH1 d9' hys hcl F1 N1 hRc hc1 ?_
  intro h2 tk2 mm2 Dl zs ez F2 ag2 hml N2 hzs hcl2 hl1 hRl
  have hll : (cs.map fun a => a.fmod 585).length = 15 := by rw [List.length_map, hcl]
  have hlb : ∀ l ∈ cs.map fun a => a.fmod 585, 0 ≤ l ∧ l < 585 := by
    intro l hl
    obtain ⟨a, _, rfl⟩ := List.mem_map.mp hl
    exact ⟨Int.fmod_nonneg_of_pos _ (by decide), Int.fmod_lt_of_pos _ (by decide)⟩
  generalize (cs.map fun a => a.fmod 585) = ls at *
  have cl2 : @Ne Nat (L + 1 + 1) Dl := hRl (L + 1 + 1, o8) (by with_reducible first | apply at0 | apply at1 | apply at2 | apply at3 | apply at4 | apply at5 | apply at6 | apply at7 | apply at8 | apply at9 | apply at10 | apply at11 | apply at12 | apply at13)
  have cl3 : @Ne Nat (L + 1 + 1 + 1) Dl := hRl (L + 1 + 1 + 1, o7) (by with_reducible first | apply at0 | apply at1 | apply at2 | apply at3 | apply at4 | apply at5 | apply at6 | apply at7 | apply at8 | apply at9 | apply at10 | apply at11 | apply at12 | apply at13)
  have cl4 : @Ne Nat (L + 1 + 1 + 1 + 1) Dl := hRl (L + 1 + 1 + 1 + 1, o6) (by with_reducible first | apply at0 | apply at1 | apply at2 | apply at3 | apply at4 | apply at5 | apply at6 | apply at7 | apply at8 | apply at9 | apply at10 | apply at11 | apply at12 | apply at13)
  have cl5 : @Ne Nat (L + 1 + 1 + 1 + 1 + 1) Dl := hRl (L + 1 + 1 + 1 + 1 + 1, o5) (by with_reducible first | apply at0 | apply at1 | apply at2 | apply at3 | apply at4 | apply at5 | apply at6 | apply at7 | apply at8 | apply at9 | apply at10 | apply at11 | apply at12 | apply at13)
  have cl6 : @Ne Nat (L + 1 + 1 + 1 + 1 + 1 + 1) Dl := hRl (L + 1 + 1 + 1 + 1 + 1 + 1, o4) (by with_reducible first | apply at0 | apply at1 | apply at2 | apply at3 | apply at4 | apply at5 | apply at6 | apply at7 | apply at8 | apply at9 | apply at10 | apply at11 | apply at12 | apply at13)
  have cl7 : @Ne Nat (L + 1 + 1 + 1 + 1 + 1 + 1 + 1) Dl := hRl (L + 1 + 1 + 1 + 1 + 1 + 1 + 1, o3) (by with_reducible first | apply at0 | apply at1 | apply at2 | apply at3 | apply at4 | apply at5 | apply at6 | apply at7 | apply at8 | apply at9 | apply at10 | apply at11 | apply at12 | apply at13)
  have cl8 : @Ne Nat (L + 1 + 1 + 1 + 1 + 1 + 1 + 1 + 1) Dl := hRl (L + 1 + 1 + 1 + 1 + 1 + 1 + 1 + 1, o2) (by with_reducible first | apply at0 | apply at1 | apply at2 | apply at3 | apply at4 | apply at5 | apply at6 | apply at7 | apply at8 | apply at9 | apply at10 | apply at11 | apply at12 | apply at13)
  have cl9 : @Ne Nat (L + 1 + 1 + 1 + 1 + 1 + 1 + 1 + 1 + 1) Dl := hRl (L + 1 + 1 + 1 + 1 + 1 + 1 + 1 + 1 + 1, o1) (by with_reducible first | apply at0 | apply at1 | apply at2 | apply at3 | apply at4 | apply at5 | apply at6 | apply at7 | apply at8 | apply at9 | apply at10 | apply at11 | apply at12 | apply at13)
  have cl84 : @Ne Nat 84 Dl := hRl (84, tabObj #[]) (by with_reducible first | apply at0 | apply at1 | apply at2 | apply at3 | apply at4 | apply at5 | apply at6 | apply at7 | apply at8 | apply at9 | apply at10 | apply at11 | apply at12 | apply at13)
  have cc2 : @Ne Nat (L + 1 + 1) Dc := hRc (L + 1 + 1, o8) (by with_reducible first | apply at0 | apply at1 | apply at2 | apply at3 | apply at4 | apply at5 | apply at6 | apply at7 | apply at8 | apply at9 | apply at10 | apply at11 | apply at12 | apply at13)
  have cc3 : @Ne Nat (L + 1 + 1 + 1) Dc := hRc (L + 1 + 1 + 1, o7) (by with_reducible first | apply at0 | apply at1 | apply at2 | apply at3 | apply at4 | apply at5 | apply at6 | apply at7 | apply at8 | apply at9 | apply at10 | apply at11 | apply at12 | apply at13)
  have cc4 : @Ne Nat (L + 1 + 1 + 1 + 1) Dc := hRc (L + 1 + 1 + 1 + 1, o6) (by with_reducible first | apply at0 | apply at1 | apply at2 | apply at3 | apply at4 | apply at5 | apply at6 | apply at7 | apply at8 | apply at9 | apply at10 | apply at11 | apply at12 | apply at13)
  have cc5 : @Ne Nat (L + 1 + 1 + 1 + 1 + 1) Dc := hRc (L + 1 + 1 + 1 + 1 + 1, o5) (by with_reducible first | apply at0 | apply at1 | apply at2 | apply at3 | apply at4 | apply at5 | apply at6 | apply at7 | apply at8 | apply at9 | apply at10 | apply at11 | apply at12 | apply at13)
  have cc6 : @Ne Nat (L + 1 + 1 + 1 + 1 + 1 + 1) Dc := hRc (L + 1 + 1 + 1 + 1 + 1 + 1, o4) (by with_reducible first | apply at0 | apply at1 | apply at2 | apply at3 | apply at4 | apply at5 | apply at6 | apply at7 | apply at8 | apply at9 | apply at10 | apply at11 | apply at12 | apply at13)
  have cc7 : @Ne Nat (L + 1 + 1 + 1 + 1 + 1 + 1 + 1) Dc := hRc (L + 1 + 1 + 1 + 1 + 1 + 1 + 1, o3) (by with_reducible first | apply at0 | apply at1 | apply at2 | apply at3 | apply at4 | apply at5 | apply at6 | apply at7 | apply at8 | apply at9 | apply at10 | apply at11 | apply at12 | apply at13)
  have cc8 : @Ne Nat (L + 1 + 1 + 1 + 1 + 1 + 1 + 1 + 1) Dc := hRc (L + 1 + 1 + 1 + 1 + 1 + 1 + 1 + 1, o2) (by with_reducible first | apply at0 | apply at1 | apply at2 | apply at3 | apply at4 | apply at5 | apply at6 | apply at7 | apply at8 | apply at9 | apply at10 | apply at11 | apply at12 | apply at13)
  have cc9 : @Ne Nat (L + 1 + 1 + 1 + 1 + 1 + 1 + 1 + 1 + 1) Dc := hRc (L + 1 + 1 + 1 + 1 + 1 + 1 + 1 + 1 + 1, o1) (by with_reducible first | apply at0 | apply at1 | apply at2 | apply at3 | apply at4 | apply at5 | apply at6 | apply at7 | apply at8 | apply at9 | apply at10 | apply at11 | apply at12 | apply at13)
  have cc84 : @Ne Nat 84 Dc := hRc (84, tabObj #[]) (by with_reducible first | apply at0 | apply at1 | apply at2 | apply at3 | apply at4 | apply at5 | apply at6 | apply at7 | apply at8 | apply at9 | apply at10 | apply at11 | apply at12 | apply at13)
  -- words
  refine s3 (rest0 := [(Dc, W.listOf ys1.toArray ec), (L + 1, o9'), (L + 1 + 1 + 1, o7), (L + 1 + 1 + 1 + 1, o6), (L + 1 + 1 + 1 + 1 + 1, o5), (L + 1 + 1 + 1 + 1 + 1 + 1, o4), (L + 1 + 1 + 1 + 1 + 1 + 1 + 1, o3), (L + 1 + 1 + 1 + 1 + 1 + 1 + 1 + 1, o2), (L + 1 + 1 + 1 + 1 + 1 + 1 + 1 + 1 + 1, o1), (84, tabObj #[])]) X1 T1 B1 CH1 d8 hml hzs hll hlb F2 (news_of_sub N2 (by repeat (first | with_reducible apply sub_nil | with_reducible apply sub_refl | with_reducible refine sub_cons (by with_reducible first | apply at0 | apply at1 | apply at2 | apply at3 | apply at4 | apply at5 | apply at6 | apply at7 | apply at8 | apply at9 | apply at10 | apply at11 | apply at12 | apply at13) ?_ | with_reducible refine sub_tail4 ?_ | with_reducible refine sub_tail ?_))) (by repeat (first | exact nil_ne _ | exact nes_nil | refine nes_cons (by (show @Ne Nat _ _; omega)) ?_)) cl2 ?_
  intro h3 tk3 Dw ws o8' ew F3 N3 d8' hws cw2 clw hRw
  have cw1 : @Ne Nat (L + 1) Dw := hRw (L + 1, o9') (by with_reducible first | apply at0 | apply at1 | apply at2 | apply at3 | apply at4 | apply at5 | apply at6 | apply at7 | apply at8 | apply at9 | apply at10 | apply at11 | apply at12 | apply at13)
  have cw3 : @Ne Nat (L + 1 + 1 + 1) Dw := hRw (L + 1 + 1 + 1, o7) (by with_reducible first | apply at0 | apply at1 | apply at2 | apply at3 | apply at4 | apply at5 | apply at6 | apply at7 | apply at8 | apply at9 | apply at10 | apply at11 | apply at12 | apply at13)
  have cw4 : @Ne Nat (L + 1 + 1 + 1 + 1) Dw := hRw (L + 1 + 1 + 1 + 1, o6) (by with_reducible first | apply at0 | apply at1 | apply at2 | apply at3 | apply at4 | apply at5 | apply at6 | apply at7 | apply at8 | apply at9 | apply at10 | apply at11 | apply at12 | apply at13)
  have cw5 : @Ne Nat (L + 1 + 1 + 1 + 1 + 1) Dw := hRw (L + 1 + 1 + 1 + 1 + 1, o5) (by with_reducible first | apply at0 | apply at1 | apply at2 | apply at3 | apply at4 | apply at5 | apply at6 | apply at7 | apply at8 | apply at9 | apply at10 | apply at11 | apply at12 | apply at13)
  have cw6 : @Ne Nat (L + 1 + 1 + 1 + 1 + 1 + 1) Dw := hRw (L + 1 + 1 + 1 + 1 + 1 + 1, o4) (by with_reducible first | apply at0 | apply at1 | apply at2 | apply at3 | apply at4 | apply at5 | apply at6 | apply at7 | apply at8 | apply at9 | apply at10 | apply at11 | apply at12 | apply at13)
  have cw7 : @Ne Nat (L + 1 + 1 + 1 + 1 + 1 + 1 + 1) Dw := hRw (L + 1 + 1 + 1 + 1 + 1 + 1 + 1, o3) (by with_reducible first | apply at0 | apply at1 | apply at2 | apply at3 | apply at4 | apply at5 | apply at6 | apply at7 | apply at8 | apply at9 | apply at10 | apply at11 | apply at12 | apply at13)
  have cw8 : @Ne Nat (L + 1 + 1 + 1 + 1 + 1 + 1 + 1 + 1) Dw := hRw (L + 1 + 1 + 1 + 1 + 1 + 1 + 1 + 1, o2) (by with_reducible first | apply at0 | apply at1 | apply at2 | apply at3 | apply at4 | apply at5 | apply at6 | apply at7 | apply at8 | apply at9 | apply at10 | apply at11 | apply at12 | apply at13)
  have cw9 : @Ne Nat (L + 1 + 1 + 1 + 1 + 1 + 1 + 1 + 1 + 1) Dw := hRw (L + 1 + 1 + 1 + 1 + 1 + 1 + 1 + 1 + 1, o1) (by with_reducible first | apply at0 | apply at1 | apply at2 | apply at3 | apply at4 | apply at5 | apply at6 | apply at7 | apply at8 | apply at9 | apply at10 | apply at11 | apply at12 | apply at13)
  have cw84 : @Ne Nat 84 Dw := hRw (84, tabObj #[]) (by with_reducible first | apply at0 | apply at1 | apply at2 | apply at3 | apply at4 | apply at5 | apply at6 | apply at7 | apply at8 | apply at9 | apply at10 | apply at11 | apply at12 | apply at13)
  -- gaps
  refine s4 (rest0 := [(Dw, W.listOf ws.toArray ew), (L + 1 + 1, o8'), (Dl, W.listOf zs.toArray ez), (Dc, W.listOf ys1.toArray ec), (L + 1, o9'), (L + 1 + 1 + 1 + 1, o6), (L + 1 + 1 + 1 + 1 + 1, o5), (L + 1 + 1 + 1 + 1 + 1 + 1, o4), (L + 1 + 1 + 1 + 1 + 1 + 1 + 1, o3), (L + 1 + 1 + 1 + 1 + 1 + 1 + 1 + 1, o2), (L + 1 + 1 + 1 + 1 + 1 + 1 + 1 + 1 + 1, o1), (84, tabObj #[])]) X1 T1 B1 CH1 d7 F3 (news_of_sub N3 (by repeat (first | with_reducible apply sub_nil | with_reducible apply sub_refl | with_reducible refine sub_cons (by with_reducible first | apply at0 | apply at1 | apply at2 | apply at3 | apply at4 | apply at5 | apply at6 | apply at7 | apply at8 | apply at9 | apply at10 | apply at11 | apply at12 | apply at13) ?_ | with_reducible refine sub_tail4 ?_ | with_reducible refine sub_tail ?_))) (by repeat (first | exact nil_ne _ | exact nes_nil | refine nes_cons (by (show @Ne Nat _ _; omega)) ?_)) ?_
  intro h4 tk4 Dg gs o7' eg F4 N4 d7' hgs hg3 hRg
  have hg9 : @LT.lt Nat _ (L + 1 + 1 + 1 + 1 + 1 + 1 + 1 + 1 + 1) Dg := hRg (L + 1 + 1 + 1 + 1 + 1 + 1 + 1 + 1 + 1, o1) (by with_reducible first | apply at0 | apply at1 | apply at2 | apply at3 | apply at4 | apply at5 | apply at6 | apply at7 | apply at8 | apply at9 | apply at10 | apply at11 | apply at12 | apply at13)
  -- the text
  refine s5 (rest0 := [(Dl, W.listOf zs.toArray ez), (L + 1 + 1 + 1 + 1, o6), (L + 1 + 1 + 1 + 1 + 1, o5), (L + 1 + 1 + 1 + 1 + 1 + 1, o4), (L + 1 + 1 + 1 + 1 + 1 + 1 + 1, o3), (L + 1 + 1 + 1 + 1 + 1 + 1 + 1 + 1, o2), (L + 1 + 1 + 1 + 1 + 1 + 1 + 1 + 1 + 1, o1), (84, tabObj #[])]) X1 T1 B1 CH1 d9' d8' d7' hys hcl hll hlb hws hgs F4 (news_of_sub N4 (by repeat (first | with_reducible apply sub_nil | with_reducible apply sub_refl | with_reducible refine sub_cons (by with_reducible first | apply at0 | apply at1 | apply at2 | apply at3 | apply at4 | apply at5 | apply at6 | apply at7 | apply at8 | apply at9 | apply at10 | apply at11 | apply at12 | apply at13) ?_ | with_reducible refine sub_tail4 ?_ | with_reducible refine sub_tail ?_))) ?_
  intro h5 tk5 mm5 tt F5 ag5 hmt N5
  have hml5 : mm5 (Str.ofString "levels") = some (.ref Dl) := (ag5 _ (by decide)).trans hml
  have htlen : ((List.range 15).flatMap (txtL ls cs) ++ [46]).length ≤ 151 := by
    have := flat10 (txtL_len ls cs) (List.range 15)
    rw [List.length_range] at this
    rw [List.length_append, List.length_singleton]
    omega
  obtain ⟨text, htext⟩ : ∃ text, (List.range 15).flatMap (txtL ls cs) ++ [46] = text := ⟨_, rfl⟩
  rw [htext] at hmt htlen
  have hks := ks_step (w := fun k => wordL 3 (ls.getD k 0)) (way := fun k => (((cs.getD k 0).fdiv 585).fmod 4).toNat) (gp := fun k => gapL.getD (((cs.getD k 0).fdiv 2340).fmod 5).toNat []) (fun i => gap_ws _) text 15 htext.symm
  obtain ⟨n1, hx1, hx2, hend, hkl⟩ := ks_last (w := fun k => wordL 3 (ls.getD k 0)) (way := fun k => (((cs.getD k 0).fdiv 585).fmod 4).toNat) (gp := fun k => gapL.getD (((cs.getD k 0).fdiv 2340).fmod 5).toNat []) (fun i => gap_ws _) text 15 htext.symm
  -- the lexer
  refine s6 (rest0 := [(Dl, W.listOf zs.toArray ez), (Dc, W.listOf ys1.toArray ec), (Dw, W.listOf ws.toArray ew), (Dg, W.listOf gs.toArray eg), (L + 1, o9'), (L + 1 + 1, o8'), (L + 1 + 1 + 1, o7'), (L + 1 + 1 + 1 + 1 + 1, o5), (L + 1 + 1 + 1 + 1 + 1 + 1, o4), (L + 1 + 1 + 1 + 1 + 1 + 1 + 1, o3), (L + 1 + 1 + 1 + 1 + 1 + 1 + 1 + 1, o2), (L + 1 + 1 + 1 + 1 + 1 + 1 + 1 + 1 + 1, o1)]) X1 T1 B1 CH1 d6 text hmt (by rw [S_len, sizeLine_eq]; omega) F5 (news_of_sub N5 (by repeat (first | with_reducible apply sub_nil | with_reducible apply sub_refl | with_reducible refine sub_cons (by with_reducible first | apply at0 | apply at1 | apply at2 | apply at3 | apply at4 | apply at5 | apply at6 | apply at7 | apply at8 | apply at9 | apply at10 | apply at11 | apply at12 | apply at13) ?_ | with_reducible refine sub_tail4 ?_ | with_reducible refine sub_tail ?_))) (by repeat (first | exact nil_ne _ | exact nes_nil | refine nes_cons (by (show @Ne Nat _ _; omega)) ?_)) (by repeat (first | exact nil_ne _ | exact nes_nil | refine nes_cons (by (show @Ne Nat _ _; omega)) ?_)) l0 ?_
  intro h6 tk6 x dx pb fs la st a b c d e1 f t o6' ps F6 N6 d6' hS hladx hdxx hxpb h4la hltd hnel hne4 hstr hrla
  have hKR : ∀ q ∈ [(Dl, W.listOf zs.toArray ez), (Dc, W.listOf ys1.toArray ec), (Dw, W.listOf ws.toArray ew), (Dg, W.listOf gs.toArray eg), (L + 1, o9'), (L + 1 + 1, o8'), (L + 1 + 1 + 1, o7')], q ∈ [(Dl, W.listOf zs.toArray ez), (Dc, W.listOf ys1.toArray ec), (Dw, W.listOf ws.toArray ew), (Dg, W.listOf gs.toArray eg), (L + 1, o9'), (L + 1 + 1, o8'), (L + 1 + 1 + 1, o7'), (L + 1 + 1 + 1 + 1 + 1, o5), (L + 1 + 1 + 1 + 1 + 1 + 1, o4), (L + 1 + 1 + 1 + 1 + 1 + 1 + 1, o3), (L + 1 + 1 + 1 + 1 + 1 + 1 + 1 + 1, o2), (L + 1 + 1 + 1 + 1 + 1 + 1 + 1 + 1 + 1, o1)] := by
    repeat (first | with_reducible refine List.forall_mem_cons.mpr ⟨(by with_reducible first | apply at0 | apply at1 | apply at2 | apply at3 | apply at4 | apply at5 | apply at6 | apply at7 | apply at8 | apply at9 | apply at10 | apply at11 | apply at12 | apply at13), ?_⟩ | exact fun q hq => absurd hq (by simp))
  have hsub : ∀ q ∈ st ++ [(Dl, W.listOf zs.toArray ez), (Dc, W.listOf ys1.toArray ec), (Dw, W.listOf ws.toArray ew), (Dg, W.listOf gs.toArray eg), (L + 1, o9'), (L + 1 + 1, o8'), (L + 1 + 1 + 1, o7')], q ∈ st ++ [(Dl, W.listOf zs.toArray ez), (Dc, W.listOf ys1.toArray ec), (Dw, W.listOf ws.toArray ew), (Dg, W.listOf gs.toArray eg), (L + 1, o9'), (L + 1 + 1, o8'), (L + 1 + 1 + 1, o7'), (L + 1 + 1 + 1 + 1 + 1, o5), (L + 1 + 1 + 1 + 1 + 1 + 1, o4), (L + 1 + 1 + 1 + 1 + 1 + 1 + 1, o3), (L + 1 + 1 + 1 + 1 + 1 + 1 + 1 + 1, o2), (L + 1 + 1 + 1 + 1 + 1 + 1 + 1 + 1 + 1, o1)] := by
    intro q hq
    rcases List.mem_append.mp hq with hq | hq
    · exact List.mem_append_left _ hq
    · exact List.mem_append_right _ (hKR q hq)
  have hk5 : ∀ q ∈ [(Dl, W.listOf zs.toArray ez), (Dc, W.listOf ys1.toArray ec), (Dw, W.listOf ws.toArray ew), (Dg, W.listOf gs.toArray eg), (L + 1, o9'), (L + 1 + 1, o8'), (L + 1 + 1 + 1, o7')], @Ne Nat q.1 (L + 1 + 1 + 1 + 1 + 1) := (by repeat (first | exact nil_ne _ | exact nes_nil | refine nes_cons (by (show @Ne Nat _ _; omega)) ?_))
  have hb5 : ∀ q ∈ st ++ [(Dl, W.listOf zs.toArray ez), (Dc, W.listOf ys1.toArray ec), (Dw, W.listOf ws.toArray ew), (Dg, W.listOf gs.toArray eg), (L + 1, o9'), (L + 1 + 1, o8'), (L + 1 + 1 + 1, o7')], @Ne Nat q.1 (L + 1 + 1 + 1 + 1 + 1) := by
    intro q hq
    rcases List.mem_append.mp hq with hq | hq
    · exact Nat.ne_of_gt (hstr q hq (L + 1 + 1 + 1 + 1 + 1, o5) (by with_reducible first | apply at0 | apply at1 | apply at2 | apply at3 | apply at4 | apply at5 | apply at6 | apply at7 | apply at8 | apply at9 | apply at10 | apply at11 | apply at12 | apply at13))
    · exact hk5 q hq
  have hk6 : ∀ q ∈ [(Dl, W.listOf zs.toArray ez), (Dc, W.listOf ys1.toArray ec), (Dw, W.listOf ws.toArray ew), (Dg, W.listOf gs.toArray eg), (L + 1, o9'), (L + 1 + 1, o8'), (L + 1 + 1 + 1, o7')], @Ne Nat q.1 (L + 1 + 1 + 1 + 1 + 1 + 1) := (by repeat (first | exact nil_ne _ | exact nes_nil | refine nes_cons (by (show @Ne Nat _ _; omega)) ?_))
  have hb6 : ∀ q ∈ st ++ [(Dl, W.listOf zs.toArray ez), (Dc, W.listOf ys1.toArray ec), (Dw, W.listOf ws.toArray ew), (Dg, W.listOf gs.toArray eg), (L + 1, o9'), (L + 1 + 1, o8'), (L + 1 + 1 + 1, o7')], @Ne Nat q.1 (L + 1 + 1 + 1 + 1 + 1 + 1) := by
    intro q hq
    rcases List.mem_append.mp hq with hq | hq
    · exact Nat.ne_of_gt (hstr q hq (L + 1 + 1 + 1 + 1 + 1 + 1, o4) (by with_reducible first | apply at0 | apply at1 | apply at2 | apply at3 | apply at4 | apply at5 | apply at6 | apply at7 | apply at8 | apply at9 | apply at10 | apply at11 | apply at12 | apply at13))
    · exact hk6 q hq
  have hk7 : ∀ q ∈ [(Dl, W.listOf zs.toArray ez), (Dc, W.listOf ys1.toArray ec), (Dw, W.listOf ws.toArray ew), (Dg, W.listOf gs.toArray eg), (L + 1, o9'), (L + 1 + 1, o8'), (L + 1 + 1 + 1, o7')], @Ne Nat q.1 (L + 1 + 1 + 1 + 1 + 1 + 1 + 1) := (by repeat (first | exact nil_ne _ | exact nes_nil | refine nes_cons (by (show @Ne Nat _ _; omega)) ?_))
  have hb7 : ∀ q ∈ st ++ [(Dl, W.listOf zs.toArray ez), (Dc, W.listOf ys1.toArray ec), (Dw, W.listOf ws.toArray ew), (Dg, W.listOf gs.toArray eg), (L + 1, o9'), (L + 1 + 1, o8'), (L + 1 + 1 + 1, o7')], @Ne Nat q.1 (L + 1 + 1 + 1 + 1 + 1 + 1 + 1) := by
    intro q hq
    rcases List.mem_append.mp hq with hq | hq
    · exact Nat.ne_of_gt (hstr q hq (L + 1 + 1 + 1 + 1 + 1 + 1 + 1, o3) (by with_reducible first | apply at0 | apply at1 | apply at2 | apply at3 | apply at4 | apply at5 | apply at6 | apply at7 | apply at8 | apply at9 | apply at10 | apply at11 | apply at12 | apply at13))
    · exact hk7 q hq
  have hk8 : ∀ q ∈ [(Dl, W.listOf zs.toArray ez), (Dc, W.listOf ys1.toArray ec), (Dw, W.listOf ws.toArray ew), (Dg, W.listOf gs.toArray eg), (L + 1, o9'), (L + 1 + 1, o8'), (L + 1 + 1 + 1, o7')], @Ne Nat q.1 (L + 1 + 1 + 1 + 1 + 1 + 1 + 1 + 1) := (by repeat (first | exact nil_ne _ | exact nes_nil | refine nes_cons (by (show @Ne Nat _ _; omega)) ?_))
  have hb8 : ∀ q ∈ st ++ [(Dl, W.listOf zs.toArray ez), (Dc, W.listOf ys1.toArray ec), (Dw, W.listOf ws.toArray ew), (Dg, W.listOf gs.toArray eg), (L + 1, o9'), (L + 1 + 1, o8'), (L + 1 + 1 + 1, o7')], @Ne Nat q.1 (L + 1 + 1 + 1 + 1 + 1 + 1 + 1 + 1) := by
    intro q hq
    rcases List.mem_append.mp hq with hq | hq
    · exact Nat.ne_of_gt (hstr q hq (L + 1 + 1 + 1 + 1 + 1 + 1 + 1 + 1, o2) (by with_reducible first | apply at0 | apply at1 | apply at2 | apply at3 | apply at4 | apply at5 | apply at6 | apply at7 | apply at8 | apply at9 | apply at10 | apply at11 | apply at12 | apply at13))
    · exact hk8 q hq
  have hk9 : ∀ q ∈ [(Dl, W.listOf zs.toArray ez), (Dc, W.listOf ys1.toArray ec), (Dw, W.listOf ws.toArray ew), (Dg, W.listOf gs.toArray eg), (L + 1, o9'), (L + 1 + 1, o8'), (L + 1 + 1 + 1, o7')], @Ne Nat q.1 (L + 1 + 1 + 1 + 1 + 1 + 1 + 1 + 1 + 1) := (by repeat (first | exact nil_ne _ | exact nes_nil | refine nes_cons (by (show @Ne Nat _ _; omega)) ?_))
  have hb9 : ∀ q ∈ st ++ [(Dl, W.listOf zs.toArray ez), (Dc, W.listOf ys1.toArray ec), (Dw, W.listOf ws.toArray ew), (Dg, W.listOf gs.toArray eg), (L + 1, o9'), (L + 1 + 1, o8'), (L + 1 + 1 + 1, o7')], @Ne Nat q.1 (L + 1 + 1 + 1 + 1 + 1 + 1 + 1 + 1 + 1) := by
    intro q hq
    rcases List.mem_append.mp hq with hq | hq
    · exact Nat.ne_of_gt (hstr q hq (L + 1 + 1 + 1 + 1 + 1 + 1 + 1 + 1 + 1, o1) (by with_reducible first | apply at0 | apply at1 | apply at2 | apply at3 | apply at4 | apply at5 | apply at6 | apply at7 | apply at8 | apply at9 | apply at10 | apply at11 | apply at12 | apply at13))
    · exact hk9 q hq
  have h9la : @LT.lt Nat _ (L + 1 + 1 + 1 + 1 + 1 + 1 + 1 + 1 + 1) la := hrla (L + 1 + 1 + 1 + 1 + 1 + 1 + 1 + 1 + 1, o1) (by with_reducible first | apply at0 | apply at1 | apply at2 | apply at3 | apply at4 | apply at5 | apply at6 | apply at7 | apply at8 | apply at9 | apply at10 | apply at11 | apply at12 | apply at13)
  have N6' : News h₀ L h6 ((pb, W.listOf #[] 0) :: (dx, dictOf (lexd w 1 fs pb a b c d e1 f) 4) :: (la, W.listOf #[.int 0 t] 0) :: (x, instObj 66 dx) :: (L + 1 + 1 + 1 + 1, o6') :: (L + 1 + 1 + 1 + 1 + 1, o5) :: (L + 1 + 1 + 1 + 1 + 1 + 1, o4) :: (L + 1 + 1 + 1 + 1 + 1 + 1 + 1, o3) :: (L + 1 + 1 + 1 + 1 + 1 + 1 + 1 + 1, o2) :: (L + 1 + 1 + 1 + 1 + 1 + 1 + 1 + 1 + 1, o1) :: ((84, tabObj ps) :: (st ++ [(Dl, W.listOf zs.toArray ez), (Dc, W.listOf ys1.toArray ec), (Dw, W.listOf ws.toArray ew), (Dg, W.listOf gs.toArray eg), (L + 1, o9'), (L + 1 + 1, o8'), (L + 1 + 1 + 1, o7')]))) := by
    have hin : ∀ q ∈ st ++ [(Dl, W.listOf zs.toArray ez), (Dc, W.listOf ys1.toArray ec), (Dw, W.listOf ws.toArray ew), (Dg, W.listOf gs.toArray eg), (L + 1, o9'), (L + 1 + 1, o8'), (L + 1 + 1 + 1, o7'), (L + 1 + 1 + 1 + 1 + 1, o5), (L + 1 + 1 + 1 + 1 + 1 + 1, o4), (L + 1 + 1 + 1 + 1 + 1 + 1 + 1, o3), (L + 1 + 1 + 1 + 1 + 1 + 1 + 1 + 1, o2), (L + 1 + 1 + 1 + 1 + 1 + 1 + 1 + 1 + 1, o1)], q ∈ (pb, W.listOf #[] 0) :: (x, instObj 66 dx) :: (dx, dictOf (lexd w 1 fs pb a b c d e1 f) 4) :: (la, W.listOf #[.int 0 t] 0) :: (L + 1 + 1 + 1 + 1, o6') :: (84, tabObj ps) :: (st ++ [(Dl, W.listOf zs.toArray ez), (Dc, W.listOf ys1.toArray ec), (Dw, W.listOf ws.toArray ew), (Dg, W.listOf gs.toArray eg), (L + 1, o9'), (L + 1 + 1, o8'), (L + 1 + 1 + 1, o7'), (L + 1 + 1 + 1 + 1 + 1, o5), (L + 1 + 1 + 1 + 1 + 1 + 1, o4), (L + 1 + 1 + 1 + 1 + 1 + 1 + 1, o3), (L + 1 + 1 + 1 + 1 + 1 + 1 + 1 + 1, o2), (L + 1 + 1 + 1 + 1 + 1 + 1 + 1 + 1 + 1, o1)]) := fun q hq => (by first | with_reducible exact hq | with_reducible first | apply at0 | apply at1 | apply at2 | apply at3 | apply at4 | apply at5 | apply at6 | apply at7 | apply at8 | apply at9 | apply at10 | apply at11 | apply at12 | apply at13 | (repeat (first | with_reducible exact hq | with_reducible refine at1t ?_)))
    refine news_of_sub N6 ?_
    refine List.forall_mem_cons.mpr ⟨(by with_reducible first | apply at0 | apply at1 | apply at2 | apply at3 | apply at4 | apply at5 | apply at6 | apply at7 | apply at8 | apply at9 | apply at10 | apply at11 | apply at12 | apply at13), List.forall_mem_cons.mpr ⟨(by with_reducible first | apply at0 | apply at1 | apply at2 | apply at3 | apply at4 | apply at5 | apply at6 | apply at7 | apply at8 | apply at9 | apply at10 | apply at11 | apply at12 | apply at13), List.forall_mem_cons.mpr ⟨(by with_reducible first | apply at0 | apply at1 | apply at2 | apply at3 | apply at4 | apply at5 | apply at6 | apply at7 | apply at8 | apply at9 | apply at10 | apply at11 | apply at12 | apply at13), List.forall_mem_cons.mpr ⟨(by with_reducible first | apply at0 | apply at1 | apply at2 | apply at3 | apply at4 | apply at5 | apply at6 | apply at7 | apply at8 | apply at9 | apply at10 | apply at11 | apply at12 | apply at13), List.forall_mem_cons.mpr ⟨(by with_reducible first | apply at0 | apply at1 | apply at2 | apply at3 | apply at4 | apply at5 | apply at6 | apply at7 | apply at8 | apply at9 | apply at10 | apply at11 | apply at12 | apply at13), ?_⟩⟩⟩⟩⟩
    refine List.forall_mem_cons.mpr ⟨hin _ (List.mem_append_right _ (by with_reducible first | apply at0 | apply at1 | apply at2 | apply at3 | apply at4 | apply at5 | apply at6 | apply at7 | apply at8 | apply at9 | apply at10 | apply at11 | apply at12 | apply at13)), List.forall_mem_cons.mpr ⟨hin _ (List.mem_append_right _ (by with_reducible first | apply at0 | apply at1 | apply at2 | apply at3 | apply at4 | apply at5 | apply at6 | apply at7 | apply at8 | apply at9 | apply at10 | apply at11 | apply at12 | apply at13)), List.forall_mem_cons.mpr ⟨hin _ (List.mem_append_right _ (by with_reducible first | apply at0 | apply at1 | apply at2 | apply at3 | apply at4 | apply at5 | apply at6 | apply at7 | apply at8 | apply at9 | apply at10 | apply at11 | apply at12 | apply at13)), List.forall_mem_cons.mpr ⟨hin _ (List.mem_append_right _ (by with_reducible first | apply at0 | apply at1 | apply at2 | apply at3 | apply at4 | apply at5 | apply at6 | apply at7 | apply at8 | apply at9 | apply at10 | apply at11 | apply at12 | apply at13)), List.forall_mem_cons.mpr ⟨hin _ (List.mem_append_right _ (by with_reducible first | apply at0 | apply at1 | apply at2 | apply at3 | apply at4 | apply at5 | apply at6 | apply at7 | apply at8 | apply at9 | apply at10 | apply at11 | apply at12 | apply at13)), ?_⟩⟩⟩⟩⟩
    refine List.forall_mem_cons.mpr ⟨(by with_reducible first | apply at0 | apply at1 | apply at2 | apply at3 | apply at4 | apply at5 | apply at6 | apply at7 | apply at8 | apply at9 | apply at10 | apply at11 | apply at12 | apply at13), ?_⟩
    exact fun q hq => hin q (hsub q hq)
  exact bodyB X1 T1 B1 CH1 (ksN text) d8' d6' d5 d4 d3 d2 d1 (List.mem_cons_of_mem _ (List.mem_append_right _ (by with_reducible first | apply at0 | apply at1 | apply at2 | apply at3 | apply at4 | apply at5 | apply at6 | apply at7 | apply at8 | apply at9 | apply at10 | apply at11 | apply at12 | apply at13))) (List.mem_cons_of_mem _ (List.mem_append_right _ (by with_reducible first | apply at0 | apply at1 | apply at2 | apply at3 | apply at4 | apply at5 | apply at6 | apply at7 | apply at8 | apply at9 | apply at10 | apply at11 | apply at12 | apply at13))) (List.mem_cons_of_mem _ (List.mem_append_right _ (by with_reducible first | apply at0 | apply at1 | apply at2 | apply at3 | apply at4 | apply at5 | apply at6 | apply at7 | apply at8 | apply at9 | apply at10 | apply at11 | apply at12 | apply at13))) (hS.mono fun q hq => List.mem_cons_of_mem _ (List.mem_append_left _ hq))
    (List.forall_mem_cons.mpr ⟨by (show @LT.lt Nat _ _ _; omega), fun q hq => hltd q (hsub q hq)⟩) (List.forall_mem_cons.mpr ⟨by (show @Ne Nat _ _; omega), fun q hq => hnel q (hsub q hq)⟩) (List.forall_mem_cons.mpr ⟨by (show @Ne Nat _ _; omega), fun q hq => hne4 q (hsub q hq)⟩) (by repeat (first | exact hb5 | exact nes_nil | refine nes_cons (by (show @Ne Nat _ _; omega)) ?_)) (by repeat (first | exact hb6 | exact nes_nil | refine nes_cons (by (show @Ne Nat _ _; omega)) ?_)) (by repeat (first | exact hb7 | exact nes_nil | refine nes_cons (by (show @Ne Nat _ _; omega)) ?_)) (by repeat (first | exact hb8 | exact nes_nil | refine nes_cons (by (show @Ne Nat _ _; omega)) ?_)) (by repeat (first | exact hb9 | exact nes_nil | refine nes_cons (by (show @Ne Nat _ _; omega)) ?_)) h9la hladx hdxx hxpb hml5 hmt hzs hll hlb hws rfl
    (fun i hi => by
      obtain ⟨n, e1, e2, e3⟩ := hks i hi
      exact ⟨n, e1, e2, by omega⟩) hx1 hx2 hend (by omega) F6 N6' (fun h' tk' mm' FF NN => hk h' tk' mm' FF ⟨ps, (NN _ (List.mem_cons_self ..)).1⟩)
theorem bodyK : BodyG lv := lv_eq ▸ (fun s X1 T1 B1 CH1 ns sl vs hl hi hlen mm hms o1 o2 o3 o4 o5 o6 o7 o8 o9 d1 d2 d3 d4 d5 d6 d7 d8 d9 F N l0 hk =>
  bodyA X1 T1 B1 CH1 ns hl hi hlen hms d1 d2 d3 d4 d5 d6 d7 d8 d9 F N l0 hk : BodyG (w, p, loose, mean, mg, mb, h₀, L, fa, cd, Q))
theorem bodyT {w : World} {p : Program} {loose : List Str} {mean : ExcName → Option Value} {mg mb : Str → Option Value} {h₀ : Heap} {L fa : Addr} {cd : Value} {Q : Flow → Shared → Prop} {s : Shared}
    (X1 : (_root_.Mine.hd.heap_1 w.params).In h₀) (T1 : Top p loose mean mg mb h₀) (B1 : Below callerA h₀ [] h₀) (CH1 : CodeHd h₀ 88 84)
    (ns : List Int) {sl : Addr} {vs : List Value} (hl : h₀.IsList sl vs.toArray) (hi : IntsAre vs ns) (hlen : ns.length ≤ 63) {mm : Str → Option Value} (hms : mm (Str.ofString "script") = some (.ref sl))
    {o1 o2 o3 o4 o5 o6 o7 o8 o9 : Obj} (d1 : o1.data = .cell none) (d2 : o2.data = .cell none) (d3 : o3.data = .cell none) (d4 : o4.data = .cell none) (d5 : o5.data = .cell none) (d6 : o6.data = .cell none) (d7 : o7.data = .cell none) (d8 : o8.data = .cell none) (d9 : o9.data = .cell none)
    (F : Fr h₀ L s.heap mm) (N : News h₀ L s.heap [(L + 1 + 1 + 1 + 1 + 1 + 1 + 1 + 1 + 1, o1), (L + 1 + 1 + 1 + 1 + 1 + 1 + 1 + 1, o2), (L + 1 + 1 + 1 + 1 + 1 + 1 + 1, o3), (L + 1 + 1 + 1 + 1 + 1 + 1, o4), (L + 1 + 1 + 1 + 1 + 1, o5), (L + 1 + 1 + 1 + 1, o6), (L + 1 + 1 + 1, o7), (L + 1 + 1, o8), (L + 1, o9), (84, tabObj #[])])
    (l0 : @LT.lt Nat _ 84 L)
    (hk : ∀ h' tk' mm', Fr h₀ L h' mm' → (∃ ps, h'.get? 84 = some (tabObj ps)) → Q (.ret (.bool true)) { heap := h', gens := s.gens, drawn := s.drawn, toks := tk', os := s.os }) :
    wpAny (model PySem.Challenge.rw_kl0066_01.row.prog w) (callerA.deeper (lawEnv L fa cd)) (execs (st0 :: st1 :: st2 :: st3 :: st4 :: st5 :: st6 :: st7 :: st8 :: st9 :: st10 :: st11 :: st12 :: st13 :: st14 :: st15 :: st16 :: st17 :: st18 :: st19 :: []) (lawEnv L fa cd)) Q (fun _ _ => False) s :=
  lv_all bodyK (w, p, loose, mean, mg, mb, h₀, L, fa, cd, Q) s X1 T1 B1 CH1 ns sl vs hl hi hlen mm hms o1 o2 o3 o4 o5 o6 o7 o8 o9 d1 d2 d3 d4 d5 d6 d7 d8 d9 F N l0 hk

end Mine
end partBodyA

/- the part FTop -/
section
open PySem PySem.W PySem.Calls PyProof.Rows PySem.Spec
namespace Mine
theorem fresh_FTop (prog : Program) (w : World) (A : Around) (env : Env) (s : Shared) (Q : Flow → Shared → Prop) (E : Value → Shared → Prop) (h : Q .next s) :
    wpAny (model prog w) A (execs [] env) Q E s := by
  w_top off
  walk1
  exact h
end Mine
end
section partFTop
open PySem PySem.W PySem.Calls PyProof.Rows PySem.Spec
set_option maxHeartbeats 1600000
namespace Mine
theorem kc_nine {cm : Str → Option Value} {n₁ n₂ n₃ n₄ n₅ n₆ n₇ n₈ n₉ : Str} {c₁ c₂ c₃ c₄ c₅ c₆ c₇ c₈ c₉ : Addr} {cells : List (Addr × Obj)} (x : CellsAre cm [(n₁, c₁), (n₂, c₂), (n₃, c₃), (n₄, c₄), (n₅, c₅), (n₆, c₆), (n₇, c₇), (n₈, c₈), (n₉, c₉)] cells) :
    ∃ o₁ o₂ o₃ o₄ o₅ o₆ o₇ o₈ o₉, cells = [(c₁, o₁), (c₂, o₂), (c₃, o₃), (c₄, o₄), (c₅, o₅), (c₆, o₆), (c₇, o₇), (c₈, o₈), (c₉, o₉)] ∧ o₁.data = .cell (cm n₁) ∧ o₂.data = .cell (cm n₂) ∧ o₃.data = .cell (cm n₃) ∧ o₄.data = .cell (cm n₄) ∧ o₅.data = .cell (cm n₅) ∧ o₆.data = .cell (cm n₆) ∧ o₇.data = .cell (cm n₇) ∧ o₈.data = .cell (cm n₈) ∧ o₉.data = .cell (cm n₉) := by
  cases x with | cons h r => obtain ⟨o₂, o₃, o₄, o₅, o₆, o₇, o₈, o₉, rfl, h₂, h₃, h₄, h₅, h₆, h₇, h₈, h₉⟩ := kc_eight r; exact ⟨_, o₂, o₃, o₄, o₅, o₆, o₇, o₈, o₉, rfl, h, h₂, h₃, h₄, h₅, h₆, h₇, h₈, h₉⟩
theorem top : PySem.Challenge.rw_kl0066_01.Holds := _root_.Mine.hd (by
  k_fill
  intro w s₀ s₁ mg mb G Y fa o pm cd doc dV kV ho hd hcd hD hmg hg args vals as hpre hlay hrd hwl hlo
  have KX := km_in_of Y
  km_tabs Y
  have X := (Ground.X G).1
  have V := (Ground.X G).2
  refine Ground.open G ?_
  intro T B D TE TW
  try (refine guard_noD D (by decide +kernel) ?_; clear D)
  km_lay T hmg ho hd cd
  clear hmg
  wrow_args hpre hlay hrd hwl hlo
  all_goals (
    first | refine callC_kw (enter_call ?_) | refine enter_call ?_
    w_top on
    kn_posts)
  have he := Dflts.none hD rfl
  subst he
  have he := Dflts.noKw hD
  subst he
  refine call_cellsN (by decide) ho (fd_plain hd) (Top.nolimit T) hcd rfl (kinds_of (by kinds_ok)) (by decide) fun h₁ tk₁ cells F N0 X0 => ?_
  have hY := kc_nine X0
  obtain ⟨o1, o2, o3, o4, o5, o6, o7, o8, o9, hE, d1, d2, d3, d4, d5, d6, d7, d8, d9⟩ := hY
  subst hE
  clear X0 hd
  kn_ghosts F T
  k_drop
  rename_i X' T' K' F' N' l0'
  have hI' := ‹IntsAre _ _›
  have hc' : ¬ (63 : Int) < (List.length _ : Int) := ‹¬ _ < _›
  refine wpAny_mono (bodyT X' T' K' codeHd _ lifted hI' ?hlen rfl d1 d2 d3 d4 d5 d6 d7 d8 d9 F' N' l0' ?hk) (fun _ _ x => x) (fun _ _ x => x.elim)
  case hlen => omega
  case hk =>
    intro h' tk' mm' FF hgr
    refine ⟨?_, hgr, trivial⟩
    show GoodW _ _ _ _ _ (.ok (.ret (.bool true))) _
    have hg' : s₁.gens = #[] := by assumption
    refine goodW_bool FF hg' (raisesW_false ?_) ?_
    · wrow_none_raised
    · first | kc_post | wrow_post | rfl)

end Mine
end partFTop

end rulesB
end rulesA

set_option maxRecDepth 100000 in
set_option maxHeartbeats 8000000 in
theorem PySem.Challenge.cw_kl0066_01_holds : PySem.Challenge.rw_kl0066_01.Holds :=
  Mine.top
